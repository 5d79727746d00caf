import Derived.Test.YbulkzuiRows
import Derived.Test.YbulkzuiShelf
import Derived.Test.YbulkzuiKnuth
import Derived.WalkKit
import Derived.ProofKit
import Derived.Outline
import Derived.WalkLawsBesides
import Derived.Laws.BitsAllLaws
import Derived.Laws.Externs
import Derived.Deep.QuietTactic
import Derived.BigQuiet
set_option linter.unusedVariables false
namespace Go.Proofs.Ybulkzui
open Go Go.RowKit

set_option maxHeartbeats 400000 in
theorem div_walk (hi lo y : Int) (s : Nat) (h0 : 0 ≤ lo) (h1 : lo < 18446744073709551616) (h2 : 0 < y) (h3 : y < 4294967296) (h4 : 0 < hi) (h5 : hi < y) (w : World)
    (s1 : 32 ≤ s) (s2 : s ≤ 63)
    (HL : ∀ w, Calls Yba.prog 29 #[.int .u64 y] w fun e w' => e = .returned (.int .i64 s) ∧ w' = w)
    (Y d U V v1 v0 q1 m1 X q0 m0 Z : Int) (d0 : 0 < d) (d1 : d < 4294967296) (u0 : 0 ≤ U) (u1 : U < 18446744073709551616) (v10 : 0 ≤ v1) (v11 : v1 < 4294967296) (v00 : 0 ≤ v0) (v01 : v0 < 4294967296)
    (q10 : 0 ≤ q1) (q11 : q1 < 4294967296) (m10 : 0 ≤ m1) (m11 : m1 ≤ U) (m12 : U < m1 + d)
    (hA : IntKind.u64.wrap (y * 2 ^ s) = Y) (hB : Y / 4294967296 = d) (hC : bits BinOp.and IntKind.u64 Y 4294967295 = 0)
    (hD : bits BinOp.or IntKind.u64 (IntKind.u64.wrap (hi * 2 ^ s)) (lo / 2 ^ (64 - s)) = U)
    (hE : IntKind.u64.wrap (lo * 2 ^ s) = V) (hF : V / 4294967296 = v1) (hG : bits BinOp.and IntKind.u64 V 4294967295 = v0)
    (hq1 : U / d = q1) (hm1 : q1 * d = m1)
    (x0 : 0 ≤ X) (x1 : X < 18446744073709551616) (q00 : 0 ≤ q0) (q01 : q0 < 4294967296) (m00 : 0 ≤ m0) (m01 : m0 ≤ X) (m02 : X < m0 + d) (z0 : 0 ≤ Z)
    (hX : IntKind.u64.wrap (IntKind.u64.wrap (IntKind.u64.wrap (U * 4294967296) + v1) - IntKind.u64.wrap (q1 * Y)) = X)
    (hq0 : X / d = q0) (hm0 : q0 * d = m0)
    (hZ : IntKind.u64.wrap (IntKind.u64.wrap (IntKind.u64.wrap (X * 4294967296) + v0) - IntKind.u64.wrap (q0 * Y)) = Z) :
    Calls Yba.prog 20 #[.int .u64 hi, .int .u64 lo, .int .u64 y] w fun e w' => e = .returned (.tuple #[.int .u64 (q1 * 4294967296 + q0), .int .u64 (Z / 2 ^ s)]) ∧ w' = w := by
  have hy : (y == 0) = false := by simp; omega
  have hhi : (hi == 0) = false := by simp; omega
  go_enter Yba.func20, Yba.ntmps20
  go_wp2_with (go_at_call 29; refine (HL _).mono ?_; rintro e w' ⟨rfl, rfl⟩)
  refine wp_loop_rounds 1 ?_
  rw [rounds_succ]
  go_wp2
  refine wp_loop_rounds 1 ?_
  rw [rounds_succ]
  go_wp2
  go_ret2
  exact ⟨rfl, rfl⟩
theorem lz_any (y : Int) (h2 : 0 < y) (h3 : y < 4294967296) : ∃ s : Nat, 32 ≤ s ∧ s ≤ 63 ∧ y * 2 ^ s < 18446744073709551616 ∧ 9223372036854775808 ≤ y * 2 ^ s ∧
    ∀ w, Calls Yba.prog 29 #[.int .u64 y] w fun e w' => e = .returned (.int .i64 s) ∧ w' = w := by
  obtain ⟨n, rfl⟩ := Int.eq_ofNat_of_zero_le (Int.le_of_lt h2)
  obtain ⟨b1, b2, b3, b4⟩ := bitLen_bound 32 n (by omega) (by omega) (by omega)
  refine ⟨64 - Lib.bitLen n, by omega, by omega, ?_, ?_, fun w => ?_⟩
  · have : n * 2 ^ (64 - Lib.bitLen n) < 2 ^ Lib.bitLen n * 2 ^ (64 - Lib.bitLen n) := Nat.mul_lt_mul_of_pos_right b2 (Nat.pow_pos (by omega))
    rw [← Nat.pow_add, show Lib.bitLen n + (64 - Lib.bitLen n) = 64 by omega] at this
    have e : ((n * 2 ^ (64 - Lib.bitLen n) : Nat) : Int) = (n : Int) * 2 ^ (64 - Lib.bitLen n) := by simp
    rw [← e]
    omega
  · have : 2 ^ (Lib.bitLen n - 1) * 2 ^ (64 - Lib.bitLen n) ≤ n * 2 ^ (64 - Lib.bitLen n) := Nat.mul_le_mul_right _ b1
    rw [← Nat.pow_add, show Lib.bitLen n - 1 + (64 - Lib.bitLen n) = 63 by omega] at this
    have e : ((n * 2 ^ (64 - Lib.bitLen n) : Nat) : Int) = (n : Int) * 2 ^ (64 - Lib.bitLen n) := by simp
    rw [← e]
    omega
  · refine (Yba.bits_LeadingZeros64 (n : Int) w (by omega) (by omega)).mono ?_
    rintro e w' ⟨rfl, rfl⟩
    refine ⟨?_, rfl⟩
    rw [Int.toNat_natCast, show ((64 - Lib.bitLen n : Nat) : Int) = 64 - (Lib.bitLen n : Int) by omega]

theorem div1 (hi lo y : Int) (h0 : 0 ≤ lo) (h1 : lo < 18446744073709551616) (h2 : 0 < y) (h3 : y < 4294967296) (h4 : 0 < hi) (h5 : hi < y) (w : World) :
    Calls Yba.prog 20 #[.int .u64 hi, .int .u64 lo, .int .u64 y] w fun e w' => e = .returned (.tuple #[.int .u64 ((hi * 18446744073709551616 + lo) / y), .int .u64 ((hi * 18446744073709551616 + lo) % y)]) ∧ w' = w := by
  obtain ⟨s, s1, s2, n1, n2, HL⟩ := lz_any y h2 h3
  have cast : ∀ k : Nat, ((2 ^ k : Nat) : Int) = (2 : Int) ^ k := by intro k; simp
  have hP : (2 : Int) ^ s * 2 ^ (64 - s) = 18446744073709551616 := by
    rw [← Int.pow_add, show s + (64 - s) = 64 by omega]; rfl
  have hF : (2 : Int) ^ s = 2 ^ (s - 32) * 4294967296 := by
    have : (2 : Int) ^ s = 2 ^ (s - 32) * 2 ^ 32 := by rw [← Int.pow_add, show s - 32 + 32 = s by omega]
    rw [this]; rfl
  have F0 : (0 : Int) < 2 ^ (s - 32) := Int.pow_pos (by omega)
  have E0 : (0 : Int) < 2 ^ (64 - s) := Int.pow_pos (by omega)
  have P0 : (0 : Int) < 2 ^ s := Int.pow_pos (by omega)
  obtain ⟨P, eP⟩ : ∃ P, P = (2 : Int) ^ s := ⟨_, rfl⟩
  obtain ⟨E, eE⟩ : ∃ E, E = (2 : Int) ^ (64 - s) := ⟨_, rfl⟩
  obtain ⟨F, eF⟩ : ∃ F, F = (2 : Int) ^ (s - 32) := ⟨_, rfl⟩
  obtain ⟨k1, k2, k3, k4, k5, k6, k7, k8, k9, k10, k11, k12, k13, k14, k15, k16, k17, k18⟩ :=
    knuth hi lo y P E F (by rw [eP, eE]; exact hP) (by rw [eP, eF]; exact hF) (by omega) (by omega) h0 h2 (by omega) h5 h1 _ _ _ _ _ _ _ _ _ _ _ rfl rfl rfl rfl rfl rfl rfl rfl rfl rfl rfl
  have hY : y * P = y * F * 4294967296 := by rw [eP, hF, eF, Int.mul_assoc]
  have n1' : y * P < 18446744073709551616 := by rw [eP]; exact n1
  have n2' : 9223372036854775808 ≤ y * P := by rw [eP]; exact n2
  have hiP : hi * P ≤ y * P := Int.mul_le_mul_of_nonneg_right (by omega) (by omega)
  have hiP0 : 0 ≤ hi * P := Int.mul_nonneg (by omega) (by omega)
  have loE0 : 0 ≤ lo / E := Int.ediv_nonneg h0 (by omega)
  have loE1 : lo / E < P := Int.ediv_lt_of_lt_mul (by omega) (by rw [eP, eE, hP]; exact h1)
  have V0 : 0 ≤ lo * P % 18446744073709551616 := Int.emod_nonneg _ (by omega)
  have V1 : lo * P % 18446744073709551616 < 18446744073709551616 := Int.emod_lt_of_pos _ (by omega)
  refine (div_walk hi lo y s h0 h1 h2 h3 h4 h5 w s1 s2 HL (y * P) (y * F) (hi * P + lo / E) (lo * P % 18446744073709551616) (lo * P % 18446744073709551616 / 4294967296) (lo * P % 18446744073709551616 % 4294967296)
    _ _ _ _ _ _ (by omega) (by omega) k1 (by omega) (by omega) (by omega) (by omega) (by omega) k3 k4 k7 k5 k6 ?_ (by omega) ?_ ?_ ?_ rfl ?_ rfl rfl k8 (by omega) k10 k11 k14 k12 k13 k15 ?_ rfl rfl ?_).mono ?_
  · rw [IntKind.wrap_u64, ← eP]; omega
  · rw [and_mask _ (by omega) (by omega)]; omega
  · rw [IntKind.wrap_u64, ← eP, ← eE]
    rw [show hi * P % 18446744073709551616 = hi * P by omega, eP]
    exact or_join hi (lo / E) s (by omega) (by rw [← eP]; omega) loE0 (by rw [← eP]; exact loE1) s2
  · rw [IntKind.wrap_u64, ← eP]
  · exact and_mask _ V0 V1
  · simp only [IntKind.wrap_u64]
    obtain ⟨q1, hq1⟩ : ∃ q1, q1 = (hi * P + lo / E) / (y * F) := ⟨_, rfl⟩
    rw [← hq1] at k7 k5 k6 k8 k9 ⊢
    have e : q1 * (y * P) = q1 * (y * F) * 4294967296 := by rw [hY, Int.mul_assoc q1]
    rw [e]
    omega
  · simp only [IntKind.wrap_u64]
    obtain ⟨X, hX⟩ : ∃ X, X = (hi * P + lo / E - (hi * P + lo / E) / (y * F) * (y * F)) * 4294967296 + lo * P % 18446744073709551616 / 4294967296 := ⟨_, rfl⟩
    rw [← hX] at k8 k9 k10 k11 k12 k13 k14 k15 k16 ⊢
    obtain ⟨q0, hq0⟩ : ∃ q0, q0 = X / (y * F) := ⟨_, rfl⟩
    rw [← hq0] at k10 k11 k12 k13 k14 k15 k16 ⊢
    have e : q0 * (y * P) = q0 * (y * F) * 4294967296 := by rw [hY, Int.mul_assoc q0]
    rw [e]
    omega
  · rintro e w' ⟨rfl, rfl⟩
    refine ⟨?_, rfl⟩
    rw [k17, ← eP, k18]

set_option maxHeartbeats 400000 in
theorem div0 (lo y : Int) (h0 : 0 ≤ lo) (h1 : lo < 18446744073709551616) (h2 : 0 < y) (h3 : y < 18446744073709551616) (w : World) :
    Calls Yba.prog 20 #[.int .u64 0, .int .u64 lo, .int .u64 y] w fun e w' => e = .returned (.tuple #[.int .u64 (lo / y), .int .u64 (lo % y)]) ∧ ∃ n, w' = w.drewN n := by
  have hy : (y == 0) = false := by simp; omega
  go_enter Yba.func20, Yba.ntmps20
  go_wp2
  go_quiet (fail)
  go_wp2
  go_ret2
  exact ⟨rfl, _, rfl⟩

theorem div_any (hi lo y : Int) (h0 : 0 ≤ lo) (h1 : lo < 18446744073709551616) (h2 : 0 < y) (h3 : y < 4294967296) (h4 : 0 ≤ hi) (h5 : hi < y) (w : World) :
    Calls Yba.prog 20 #[.int .u64 hi, .int .u64 lo, .int .u64 y] w fun e w' => e = .returned (.tuple #[.int .u64 ((hi * 18446744073709551616 + lo) / y), .int .u64 ((hi * 18446744073709551616 + lo) % y)]) ∧ ∃ n, w' = w.drewN n := by
  by_cases h : hi = 0
  · subst h
    refine (div0 lo y h0 h1 h2 (by omega) w).mono ?_
    rintro e w' ⟨rfl, n, rfl⟩
    exact ⟨by simp, n, rfl⟩
  · refine (div1 hi lo y h0 h1 h2 h3 (by omega) h5 w).mono ?_
    rintro e w' ⟨rfl, rfl⟩
    exact ⟨rfl, 0, rfl⟩

theorem mul_any (x y : Int) (hx0 : 0 ≤ x) (hx : x < 18446744073709551616) (hy0 : 0 ≤ y) (hy : y < 18446744073709551616) (w : World) :
    Calls Yba.prog 18 #[.int .u64 x, .int .u64 y] w fun e w' => e = .returned (.tuple #[.int .u64 (x * y / 18446744073709551616), .int .u64 (x * y % 18446744073709551616)]) ∧ w' = w := by
  obtain ⟨a, rfl⟩ := Int.eq_ofNat_of_zero_le hx0
  obtain ⟨b, rfl⟩ := Int.eq_ofNat_of_zero_le hy0
  refine (Yba.bits_Mul64 a b (by omega) (by omega) w).mono ?_
  rintro e w' ⟨rfl, rfl⟩
  exact ⟨by simp, rfl⟩

theorem add64_0 (x y : Int) (hx : 0 ≤ x) (hy : 0 ≤ y) (w : World) : (callFunc 19 #[.int .u64 x, .int .u64 y, .int .u64 0]).run Yba.prog w =
    .ok (.value (.tuple #[.int .u64 ((x + y) % 18446744073709551616), .int .u64 ((x + y) / 18446744073709551616)])) w := by
  rw [run_callFunc_extern Yba.func19 (by kernel_rfl) (by kernel_rfl) (by kernel_rfl) (e := add64Entry) (by kernel_rfl), run_add64 x y 0 hx hy (by omega) (by omega)]
  simp only [Result.andThen, Int.add_zero]

end Go.Proofs.Ybulkzui
