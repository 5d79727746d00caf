import Derived.WalkKit
import Derived.Laws.BitsAllLaws
import Derived.Lib.BitFns
namespace Go.Proofs.Ybulkzui
open Go Go.RowKit

/-- the plain two-digit division, no Go in sight -/
theorem knuth (hi lo y P E F : Int) (hP : P * E = 18446744073709551616) (hF : P = F * 4294967296) (F0 : 0 < F) (E0 : 0 < E)
    (h0 : 0 ≤ lo) (h2 : 0 < y) (h4 : 0 ≤ hi) (h5 : hi < y) (hlo : lo < 18446744073709551616)
    (U V d v1 v0 q1 m1 X q0 m0 Z : Int) (eU : U = hi * P + lo / E) (eV : V = lo * P % 18446744073709551616) (ed : d = y * F) (ev1 : v1 = V / 4294967296) (ev0 : v0 = V % 4294967296)
    (eq1 : q1 = U / d) (em1 : m1 = q1 * d) (eX : X = (U - m1) * 4294967296 + v1) (eq0 : q0 = X / d) (em0 : m0 = q0 * d) (eZ : Z = (X - m0) * 4294967296 + v0) :
    0 ≤ U ∧ U < d * 4294967296 ∧ 0 ≤ q1 ∧ q1 < 4294967296 ∧ m1 ≤ U ∧ U < m1 + d ∧ 0 ≤ m1 ∧ 0 ≤ X ∧ X < d * 4294967296 ∧ 0 ≤ q0 ∧ q0 < 4294967296 ∧ m0 ≤ X ∧ X < m0 + d ∧ 0 ≤ m0 ∧ 0 ≤ Z ∧ Z < d * 4294967296 ∧
    q1 * 4294967296 + q0 = (hi * 18446744073709551616 + lo) / y ∧ Z / P = (hi * 18446744073709551616 + lo) % y := by
  have P0 : 0 < P := by omega
  have d0 : 0 < d := by rw [ed]; exact Int.mul_pos h2 F0
  have hyP : y * P = d * 4294967296 := by rw [ed, hF, Int.mul_assoc]
  -- lo cut at E
  have a0 : 0 ≤ lo / E := Int.ediv_nonneg h0 (by omega)
  have b0 : 0 ≤ lo % E := Int.emod_nonneg _ (by omega)
  have b1 : lo % E < E := Int.emod_lt_of_pos _ E0
  have eb : lo = E * (lo / E) + lo % E := (Int.mul_ediv_add_emod lo E).symm
  have loP : lo * P = 18446744073709551616 * (lo / E) + lo % E * P := by
    have : lo * P = (E * (lo / E) + lo % E) * P := by rw [← eb]
    rw [this, Int.add_mul, ← hP, Int.mul_comm P E, Int.mul_assoc, Int.mul_assoc E P, Int.mul_comm P (lo / E)]
  have bP0 : 0 ≤ lo % E * P := Int.mul_nonneg b0 (by omega)
  have bP1 : lo % E * P < 18446744073709551616 := by
    have := Int.mul_lt_mul_of_pos_right b1 P0
    rw [Int.mul_comm E P, hP] at this
    exact this
  have hV : V = lo % E * P := by rw [eV, loP]; omega
  -- U
  have aP : lo / E < P := by
    have : lo < P * E := by omega
    exact Int.ediv_lt_of_lt_mul E0 this
  have hiP0 : 0 ≤ hi * P := Int.mul_nonneg h4 (by omega)
  have hiP1 : hi * P + P ≤ y * P := by
    have : (hi + 1) * P ≤ y * P := Int.mul_le_mul_of_nonneg_right (by omega) (by omega)
    rw [Int.add_mul, Int.one_mul] at this
    exact this
  have U0 : 0 ≤ U := by omega
  have U1 : U < d * 4294967296 := by omega
  have tot : (hi * 18446744073709551616 + lo) * P = U * 18446744073709551616 + V := by
    rw [Int.add_mul, loP, hV, eU, Int.add_mul, Int.mul_assoc, Int.mul_comm 18446744073709551616 P, ← Int.mul_assoc]
    omega
  -- the first digit
  have q10 : 0 ≤ q1 := by rw [eq1]; exact Int.ediv_nonneg U0 (by omega)
  have q11 : q1 < 4294967296 := by rw [eq1]; exact Int.ediv_lt_of_lt_mul d0 (by rw [Int.mul_comm]; exact U1)
  have em1' : m1 = U - U % d := by rw [em1, eq1]; have := Int.mul_ediv_add_emod U d; rw [Int.mul_comm] at this; omega
  have r10 := Int.emod_nonneg U (show d ≠ 0 by omega)
  have r11 := Int.emod_lt_of_pos U d0
  have V0 : 0 ≤ V := by omega
  have v1b : 0 ≤ v1 ∧ v1 < 4294967296 := by omega
  have v0b : 0 ≤ v0 ∧ v0 < 4294967296 := by omega
  have m10 : 0 ≤ m1 := by rw [em1]; exact Int.mul_nonneg q10 (by omega)
  have X0 : 0 ≤ X := by omega
  have X1 : X < d * 4294967296 := by omega
  have q00 : 0 ≤ q0 := by rw [eq0]; exact Int.ediv_nonneg X0 (by omega)
  have q01 : q0 < 4294967296 := by rw [eq0]; exact Int.ediv_lt_of_lt_mul d0 (by rw [Int.mul_comm]; exact X1)
  have em0' : m0 = X - X % d := by rw [em0, eq0]; have := Int.mul_ediv_add_emod X d; rw [Int.mul_comm] at this; omega
  have r00 := Int.emod_nonneg X (show d ≠ 0 by omega)
  have r01 := Int.emod_lt_of_pos X d0
  have m00 : 0 ≤ m0 := by rw [em0]; exact Int.mul_nonneg q00 (by omega)
  have Z0 : 0 ≤ Z := by omega
  have Z1 : Z < d * 4294967296 := by omega
  -- all together
  have all : (hi * 18446744073709551616 + lo) * P = y * (q1 * 4294967296 + q0) * P + Z := by
    have e : y * (q1 * 4294967296 + q0) * P = (m1 * 4294967296 + m0) * 4294967296 := by
      rw [Int.mul_comm y, Int.mul_assoc, hyP, em1, em0, Int.add_mul, Int.add_mul]
      have e1 : q1 * 4294967296 * (d * 4294967296) = q1 * d * 4294967296 * 4294967296 := by
        rw [Int.mul_assoc q1 d, Int.mul_comm d 4294967296, Int.mul_assoc q1 (4294967296 * d), Int.mul_assoc 4294967296 d, Int.mul_assoc q1 4294967296, Int.mul_comm 4294967296 d]
      have e2 : q0 * (d * 4294967296) = q0 * d * 4294967296 := (Int.mul_assoc _ _ _).symm
      rw [e1, e2]
    rw [tot, e]
    omega
  obtain ⟨T, hT⟩ : ∃ T, T = hi * 18446744073709551616 + lo := ⟨_, rfl⟩
  obtain ⟨Q, hQ⟩ : ∃ Q, Q = q1 * 4294967296 + q0 := ⟨_, rfl⟩
  rw [← hT, ← hQ] at all
  have hR : (T - y * Q) * P = Z := by rw [Int.sub_mul]; omega
  have R0 : 0 ≤ T - y * Q := by
    by_cases h : 0 ≤ T - y * Q
    · exact h
    · have := Int.mul_le_mul_of_nonneg_right (show T - y * Q ≤ -1 by omega) (show 0 ≤ P by omega)
      rw [hR] at this
      omega
  have R1 : T - y * Q < y := by
    by_cases h : T - y * Q < y
    · exact h
    · have := Int.mul_le_mul_of_nonneg_right (show y ≤ T - y * Q by omega) (show 0 ≤ P by omega)
      rw [hR, hyP] at this
      omega
  have hdiv : T / y = Q := by
    have e : T = y * Q + (T - y * Q) := by omega
    rw [e, Int.add_comm, Int.add_mul_ediv_left _ _ (by omega), Int.ediv_eq_zero_of_lt R0 R1]
    omega
  have hmod : T % y = T - y * Q := by
    rw [Int.emod_def, hdiv]
  refine ⟨U0, U1, q10, q11, by omega, by omega, m10, X0, X1, q00, q01, by omega, by omega, m00, Z0, Z1, ?_, ?_⟩
  · rw [← hQ, ← hT, hdiv]
  · rw [← hT, hmod, ← hR, Int.mul_ediv_cancel _ (by omega)]

theorem bitLen_zero : Lib.bitLen 0 = 0 := by decide +kernel
/-- the number of bits of a number that is not 0 -/
theorem bitLen_bound : ∀ (k x : Nat), k ≤ 64 → 0 < x → x < 2 ^ k → 2 ^ (Lib.bitLen x - 1) ≤ x ∧ x < 2 ^ Lib.bitLen x ∧ 1 ≤ Lib.bitLen x ∧ Lib.bitLen x ≤ k
  | 0, x, _, h0, hx => by simp at hx; omega
  | k + 1, x, hk, h0, hx => by
    have hx64 : x < 2 ^ 64 := Nat.lt_of_lt_of_le hx (Nat.pow_le_pow_right (by omega) hk)
    have hh := Lib.bitLen_half x (by omega) hx64
    by_cases h1 : x / 2 = 0
    · rw [h1, bitLen_zero] at hh
      rw [hh]
      have : x = 1 := by omega
      subst this
      simp
    · have hx2 : x / 2 < 2 ^ k := by rw [Nat.pow_succ] at hx; omega
      obtain ⟨i1, i2, i3, i4⟩ := bitLen_bound k (x / 2) (by omega) (by omega) hx2
      rw [hh]
      obtain ⟨b, hb⟩ : ∃ b, Lib.bitLen (x / 2) = b + 1 := ⟨Lib.bitLen (x / 2) - 1, by omega⟩
      rw [hb] at i1 i2 i3 i4 ⊢
      have e1 : 1 + (b + 1) - 1 = b + 1 := by omega
      have e2 : 1 + (b + 1) = (b + 1) + 1 := by omega
      rw [e1, e2, Nat.pow_succ 2 (b + 1), Nat.pow_succ 2 b]
      simp only [Nat.add_sub_cancel] at i1
      rw [Nat.pow_succ 2 b] at i2
      omega

theorem and_mask (V : Int) (h0 : 0 ≤ V) (h1 : V < 18446744073709551616) : bits .and .u64 V 4294967295 = V % 4294967296 := by
  rw [u64_and V 4294967295 h0 h1 (by omega) (by omega), show (4294967295 : Int).toNat = 2 ^ 32 - 1 from rfl, Nat.and_two_pow_sub_one_eq_mod]
  obtain ⟨n, rfl⟩ := Int.eq_ofNat_of_zero_le h0
  simp

theorem or_join (hi lo : Int) (s : Nat) (h0 : 0 ≤ hi) (h1 : hi * 2 ^ s < 18446744073709551616) (h2 : 0 ≤ lo) (h3 : lo < 2 ^ s) (hs : s ≤ 63) :
    bits .or .u64 (hi * 2 ^ s) lo = hi * 2 ^ s + lo := by
  have p : (0 : Int) < 2 ^ s := Int.pow_pos (by omega)
  have p64 : (2 : Int) ^ s ≤ 18446744073709551616 := by
    have : (2 : Nat) ^ s ≤ 2 ^ 64 := Nat.pow_le_pow_right (by omega) (by omega)
    have e : ((2 ^ s : Nat) : Int) = (2 : Int) ^ s := by simp
    rw [← e]
    omega
  have n0 : 0 ≤ hi * 2 ^ s := Int.mul_nonneg h0 (by omega)
  rw [u64_or _ _ n0 h1 h2 (by omega)]
  obtain ⟨a, rfl⟩ := Int.eq_ofNat_of_zero_le h0
  obtain ⟨b, rfl⟩ := Int.eq_ofNat_of_zero_le h2
  have e : ((2 ^ s : Nat) : Int) = (2 : Int) ^ s := by simp
  rw [← e] at h3 ⊢
  rw [← Int.natCast_mul, Int.toNat_natCast, Int.toNat_natCast]
  have hb : b < 2 ^ s := by omega
  rw [nat_join s (a * 2 ^ s) b (by simp) hb]
  simp

end Go.Proofs.Ybulkzui
