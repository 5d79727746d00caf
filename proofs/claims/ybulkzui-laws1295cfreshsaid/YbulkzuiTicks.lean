import Derived.Test.YbulkzuiBits
set_option linter.unusedVariables false
namespace Go.Proofs.Ybulkzui
open Go Go.RowKit

/-- 10^9 times m ticks and half a tick of a clock of sc ticks a second -/
def tot (m sc : Int) : Int := m * 1000000000 + sc / 2
def partD (m sc : Int) : Int := if sc ≤ tot m sc / 18446744073709551616 then 0 else wrap64 (tot m sc / sc)
def partB (m sc : Int) : Bool := if sc ≤ tot m sc / 18446744073709551616 then false else decide (tot m sc / sc ≤ 9223372036854775807)

set_option maxHeartbeats 1000000 in
theorem part_any (n per sc : Int) (w : World) (hn : 0 ≤ n) (hn1 : n ≤ 9223372036854775807) (hp : 0 ≤ per) (hp1 : per ≤ 9223372036854775807) (m : Int) (hm : n * per = m) (hm1 : m < 18446744073709551616) (hs : 0 ≤ sc) (hs1 : sc < 4294967296) :
    Calls Yba.prog 10 #[.int .i64 n, .int .i64 per, .int .u32 sc, .int .i64 1] w fun e w' => e = .returned (.tuple #[.int .i64 (partD m sc), .bool (partB m sc)]) ∧ ∃ k, w' = w.drewN k := by
  have hm0 : 0 ≤ m := by rw [← hm]; exact Int.mul_nonneg hn hp
  obtain ⟨hi0, ehi⟩ : ∃ a, a = m * 1000000000 / 18446744073709551616 := ⟨_, rfl⟩
  obtain ⟨lo0, elo⟩ : ∃ a, a = m * 1000000000 % 18446744073709551616 := ⟨_, rfl⟩
  have M1 : ∀ w, Calls Yba.prog 18 #[.int .u64 n, .int .u64 per] w fun e w' => e = .returned (.tuple #[.int .u64 0, .int .u64 m]) ∧ w' = w := by
    intro w
    refine (mul_any n per hn (by omega) hp (by omega) w).mono ?_
    rintro e w' ⟨rfl, rfl⟩
    rw [hm, show m / 18446744073709551616 = 0 by omega, show m % 18446744073709551616 = m by omega]
    exact ⟨rfl, rfl⟩
  have M2 : ∀ w, Calls Yba.prog 18 #[.int .u64 sc, .int .u64 1] w fun e w' => e = .returned (.tuple #[.int .u64 0, .int .u64 sc]) ∧ w' = w := by
    intro w
    refine (mul_any sc 1 hs (by omega) (by omega) (by omega) w).mono ?_
    rintro e w' ⟨rfl, rfl⟩
    rw [show sc * 1 / 18446744073709551616 = 0 by omega, show sc * 1 % 18446744073709551616 = sc by omega]
    exact ⟨rfl, rfl⟩
  have M3 : ∀ w, Calls Yba.prog 18 #[.int .u64 m, .int .u64 1000000000] w fun e w' => e = .returned (.tuple #[.int .u64 hi0, .int .u64 lo0]) ∧ w' = w := by
    intro w
    refine (mul_any m 1000000000 hm0 (by omega) (by omega) (by omega) w).mono ?_
    rintro e w' ⟨rfl, rfl⟩
    rw [← ehi, ← elo]
    exact ⟨rfl, rfl⟩
  obtain ⟨cy, ecy⟩ : ∃ a, a = (lo0 + sc / 2) / 18446744073709551616 := ⟨_, rfl⟩
  obtain ⟨lo1, elo1⟩ : ∃ a, a = (lo0 + sc / 2) % 18446744073709551616 := ⟨_, rfl⟩
  have b1 : 0 ≤ lo0 := by omega
  have b2 : 0 ≤ sc / 2 := by omega
  have b3 : 0 ≤ hi0 := by omega
  have b4 : hi0 ≤ 1000000000 := by omega
  have b5 : 0 ≤ cy := by omega
  have b6 : cy ≤ 1 := by omega
  have b7 : 0 ≤ lo1 := by omega
  have b8 : lo1 < 18446744073709551616 := by omega
  have A1 : ∀ w, (callFunc 19 #[.int .u64 lo0, .int .u64 (sc / 2), .int .u64 0]).run Yba.prog w = .ok (.value (.tuple #[.int .u64 lo1, .int .u64 cy])) w := by
    intro w; rw [add64_0 lo0 (sc / 2) b1 b2 w, elo1, ecy]
  have t1 : tot m sc / 18446744073709551616 = hi0 + cy := by unfold tot; omega
  have t2 : (hi0 + cy) * 18446744073709551616 + lo1 = tot m sc := by unfold tot; omega
  clear ehi elo ecy elo1
  by_cases hc : sc ≤ hi0 + cy
  · have e1 : 0 = partD m sc := by unfold partD; rw [t1, if_pos hc]
    have e2 : false = partB m sc := by unfold partB; rw [t1, if_pos hc]
    rw [← e1, ← e2]
    clear t1 t2 e1 e2 hm
    go_enter Yba.func10, Yba.ntmps10
    go_wp2_with fail
    refine (M1 _).mono ?_
    rintro e w' ⟨rfl, rfl⟩
    go_wp2_with fail
    refine (M2 _).mono ?_
    rintro e w' ⟨rfl, rfl⟩
    go_wp2_with fail
    refine (M3 _).mono ?_
    rintro e w' ⟨rfl, rfl⟩
    go_wp2
    go_ret2
    exact ⟨rfl, 0, rfl⟩
  · have e1 : wrap64 (tot m sc / sc) = partD m sc := by unfold partD; rw [t1, if_neg hc]
    have e2 : decide (tot m sc / sc ≤ 9223372036854775807) = partB m sc := by unfold partB; rw [t1, if_neg hc]
    have D1 : ∀ w, Calls Yba.prog 20 #[.int .u64 (hi0 + cy), .int .u64 lo1, .int .u64 sc] w fun e w' => e = .returned (.tuple #[.int .u64 (tot m sc / sc), .int .u64 (tot m sc % sc)]) ∧ ∃ n, w' = w.drewN n := by
      intro w
      have := div_any (hi0 + cy) lo1 sc b7 b8 (by omega) hs1 (by omega) (by omega) w
      rw [t2] at this
      exact this
    have q0 : 0 ≤ tot m sc / sc := Int.ediv_nonneg (by unfold tot; omega) hs
    have q1 : tot m sc / sc < 18446744073709551616 := Int.ediv_lt_of_lt_mul (by omega) (by rw [← t2]; omega)
    rw [← e1, ← e2]
    obtain ⟨q, eq⟩ : ∃ q, q = tot m sc / sc := ⟨_, rfl⟩
    obtain ⟨r, er⟩ : ∃ r, r = tot m sc % sc := ⟨_, rfl⟩
    rw [← eq] at q0 q1 ⊢
    simp only [← eq, ← er] at D1
    clear t1 t2 e1 e2 hm eq er
    go_enter Yba.func10, Yba.ntmps10
    go_wp2_with fail
    refine (M1 _).mono ?_
    rintro e w' ⟨rfl, rfl⟩
    go_wp2_with fail
    refine (M2 _).mono ?_
    rintro e w' ⟨rfl, rfl⟩
    go_wp2_with fail
    refine (M3 _).mono ?_
    rintro e w' ⟨rfl, rfl⟩
    go_wp2_with (go_at_call 20; refine (D1 _).mono ?_; rintro e w' ⟨rfl, k, rfl⟩)
    go_ret2
    exact ⟨rfl, _, rfl⟩

theorem ret_int {k : IntKind} {a b : Int} (h : a = b) : Ending.returned (.int k a) = .returned (.int k b) := by rw [h]
def frac (r sc : Int) : Int := (r * 1000000000 + sc / 2) / sc
theorem frac_any (r sc : Int) (w : World) (h0 : 0 ≤ r) (h1 : r ≤ sc) (h2 : 0 < sc) (h3 : sc < 4294967296) :
    Calls Yba.prog 22 #[.int .i64 r, .int .i64 sc] w fun e w' => e = .returned (.int .i64 (frac r sc)) ∧ w' = w := by
  have q0 : 0 ≤ (r * 1000000000 + sc / 2) / sc := Int.ediv_nonneg (by omega) (by omega)
  have q1 : (r * 1000000000 + sc / 2) / sc ≤ 1000000001 := by
    have : (r * 1000000000 + sc / 2) / sc < 1000000001 + 1 := Int.ediv_lt_of_lt_mul h2 (by omega)
    omega
  obtain ⟨q, hq⟩ : ∃ q, q = (r * 1000000000 + sc / 2) / sc := ⟨_, rfl⟩
  have e : frac r sc = q := by unfold frac; exact hq.symm
  rw [e]
  have HQ : (r * 1000000000 + sc / 2) / sc = q := hq.symm
  rw [HQ] at q0 q1
  clear e hq
  go_enter Yba.func22, Yba.ntmps22
  go_wp2
  go_ret
  exact ⟨ret_int HQ, rfl⟩

theorem ret_ib {a a' : Int} {b b' : Bool} (ha : a = a') (hb : b = b') : Ending.returned (.tuple #[.int .i64 a, .bool b]) = .returned (.tuple #[.int .i64 a', .bool b']) := by rw [ha, hb]
def nanoD (sec fr : Int) : Int := wrap64 (wrap64 (sec * 1000000000) + fr)
def nanoB (sec fr : Int) : Bool := decide (-9223372036 ≤ sec ∨ (sec = -9223372037 ∧ 145224192 ≤ fr))
theorem nano_any (sec fr : Int) (w : World) (h0 : sec < 0) (h1 : -9223372038 ≤ sec) (h2 : 0 ≤ fr) (h3 : fr ≤ 1000000001) :
    Calls Yba.prog 23 #[.int .i64 sec, .int .i64 fr] w fun e w' => e = .returned (.tuple #[.int .i64 (nanoD sec fr), .bool (nanoB sec fr)]) ∧ w' = w := by
  go_enter Yba.func23, Yba.ntmps23
  go_wp2
  · go_ret2
    exact ⟨ret_ib (by unfold nanoD; rw [‹sec = _›]; simp) (by unfold nanoB; rw [Bool.eq_iff_iff, decide_eq_true_eq, decide_eq_true_eq]; omega), rfl⟩
  · go_ret2
    exact ⟨ret_ib rfl (by unfold nanoB; rw [Bool.eq_iff_iff, decide_eq_true_eq, decide_eq_true_eq]; omega), rfl⟩
  · go_ret2
    exact ⟨ret_ib rfl (by unfold nanoB; symm; rw [decide_eq_true_eq]; omega), rfl⟩

theorem split_zero (m : Int) (w : World) (h0 : 0 ≤ m) (h1 : m < 18446744073709551616) :
    Calls Yba.prog 21 #[.int .u64 m, .int .u64 1, .int .u32 0] w fun e w' => e = .returned (.tuple #[.int .u64 0, .int .u64 0, .bool false]) ∧ w' = w := by
  have M1 : ∀ w, Calls Yba.prog 18 #[.int .u64 m, .int .u64 1] w fun e w' => e = .returned (.tuple #[.int .u64 0, .int .u64 m]) ∧ w' = w := by
    intro w
    refine (mul_any m 1 h0 (by omega) (by omega) (by omega) w).mono ?_
    rintro e w' ⟨rfl, rfl⟩
    rw [show m * 1 / 18446744073709551616 = 0 by omega, show m * 1 % 18446744073709551616 = m by omega]
    exact ⟨rfl, rfl⟩
  go_enter Yba.func21, Yba.ntmps21
  go_wp2_with (go_at_call 18; refine (M1 _).mono ?_; rintro e w' ⟨rfl, rfl⟩)
  go_ret3
  exact ⟨rfl, rfl⟩

theorem split_any (m sc : Int) (w : World) (h0 : 0 ≤ m) (h1 : m < 18446744073709551616) (h2 : 0 < sc) (h3 : sc < 4294967296) :
    Calls Yba.prog 21 #[.int .u64 m, .int .u64 1, .int .u32 sc] w fun e w' => e = .returned (.tuple #[.int .u64 (m / sc), .int .u64 (m % sc), .bool true]) ∧ ∃ k, w' = w.drewN k := by
  have M1 : ∀ w, Calls Yba.prog 18 #[.int .u64 m, .int .u64 1] w fun e w' => e = .returned (.tuple #[.int .u64 0, .int .u64 m]) ∧ w' = w := by
    intro w
    refine (mul_any m 1 h0 (by omega) (by omega) (by omega) w).mono ?_
    rintro e w' ⟨rfl, rfl⟩
    rw [show m * 1 / 18446744073709551616 = 0 by omega, show m * 1 % 18446744073709551616 = m by omega]
    exact ⟨rfl, rfl⟩
  go_enter Yba.func21, Yba.ntmps21
  go_wp2_with (first | (go_at_call 18; refine (M1 _).mono ?_; rintro e w' ⟨rfl, rfl⟩) | (go_at_call 20; refine (div0 _ _ h0 h1 h2 (by omega) _).mono ?_; rintro e w' ⟨rfl, k, rfl⟩))
  go_ret3
  exact ⟨rfl, _, rfl⟩

def sumB (a b : Int) : Bool := decide (wrap64 (a + b) < a) == decide (b < 0)
theorem sum_any (a b : Int) (w : World) :
    Calls Yba.prog 25 #[.int .i64 a, .int .i64 b] w fun e w' => e = .returned (.tuple #[.int .i64 (wrap64 (a + b)), .bool (sumB a b)]) ∧ w' = w := by
  go_enter Yba.func25, Yba.ntmps25
  go_wp2
  go_ret2
  exact ⟨rfl, rfl⟩

/-- what Held(n, 1, sc) gives -/
def heldD (n sc : Int) : Int :=
  if 0 ≤ n then partD n sc else if sc ≤ 0 then 0 else if 9223372036 < -n / sc then 0
  else if -n % sc = 0 then nanoD (-(-n / sc)) (frac 0 sc) else nanoD (-(-n / sc + 1)) (frac (sc - -n % sc) sc)
def heldB (n sc : Int) : Bool :=
  if 0 ≤ n then partB n sc else if sc ≤ 0 then false else if 9223372036 < -n / sc then false
  else if -n % sc = 0 then nanoB (-(-n / sc)) (frac 0 sc) else nanoB (-(-n / sc + 1)) (frac (sc - -n % sc) sc)

theorem frac_bd (r sc : Int) (h0 : 0 ≤ r) (h1 : r ≤ sc) (h2 : 0 < sc) : 0 ≤ frac r sc ∧ frac r sc ≤ 1000000001 := by
  unfold frac
  refine ⟨Int.ediv_nonneg (by omega) (by omega), ?_⟩
  have : (r * 1000000000 + sc / 2) / sc < 1000000001 + 1 := Int.ediv_lt_of_lt_mul h2 (by omega)
  omega

set_option maxHeartbeats 1000000 in
theorem held_any (n sc : Int) (w : World) (hn : -9223372036854775808 ≤ n) (hn1 : n ≤ 9223372036854775807) (hs : 0 ≤ sc) (hs1 : sc < 4294967296) :
    Calls Yba.prog 24 #[.int .i64 n, .int .i64 1, .int .u32 sc] w fun e w' => e = .returned (.tuple #[.int .i64 (heldD n sc), .bool (heldB n sc)]) ∧ ∃ k, w' = w.drewN k := by
  by_cases h0 : 0 ≤ n
  · have e1 : heldD n sc = partD n sc := by unfold heldD; rw [if_pos h0]
    have e2 : heldB n sc = partB n sc := by unfold heldB; rw [if_pos h0]
    rw [e1, e2]
    clear e1 e2
    go_enter Yba.func24, Yba.ntmps24
    go_wp2_with (go_at_call 10; refine (part_any _ _ _ _ h0 hn1 (by omega) (by omega) n (by omega) (by omega) hs hs1).mono ?_; rintro e w' ⟨rfl, k, rfl⟩)
    go_ret2
    exact ⟨rfl, _, rfl⟩
  · obtain ⟨m, hm⟩ : ∃ m, m = -n := ⟨_, rfl⟩
    have m0 : 0 < m := by omega
    have m1 : m ≤ 9223372036854775808 := by omega
    have hneg : IntKind.u64.wrap (wrap64 (-n)) = m := by rw [IntKind.wrap_u64]; unfold wrap64; omega
    by_cases hz : sc = 0
    · subst hz
      have e1 : heldD n 0 = 0 := by unfold heldD; rw [if_neg h0, if_pos (by omega)]
      have e2 : heldB n 0 = false := by unfold heldB; rw [if_neg h0, if_pos (by omega)]
      rw [e1, e2]
      clear e1 e2 hm
      go_enter Yba.func24, Yba.ntmps24
      go_wp2_with (go_at_call 21; refine (split_zero _ _ (by omega) (by omega)).mono ?_; rintro e w' ⟨rfl, rfl⟩)
      go_ret2
      exact ⟨rfl, 0, rfl⟩
    · have e1 : heldD n sc = if 9223372036 < m / sc then 0 else if m % sc = 0 then nanoD (-(m / sc)) (frac 0 sc) else nanoD (-(m / sc + 1)) (frac (sc - m % sc) sc) := by
        unfold heldD; rw [if_neg h0, if_neg (by omega), ← hm]
      have e2 : heldB n sc = if 9223372036 < m / sc then false else if m % sc = 0 then nanoB (-(m / sc)) (frac 0 sc) else nanoB (-(m / sc + 1)) (frac (sc - m % sc) sc) := by
        unfold heldB; rw [if_neg h0, if_neg (by omega), ← hm]
      rw [e1, e2]
      have SP := fun w => split_any m sc w (by omega) (by omega) (by omega) hs1
      have q0 : 0 ≤ m / sc := Int.ediv_nonneg (by omega) hs
      have q1 : m / sc ≤ 9223372036854775808 := by
        have : m / sc < 9223372036854775808 + 1 := Int.ediv_lt_of_lt_mul (by omega) (by omega)
        omega
      have r0 : 0 ≤ m % sc := Int.emod_nonneg _ hz
      have r1 : m % sc < sc := Int.emod_lt_of_pos _ (by omega)
      have hq : m = sc * (m / sc) + m % sc := (Int.mul_ediv_add_emod m sc).symm
      have q2 : m % sc = 0 → 0 < m / sc := by
        intro h
        by_cases h' : 0 < m / sc
        · exact h'
        · have : m / sc = 0 := by omega
          rw [this, h] at hq
          omega
      obtain ⟨q, eq⟩ : ∃ q, q = m / sc := ⟨_, rfl⟩
      obtain ⟨r, er⟩ : ∃ r, r = m % sc := ⟨_, rfl⟩
      simp only [← eq, ← er] at SP q0 q1 r0 r1 q2 ⊢
      clear e1 e2 hm hq eq er
      by_cases c1 : 9223372036 < q
      · rw [if_pos c1, if_pos c1]
        clear q2
        go_enter Yba.func24, Yba.ntmps24
        go_wp2_with (go_at_call 21; refine (SP _).mono ?_; rintro e w' ⟨rfl, k, rfl⟩)
        go_ret2
        exact ⟨rfl, _, rfl⟩
      · rw [if_neg c1, if_neg c1]
        by_cases c2 : r = 0
        · have q3 := q2 c2
          rw [if_pos c2, if_pos c2]
          subst c2
          have fb := frac_bd 0 sc (by omega) (by omega) (by omega)
          clear q2
          go_enter Yba.func24, Yba.ntmps24
          go_wp2_with (first | (go_at_call 21; refine (SP _).mono ?_; rintro e w' ⟨rfl, k, rfl⟩) | (go_at_call 22; refine (frac_any _ _ _ (by omega) (by omega) (by omega) hs1).mono ?_; rintro e w' ⟨rfl, rfl⟩) | (go_at_call 23; refine (nano_any _ _ _ (by omega) (by omega) fb.1 fb.2).mono ?_; rintro e w' ⟨rfl, rfl⟩))
          go_ret2
          exact ⟨rfl, _, rfl⟩
        · rw [if_neg c2, if_neg c2]
          have fb := frac_bd (sc - r) sc (by omega) (by omega) (by omega)
          clear q2
          have c2' : 0 < r := by omega
          go_enter Yba.func24, Yba.ntmps24
          go_wp2_with (first | (go_at_call 21; refine (SP _).mono ?_; rintro e w' ⟨rfl, k, rfl⟩) | (go_at_call 22; refine (frac_any _ _ _ (by omega) (by omega) (by omega) hs1).mono ?_; rintro e w' ⟨rfl, rfl⟩) | (go_at_call 23; refine (nano_any _ _ _ (by omega) (by omega) fb.1 fb.2).mono ?_; rintro e w' ⟨rfl, rfl⟩))
          go_ret2
          exact ⟨rfl, _, rfl⟩

/-- at a rate of 10^9 ticks a second a tick is a nanosecond -/
theorem held_nano (n : Int) (hn : -9223372036854775808 ≤ n) (hn1 : n ≤ 9223372036854775807) : heldD n 1000000000 = n ∧ heldB n 1000000000 = true := by
  by_cases h0 : 0 ≤ n
  · unfold heldD heldB
    rw [if_pos h0, if_pos h0]
    unfold partD partB tot
    rw [if_neg (by omega), if_neg (by omega)]
    refine ⟨?_, ?_⟩
    · unfold wrap64; omega
    · rw [decide_eq_true_eq]; omega
  · have c0 : ¬ (1000000000 : Int) ≤ 0 := by omega
    have c1 : ¬ 9223372036 < -n / 1000000000 := by omega
    unfold heldD heldB
    rw [if_neg h0, if_neg h0, if_neg c0, if_neg c0, if_neg c1, if_neg c1]
    by_cases c : -n % 1000000000 = 0
    · rw [if_pos c, if_pos c]
      unfold nanoD nanoB frac
      refine ⟨?_, ?_⟩
      · unfold wrap64; omega
      · rw [decide_eq_true_eq]; omega
    · rw [if_neg c, if_neg c]
      unfold nanoD nanoB frac
      refine ⟨?_, ?_⟩
      · unfold wrap64; omega
      · rw [decide_eq_true_eq]; omega

theorem wrap64_bd (x : Int) : -9223372036854775808 ≤ wrap64 x ∧ wrap64 x ≤ 9223372036854775807 := by unfold wrap64; omega
theorem partD_bd (m sc : Int) : -9223372036854775808 ≤ partD m sc ∧ partD m sc ≤ 9223372036854775807 := by
  unfold partD
  split
  · omega
  · exact wrap64_bd _
theorem heldD_bd (n sc : Int) : -9223372036854775808 ≤ heldD n sc ∧ heldD n sc ≤ 9223372036854775807 := by
  unfold heldD
  split
  · exact partD_bd _ _
  · split
    · omega
    · split
      · omega
      · split
        · exact wrap64_bd _
        · exact wrap64_bd _
end Go.Proofs.Ybulkzui
