import Derived.Test.YbulkztgRows
import Derived.WalkKit
import Derived.ProofKit
import Derived.Outline
import Derived.Laws.BitsAllLaws
namespace Go.Proofs.Ybulkztg.W
open Go.RowKit

/-- the plain weight of a byte -/
def bw (c : Int) : Int :=
  if c = 126 then -1 else if (65 ≤ c ∧ c ≤ 90) ∨ (97 ≤ c ∧ c ≤ 122) ∨ 128 ≤ c then c else c + 256
/-- is the byte an ASCII letter -/
def letB (c : Int) : Bool := decide ((65 ≤ c ∧ c ≤ 90) ∨ (97 ≤ c ∧ c ≤ 122))

theorem or32 (n : Nat) (h : n < 256) : ((97 ≤ (n ||| 32) ∧ (n ||| 32) ≤ 122) ↔ ((65 ≤ n ∧ n ≤ 90) ∨ (97 ≤ n ∧ n ≤ 122))) := by
  revert n; decide +kernel

theorem or32Int (c : Int) (h0 : 0 ≤ c) (h1 : c ≤ 255) :
    ((97 ≤ bits .or .u8 c 32 ∧ bits .or .u8 c 32 ≤ 122) ↔ ((65 ≤ c ∧ c ≤ 90) ∨ (97 ≤ c ∧ c ≤ 122))) := by
  rw [u8_or c 32 h0 (by omega) (by omega) (by omega)]
  have := or32 c.toNat (by omega)
  rw [show (32 : Int).toNat = 32 from rfl]
  omega

theorem ret_int {k : IntKind} {a b : Int} (h : a = b) : Ending.returned (.int k a) = .returned (.int k b) := by rw [h]
theorem ret_bool {a b : Bool} (h : a = b) : Ending.returned (.bool a) = .returned (.bool b) := by rw [h]

theorem bw_tilde (c : Int) (h : c = 126) : -1 = bw c := by subst h; rfl
theorem bw_let (c : Int) (h : c ≠ 126) (hl : letB c = true) : c = bw c := by
  unfold letB at hl; simp at hl; unfold bw; rw [if_neg h, if_pos (by omega)]
theorem bw_high (c : Int) (h : 128 ≤ c) : c = bw c := by
  unfold bw; rw [if_neg (by omega), if_pos (by omega)]
theorem bw_else (c : Int) (h : c ≠ 126) (hl : letB c = false) (h2 : ¬ 128 ≤ c) : c + 256 = bw c := by
  unfold letB at hl; simp at hl; unfold bw; rw [if_neg h, if_neg (by omega)]

/-- the plain law: weights are distinct, never 0, negative only for the tilde, and a letter weighs less than any other ASCII byte but the tilde -/
theorem bw_inj (a b : Int) (h0 : 0 ≤ a) (h1 : a ≤ 255) (h2 : 0 ≤ b) (h3 : b ≤ 255) : (!(bw a == bw b) == (a == b)) = false := by
  by_cases h : a = b
  · subst h; simp
  · have hn : bw a ≠ bw b := by
      unfold bw
      split <;> split <;> (try split) <;> (try split) <;> omega
    rw [beq_false_of_ne h, beq_false_of_ne hn]; rfl
theorem bw_ne0 (a : Int) (h0 : 0 ≤ a) (h1 : a ≤ 255) : (bw a == 0) = false := by
  have : bw a ≠ 0 := by
    unfold bw
    split <;> (try split) <;> omega
  simp [this]
theorem bw_neg (a : Int) (h0 : 0 ≤ a) (h1 : a ≤ 255) : (!decide (bw a < 0) == (a == 126)) = false := by
  by_cases h : a = 126
  · subst h; rfl
  · have : ¬ bw a < 0 := by
      unfold bw
      split <;> (try split) <;> omega
    simp [h, this]
theorem bw_lt (a b : Int) (h1 : a ≤ 255) (h2 : 0 ≤ b) (hl : letB a = true) (hb : b < 128) (hn : b ≠ 126) (hm : letB b = false) : bw a < bw b := by
  have hl' := hl
  unfold letB at hl' hm; simp at hl' hm
  rw [← bw_let a (by omega) hl]
  rw [← bw_else b hn (by unfold letB; simp; omega) (by omega)]
  omega

set_option maxHeartbeats 400000 in
theorem isLetter_any (c : Int) (w : World) (h0 : 0 ≤ c) (h1 : c ≤ 255) :
    Calls Yba.prog 8 #[.int .u8 c] w fun e w' => e = .returned (.bool (letB c)) ∧ w' = w := by
  go_enter Yba.func8, Yba.ntmps8
  go_wp2
  all_goals
    go_ret
    refine ⟨ret_bool ?_, rfl⟩
    unfold letB
    rw [Bool.eq_iff_iff]
    simp only [Bool.or_eq_true, decide_eq_true_eq, true_iff, false_iff, Bool.false_eq_true]
    omega

set_option maxHeartbeats 400000 in
theorem letter_any (c : Int) (w : World) (h0 : 0 ≤ c) (h1 : c ≤ 255) :
    Calls Yba.prog 7 #[.int .u8 c] w fun e w' => e = .returned (.bool (letB c)) ∧ w' = w := by
  have hb := or32Int c h0 h1
  go_enter Yba.func7, Yba.ntmps7
  go_wp2
  all_goals
    go_ret
    refine ⟨ret_bool ?_, rfl⟩
    unfold letB
    rw [Bool.eq_iff_iff]
    simp only [decide_eq_true_eq, false_iff, Bool.false_eq_true]
    omega

set_option maxHeartbeats 400000 in
theorem weight_any (c : Int) (w : World) (h0 : 0 ≤ c) (h1 : c ≤ 255) :
    Calls Yba.prog 5 #[.int .u8 c] w fun e w' => e = .returned (.int .i64 (bw c)) ∧ w' = w := by
  by_cases c1 : c = 126
  · go_enter Yba.func5, Yba.ntmps5
    go_wp2
    go_ret
    exact ⟨ret_int (bw_tilde c c1), rfl⟩
  · by_cases c2 : letB c = true
    · go_enter Yba.func5, Yba.ntmps5
      go_wp2_with (go_at_call 8; refine (isLetter_any _ _ h0 h1).mono ?_; rintro e w' ⟨rfl, rfl⟩)
      go_ret
      exact ⟨ret_int (bw_let c c1 c2), rfl⟩
    · have c2' : letB c = false := by simpa using c2
      by_cases c3 : 128 ≤ c
      · go_enter Yba.func5, Yba.ntmps5
        go_wp2_with (go_at_call 8; refine (isLetter_any _ _ h0 h1).mono ?_; rintro e w' ⟨rfl, rfl⟩)
        go_ret
        exact ⟨ret_int (bw_high c c3), rfl⟩
      · go_enter Yba.func5, Yba.ntmps5
        go_wp2_with (go_at_call 8; refine (isLetter_any _ _ h0 h1).mono ?_; rintro e w' ⟨rfl, rfl⟩)
        go_ret
        exact ⟨ret_int (bw_else c c1 c2' (by omega)), rfl⟩

set_option maxHeartbeats 400000 in
theorem expect_any (c : Int) (w : World) (h0 : 0 ≤ c) (h1 : c ≤ 255) :
    Calls Yba.prog 6 #[.int .u8 c] w fun e w' => e = .returned (.int .i64 (bw c)) ∧ w' = w := by
  have hb := or32Int c h0 h1
  by_cases c1 : c = 126
  · go_enter Yba.func6, Yba.ntmps6
    go_wp2
    go_ret
    exact ⟨ret_int (bw_tilde c c1), rfl⟩
  · by_cases c3 : 128 ≤ c
    · go_enter Yba.func6, Yba.ntmps6
      go_wp2
      go_ret
      exact ⟨ret_int (bw_high c c3), rfl⟩
    · go_enter Yba.func6, Yba.ntmps6
      go_wp2
      · go_ret
        exact ⟨ret_int (bw_let c c1 (by unfold letB; simp only [decide_eq_true_eq]; omega)), rfl⟩
      all_goals
        go_ret
        exact ⟨ret_int (bw_else c c1 (by unfold letB; simp only [decide_eq_false_iff_not]; omega) (by omega)), rfl⟩

end Go.Proofs.Ybulkztg.W
