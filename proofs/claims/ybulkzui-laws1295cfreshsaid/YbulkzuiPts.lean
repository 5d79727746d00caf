import Derived.Test.YbulkzuiMp4
set_option linter.unusedVariables false
namespace Go.Proofs.Ybulkzui
open Go Go.RowKit

/-- the difference of two time stamps, where an int64 holds it -/
def subB (a b : Int) : Bool := decide (wrap64 (a - b) < 0) == decide (a < b)
def subD (a b : Int) : Int := if subB a b = true then wrap64 (a - b) else 0

theorem sub_any (a b : Int) (w : World) :
    Calls Yba.prog 28 #[.int .i64 a, .int .i64 b] w fun e w' => e = .returned (.tuple #[.int .i64 (subD a b), .bool (subB a b)]) ∧ w' = w := by
  by_cases g : wrap64 (a - b) < 0
  · by_cases h : a < b
    · have e1 : subB a b = true := by unfold subB; simp [g, h]
      have e2 : subD a b = wrap64 (a - b) := by unfold subD; rw [if_pos e1]
      rw [e1, e2]
      clear e1 e2
      go_enter Yba.func28, Yba.ntmps28
      go_wp2
      go_ret2
      exact ⟨rfl, rfl⟩
    · have e1 : subB a b = false := by unfold subB; simp [g, h]
      have e2 : subD a b = 0 := by unfold subD; rw [if_neg (by simp [e1])]
      rw [e1, e2]
      clear e1 e2
      go_enter Yba.func28, Yba.ntmps28
      go_wp2
      go_ret2
      exact ⟨rfl, rfl⟩
  · by_cases h : a < b
    · have e1 : subB a b = false := by unfold subB; simp [g, h]
      have e2 : subD a b = 0 := by unfold subD; rw [if_neg (by simp [e1])]
      rw [e1, e2]
      clear e1 e2
      go_enter Yba.func28, Yba.ntmps28
      go_wp2
      go_ret2
      exact ⟨rfl, rfl⟩
    · have e1 : subB a b = true := by unfold subB; simp [g, h]
      have e2 : subD a b = wrap64 (a - b) := by unfold subD; rw [if_pos e1]
      rw [e1, e2]
      clear e1 e2
      go_enter Yba.func28, Yba.ntmps28
      go_wp2
      go_ret2
      exact ⟨rfl, rfl⟩

theorem subD_bd (a b : Int) : -9223372036854775808 ≤ subD a b ∧ subD a b ≤ 9223372036854775807 := by
  unfold subD
  split
  · exact wrap64_bd _
  · omega

theorem tl_time (b : Nat) (p o : Int) (w : World) 
    (c2 : w.cell? ⟨b, 2, none⟩ = some (.int .u32 1000000000)) :
    Calls Yba.prog 26 #[.pointer (some ⟨b, 0, none⟩), .int .i64 p, .int .i64 o] w fun e w' => e = .returned (.tuple #[.int .i64 (subD p o), .bool (subB p o)]) ∧ ∃ k, w' = w.drewN k := by
  have HN := fun w => held_any (wrap64 (p - o)) 1000000000 w (wrap64_bd _).1 (wrap64_bd _).2 (by omega) (by omega)
  have hd := held_nano (wrap64 (p - o)) (wrap64_bd _).1 (wrap64_bd _).2
  rw [hd.1, hd.2] at HN
  clear hd
  by_cases g : wrap64 (p - o) < 0
  · by_cases h : p < o
    · have e1 : subB p o = true := by unfold subB; simp [g, h]
      have e2 : subD p o = wrap64 (p - o) := by unfold subD; rw [if_pos e1]
      rw [e1, e2]
      clear e1 e2
      go_enter Yba.func26, Yba.ntmps26
      go_wp2_with (go_at_call 24; refine (HN _).mono ?_; rintro e w' ⟨rfl, k, rfl⟩)
      go_ret2
      exact ⟨rfl, _, rfl⟩
    · have e1 : subB p o = false := by unfold subB; simp [g, h]
      have e2 : subD p o = 0 := by unfold subD; rw [if_neg (by simp [e1])]
      rw [e1, e2]
      clear e1 e2
      go_enter Yba.func26, Yba.ntmps26
      go_wp2
      go_ret2
      exact ⟨rfl, 0, rfl⟩
  · by_cases h : p < o
    · have e1 : subB p o = false := by unfold subB; simp [g, h]
      have e2 : subD p o = 0 := by unfold subD; rw [if_neg (by simp [e1])]
      rw [e1, e2]
      clear e1 e2
      go_enter Yba.func26, Yba.ntmps26
      go_wp2
      go_ret2
      exact ⟨rfl, 0, rfl⟩
    · have e1 : subB p o = true := by unfold subB; simp [g, h]
      have e2 : subD p o = wrap64 (p - o) := by unfold subD; rw [if_pos e1]
      rw [e1, e2]
      clear e1 e2
      go_enter Yba.func26, Yba.ntmps26
      go_wp2_with (go_at_call 24; refine (HN _).mono ?_; rintro e w' ⟨rfl, k, rfl⟩)
      go_ret2
      exact ⟨rfl, _, rfl⟩

end Go.Proofs.Ybulkzui
