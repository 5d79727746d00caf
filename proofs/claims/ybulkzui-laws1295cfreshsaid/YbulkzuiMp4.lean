import Derived.Test.YbulkzuiTicks
import Derived.Deep.RegionHeld3
set_option linter.unusedVariables false
namespace Go.Proofs.Ybulkzui
open Go Go.RowKit

def ppf (p : Int) : Int := if p ≤ 0 then 1 else max 1 ((33366666 + p / 2) / p)
def fpp (p : Int) : Int := max 1 (wrap64 ((wrap64 (p + 16683333)).tdiv 33366666))

set_option maxHeartbeats 400000 in
theorem ppf_any (p : Int) (w : World) (h0 : -9223372036854775808 ≤ p) (h1 : p ≤ 9223372036854775807) :
    Calls Yba.prog 11 #[.int .i64 p] w fun e w' => e = .returned (.int .i64 (ppf p)) ∧ w' = w := by
  by_cases c : p ≤ 0
  · have e : 1 = ppf p := by unfold ppf; rw [if_pos c]
    rw [← e]
    clear e
    go_enter Yba.func11, Yba.ntmps11
    go_wp2
    go_ret
    exact ⟨rfl, rfl⟩
  · have hp : 0 < p := by omega
    have q0 : 0 ≤ (33366666 + p / 2) / p := Int.ediv_nonneg (by omega) (by omega)
    have q1 : (33366666 + p / 2) / p ≤ 33366667 := by
      have : (33366666 + p / 2) / p < 33366667 + 1 := Int.ediv_lt_of_lt_mul hp (by omega)
      omega
    have e : max 1 ((33366666 + p / 2) / p) = ppf p := by unfold ppf; rw [if_neg c]
    rw [← e]
    clear e
    go_enter Yba.func11, Yba.ntmps11
    go_wp2
    go_ret
    exact ⟨rfl, rfl⟩
theorem fpp_any (p : Int) (w : World) :
    Calls Yba.prog 12 #[.int .i64 p] w fun e w' => e = .returned (.int .i64 (fpp p)) ∧ w' = w := by
  go_enter Yba.func12, Yba.ntmps12
  go_wp2
  go_ret
  exact ⟨rfl, rfl⟩

set_option maxHeartbeats 400000 in
theorem span_any (n sc : Int) (w : World) (hn : 0 ≤ n) (hn1 : n < 4294967296) (hs : 0 ≤ sc) (hs1 : sc < 4294967296) :
    Calls Yba.prog 16 #[.agg #[.int .i64 n, .int .u32 sc, .int .i64 1], .int .i64 1] w fun e w' => e = .returned (.tuple #[.int .i64 (partD n sc), .bool (partB n sc)]) ∧ ∃ k, w' = (w.alloc (.cells #[.int .i64 n, .int .u32 sc, .int .i64 1] 60)).drewN k := by
  go_enter Yba.func16, Yba.ntmps16
  go_wp2_with (go_at_call 10; refine (part_any _ _ _ _ (by omega) (by omega) (by omega) (by omega) n (by omega) (by omega) hs hs1).mono ?_; rintro e w' ⟨rfl, k, rfl⟩)
  go_ret2
  exact ⟨rfl, _, rfl⟩

/-- what (*track).time(n) gives, of a track of scale sc, shift sh, unheld un -/
def timeD (n sc sh : Int) (un : Bool) : Int := if heldB n sc = true ∧ un = false then wrap64 (sh + heldD n sc) else 0
def timeB (n sc sh : Int) (un : Bool) : Bool := if heldB n sc = true ∧ un = false then sumB sh (heldD n sc) else false

set_option maxHeartbeats 400000 in
theorem time_any (b : Nat) (n sc sh : Int) (un : Bool) (w : World) (hn : -9223372036854775808 ≤ n) (hn1 : n ≤ 9223372036854775807) (hs : 0 ≤ sc) (hs1 : sc < 4294967296)
    (c1 : w.cell? ⟨b, 1, none⟩ = some (.int .u32 sc)) (c9 : w.cell? ⟨b, 9, none⟩ = some (.int .i64 sh)) (c11 : w.cell? ⟨b, 11, none⟩ = some (.bool un)) :
    Calls Yba.prog 13 #[.pointer (some ⟨b, 0, none⟩), .int .i64 n] w fun e w' => e = .returned (.tuple #[.int .i64 (timeD n sc sh un), .bool (timeB n sc sh un)]) ∧ ∃ k, w' = w.drewN k := by
  by_cases g1 : heldB n sc = true
  · cases un with
    | true =>
      have e1 : 0 = timeD n sc sh true := by unfold timeD; rw [if_neg (by simp)]
      have e2 : false = timeB n sc sh true := by unfold timeB; rw [if_neg (by simp)]
      rw [← e1, ← e2]
      clear e1 e2
      go_enter Yba.func13, Yba.ntmps13
      go_wp2_with (go_at_call 24; refine (held_any _ _ _ hn hn1 hs hs1).mono ?_; rintro e w' ⟨rfl, k, rfl⟩)
      go_ret2
      exact ⟨rfl, _, rfl⟩
    | false =>
      have e1 : wrap64 (sh + heldD n sc) = timeD n sc sh false := by unfold timeD; rw [if_pos ⟨g1, rfl⟩]
      have e2 : sumB sh (heldD n sc) = timeB n sc sh false := by unfold timeB; rw [if_pos ⟨g1, rfl⟩]
      rw [← e1, ← e2]
      clear e1 e2
      go_enter Yba.func13, Yba.ntmps13
      go_wp2_with (first | (go_at_call 24; refine (held_any _ _ _ hn hn1 hs hs1).mono ?_; rintro e w' ⟨rfl, k, rfl⟩) | (go_at_call 25; refine (sum_any _ _ _).mono ?_; rintro e w' ⟨rfl, rfl⟩))
      go_ret2
      exact ⟨rfl, _, rfl⟩
  · have g1' : heldB n sc = false := by simpa using g1
    have e1 : 0 = timeD n sc sh un := by unfold timeD; rw [if_neg (fun h => g1 h.1)]
    have e2 : false = timeB n sc sh un := by unfold timeB; rw [if_neg (fun h => g1 h.1)]
    rw [← e1, ← e2]
    clear e1 e2
    go_enter Yba.func13, Yba.ntmps13
    go_wp2_with (go_at_call 24; refine (held_any _ _ _ hn hn1 hs hs1).mono ?_; rintro e w' ⟨rfl, k, rfl⟩)
    go_ret2
    exact ⟨rfl, _, rfl⟩

end Go.Proofs.Ybulkzui
