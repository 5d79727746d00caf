import Derived.Test.YbulkzuiCached
import Derived.Test.YbulkzuiStream
set_option linter.unusedVariables false
namespace Go.Proofs.Ybulkzui
open Go Go.RowKit

set_option maxHeartbeats 1000000 in
theorem runOrigins_fresh (T : Nat) (s org : Int) (oh : Bool) (w : World) (Q : World → Prop) (u24 u25 u26 u27 : Value) (t24 : w.cell? ⟨T, 24, none⟩ = some (.bool false))
    (OC : Calls Yba.prog 30 #[.pointer (some ⟨T, 0, none⟩), .int .i64 s] w fun e w' => e = .returned (.tuple #[.int .i64 org, .bool oh]) ∧ Q w')
    (q24 : ∀ w', Q w' → w'.cell? ⟨T, 24, none⟩ = some u24) (q25 : ∀ w', Q w' → w'.cell? ⟨T, 25, none⟩ = some u25) (q26 : ∀ w', Q w' → w'.cell? ⟨T, 26, none⟩ = some u26) (q27 : ∀ w', Q w' → w'.cell? ⟨T, 27, none⟩ = some u27) (qf : ∀ w', Q w' → ∀ j, w'.frozen? ⟨T, j, none⟩ = false) :
    Calls Yba.prog 27 #[.pointer (some ⟨T, 0, none⟩), .int .i64 s] w fun e w' => e = .returned (.tuple #[.int .i64 org, .bool oh]) ∧ ∃ w1, Q w1 ∧ ∃ k, w' = ((((w1.setCell ⟨T, 26, none⟩ (.int .i64 org)).setCell ⟨T, 27, none⟩ (.bool oh)).setCell ⟨T, 24, none⟩ (.bool true)).setCell ⟨T, 25, none⟩ (.int .i64 s)).drewN k := by
  go_enter Yba.func27, Yba.ntmps27
  go_wp2_with fail
  refine OC.mono ?_
  rintro e w1 ⟨rfl, hq⟩
  have d24 := q24 _ hq
  have d25 := q25 _ hq
  have d26 := q26 _ hq
  have d27 := q27 _ hq
  have df := qf _ hq
  go_wp2
  go_quiet (fail)
  go_wp2
  go_ret2
  exact ⟨rfl, w1, hq, _, rfl⟩

/-- what the law of the fresh run sees in the end: the row of the Timeline (block T), the picture's box (B), the stream's two slices (block S) -/
structure Seen (S T B : Nat) (w0 : World) (pts origin ts : Int) (ok : Bool) (f : Nat → Option Value) (w : World) : Prop where
  row : ∀ j, w.cell? ⟨T, j, none⟩ = f j
  frz : ∀ j, w.frozen? ⟨T, j, none⟩ = false
  box : w.cell? ⟨B, 0, none⟩ = some (.int .i64 pts)
  st : ∃ R c, R ≠ T ∧ w.cell? ⟨S, 2, none⟩ = some (.slice (some ⟨R, 0, none⟩) 1 c) ∧ w.cell? ⟨R, 0, none⟩ = some (.int .i64 origin)
  tm : if ok = true then ∃ R c, R ≠ T ∧ w.cell? ⟨S, 3, none⟩ = some (.slice (some ⟨R, 0, none⟩) 1 c) ∧ w.cell? ⟨R, 0, none⟩ = some (.int .i64 ts) else w.cell? ⟨S, 3, none⟩ = some (.slice none 0 0)
  bel : Below w0.heap.size w0 w

section
variable {S T B : Nat} {w0 w : World} {pts origin ts : Int} {ok : Bool} {f : Nat → Option Value}
theorem Seen.drewN (h : Seen S T B w0 pts origin ts ok f w) (n : Nat) : Seen S T B w0 pts origin ts ok f (w.drewN n) := ⟨h.row, h.frz, h.box, h.st, h.tm, below_drewN h.bel n⟩
theorem Seen.set (h : Seen S T B w0 pts origin ts ok f w) (hST : S ≠ T) (hBT : B ≠ T) (h0 : w0.heap.size ≤ T) (j : Nat) (u v : Value) (hj : f j = some u) :
    Seen S T B w0 pts origin ts ok (fun i => if i = j then some v else f i) (w.setCell ⟨T, j, none⟩ v) := by
  have ot : ∀ b i, b ≠ T → (w.setCell ⟨T, j, none⟩ v).cell? ⟨b, i, none⟩ = w.cell? ⟨b, i, none⟩ := by
    intro b i hb
    refine World.cell?_setCell_other _ _ _ _ ?_
    intro e
    injection e with e1 e2
    exact hb e1.symm
  refine ⟨fun i => ?_, fun i => by simp [h.frz i], (ot _ _ hBT).trans h.box, ?_, ?_, ?_⟩
  · by_cases e : i = j
    · subst e
      simp only [if_true]
      exact World.cell?_setCell_same w _ v ((h.row i).trans hj)
    · have hne : (⟨T, j, none⟩ : Addr) ≠ ⟨T, i, none⟩ := by
        intro h
        injection h with _ h2
        exact e h2.symm
      rw [World.cell?_setCell_other _ _ _ _ hne, if_neg e]
      exact h.row i
  · obtain ⟨R, c, h1, h2, h3⟩ := h.st
    exact ⟨R, c, h1, (ot _ _ hST).trans h2, (ot _ _ h1).trans h3⟩
  · have tm := h.tm
    cases ok with
    | true =>
      simp only [if_true] at tm ⊢
      obtain ⟨R, c, h1, h2, h3⟩ := tm
      exact ⟨R, c, h1, (ot _ _ hST).trans h2, (ot _ _ h1).trans h3⟩
    | false => exact (ot _ _ hST).trans tm
  · have g : w.grownBy (w.setCell ⟨T, j, none⟩ v) (some T) := ⟨rfl, rfl, rfl, by simp, fun k _ hk => Below.heap_setCell _ _ _ _ (fun e => hk (by rw [e]))⟩
    exact h.bel.grown g h.bel.size (fun k e => by simp at e; omega)

/-- what origins leaves, seen so -/
theorem Seen.ofOrig {w1 : World} (hST : S ≠ T) (hTB : T ≠ B) (hSB : S ≠ B) (hS : S < w1.heap.size) (hT : T < w1.heap.size) (hB : B < w1.heap.size) (h0 : w0.heap.size ≤ S)
    (r1 : ∀ j, w1.cell? ⟨T, j, none⟩ = f j) (r2 : ∀ j, w1.frozen? ⟨T, j, none⟩ = false) (r3 : w1.cell? ⟨B, 0, none⟩ = some (.int .i64 pts)) (r4 : w1.cell? ⟨S, 3, none⟩ = some (.slice none 0 0)) (bel : Below w0.heap.size w0 w1)
    (h : Orig S origin ts ok w1 w) : Seen S T B w0 pts origin ts ok f w := by
  have hTS : T ≠ S := fun e => hST e.symm
  have hBS : B ≠ S := fun e => hSB e.symm
  cases ok with
  | false =>
    obtain ⟨R, c, p, p1, p2, p3⟩ : One S 2 origin w1 w := h
    refine ⟨fun j => (p.cell _ _ hT (.inl hTS)).trans (r1 j), fun j => (p.frz _ _ hT).trans (r2 j), (p.cell _ _ hB (.inl hBS)).trans r3, ⟨R, c, by omega, p.at_, p1⟩, (p.cell _ _ hS (.inr (by decide))).trans r4, ?_⟩
    exact bel.grown p.grw bel.size (fun k e => by simp at e; omega)
  | true =>
    obtain ⟨w2, ⟨R, c, p, p1, p2, p3⟩, ⟨R', c', q, q1, q2, q3⟩⟩ : ∃ w2, One S 2 origin w1 w2 ∧ One S 3 ts w2 w := h
    have z := p.size
    refine ⟨fun j => (q.cell _ _ (by omega) (.inl hTS)).trans ((p.cell _ _ hT (.inl hTS)).trans (r1 j)), fun j => (q.frz _ _ (by omega)).trans ((p.frz _ _ hT).trans (r2 j)), (q.cell _ _ (by omega) (.inl hBS)).trans ((p.cell _ _ hB (.inl hBS)).trans r3), ⟨R, c, by omega, (q.cell _ _ (by omega) (.inr (by decide))).trans p.at_, (q.cell _ _ p2 (.inl (by omega))).trans p1⟩, ⟨R', c', by omega, q.at_, q1⟩, ?_⟩
    have b2 : Below w0.heap.size w0 w2 := bel.grown p.grw bel.size (fun k e => by simp at e; omega)
    exact b2.grown q.grw b2.size (fun k e => by simp at e; omega)
end
end Go.Proofs.Ybulkzui
