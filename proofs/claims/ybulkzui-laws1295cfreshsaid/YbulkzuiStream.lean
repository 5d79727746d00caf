import Derived.Test.YbulkzuiShelf
import Derived.OwnWalk
import Derived.WalkKit
import Derived.Deep.QuietTactic
import Derived.Deep.RegionHeld3
set_option linter.unusedVariables false
namespace Go.Proofs.Ybulkzui
open Go Go.RowKit

/-- cell j of block S bears v now; no other cell of w has turned -/
structure Pt (S j : Nat) (v : Value) (w w' : World) : Prop where
  at_ : w'.cell? ⟨S, j, none⟩ = some v
  lt : S < w.heap.size
  cell : ∀ b i, b < w.heap.size → (b ≠ S ∨ i ≠ j) → w'.cell? ⟨b, i, none⟩ = w.cell? ⟨b, i, none⟩
  frz : ∀ b i, b < w.heap.size → w'.frozen? ⟨b, i, none⟩ = w.frozen? ⟨b, i, none⟩
  size : w.heap.size ≤ w'.heap.size
  grw : w.grownBy w' (some S)

section
variable {S j : Nat} {v u : Value} {w w' : World}
theorem Pt.set (hS : S < w.heap.size) (hc : w.cell? ⟨S, j, none⟩ = some u) : Pt S j v w (w.setCell ⟨S, j, none⟩ v) := by
  refine ⟨World.cell?_setCell_same w _ v hc, hS, fun b i _ h => ?_, fun b i _ => by simp, by simp, ⟨rfl, rfl, rfl, by simp, fun k _ hk => Below.heap_setCell _ _ _ _ (fun e => hk (by rw [e]))⟩⟩
  refine World.cell?_setCell_other _ _ _ _ ?_
  intro e
  injection e with e1 e2
  rcases h with h | h
  · exact h e1.symm
  · exact h e2.symm
theorem Pt.alloc (h : Pt S j v w w') (o : Obj) : Pt S j v w (w'.alloc o) := by
  have lt : ∀ b, b < w.heap.size → b < w'.heap.size := fun b hb => Nat.lt_of_lt_of_le hb h.size
  refine ⟨(World.cell?_alloc_lt _ _ _ (lt _ h.lt)).trans h.at_, h.lt, fun b i hb hh => (World.cell?_alloc_lt _ _ _ (lt _ hb)).trans (h.cell b i hb hh), fun b i hb => ?_, by have := h.size; simp; omega, ?_⟩
  · rw [World.frozen?_of_block (w := w') (Below.heap_alloc _ _ _ (lt _ hb))]; exact h.frz b i hb
  · have k := World.grownBy_alloc w' o none
    exact ⟨k.os.trans h.grw.os, k.tape.trans h.grw.tape, k.output.trans h.grw.output, Nat.le_trans h.grw.size k.size, fun i hi hr => (k.block i (lt _ hi) (by simp)).trans (h.grw.block i hi hr)⟩
theorem Pt.drew (h : Pt S j v w w') : Pt S j v w w'.drew := ⟨h.at_, h.lt, h.cell, h.frz, h.size, ⟨h.grw.os, h.grw.tape, h.grw.output, h.grw.size, h.grw.block⟩⟩
theorem Pt.drewN (h : Pt S j v w w') (n : Nat) : Pt S j v w (w'.drewN n) := ⟨h.at_, h.lt, h.cell, h.frz, h.size, ⟨h.grw.os, h.grw.tape, h.grw.output, h.grw.size, h.grw.block⟩⟩
theorem Pt.fromDrew (h : Pt S j v w.drew w') : Pt S j v w w' := ⟨h.at_, h.lt, h.cell, h.frz, h.size, ⟨h.grw.os, h.grw.tape, h.grw.output, h.grw.size, h.grw.block⟩⟩
end

/-- a slice of one number has been put into cell j of block S -/
def One (S j : Nat) (ts : Int) (w w' : World) : Prop := ∃ R c, Pt S j (.slice (some ⟨R, 0, none⟩) 1 c) w w' ∧ w'.cell? ⟨R, 0, none⟩ = some (.int .i64 ts) ∧ R < w'.heap.size ∧ w.heap.size ≤ R

theorem one_mk {S j : Nat} {u : Value} {w : World} {ts : Int} {c : Nat} {zs : Array Value} (hS : S < w.heap.size) (hc : w.cell? ⟨S, j, none⟩ = some u) (n : Nat) :
    One S j ts w ((((w.setCell ⟨S, j, none⟩ (.slice (some ⟨w.heap.size + 1, 0, none⟩) 1 c)).alloc (.cells #[.int .i64 ts] 2)).alloc (.cells (#[.int .i64 ts] ++ zs) 2)).drewN n) := by
  refine ⟨w.heap.size + 1, c, (((Pt.set hS hc).alloc _).alloc _).drewN n, ?_, by simp, by omega⟩
  have h : (#[Value.int .i64 ts] ++ zs)[0]? = some (.int .i64 ts) := by rw [Array.getElem?_append_left (by simp)]; rfl
  simpa [go_sem] using h
theorem One.drewN {S j : Nat} {ts : Int} {w w' : World} (h : One S j ts w w') (n : Nat) : One S j ts w (w'.drewN n) := by
  obtain ⟨R, c, h1, h2, h3, h4⟩ := h
  exact ⟨R, c, h1.drewN n, h2, h3, h4⟩

theorem stamp_any (S : Nat) (ts add : Int) (w : World) (hS : S < w.heap.size) (c0 : w.cell? ⟨S, 0, none⟩ = some (.int .i64 add)) (c2 : w.cell? ⟨S, 2, none⟩ = some (.slice none 0 0)) (f2 : w.frozen? ⟨S, 2, none⟩ = false) :
    Calls Yba.prog 60 #[.pointer (some ⟨S, 0, none⟩), .int .i64 ts] w fun e w' => e = .returned (.int .i64 (wrap64 (ts + add))) ∧ One S 2 ts w w' := by
  go_enter Yba.func60, Yba.ntmps60
  go_wp2
  go_ret
  exact ⟨rfl, one_mk hS c2 1⟩

theorem stime_any (S : Nat) (ts : Int) (hd : Bool) (w : World) (hS : S < w.heap.size) (c1 : w.cell? ⟨S, 1, none⟩ = some (.bool hd)) (c3 : w.cell? ⟨S, 3, none⟩ = some (.slice none 0 0)) (f3 : w.frozen? ⟨S, 3, none⟩ = false) :
    Calls Yba.prog 61 #[.pointer (some ⟨S, 0, none⟩), .int .i64 ts] w fun e w' => e = .returned (.tuple #[.int .i64 ts, .bool hd]) ∧ One S 3 ts w w' := by
  go_enter Yba.func61, Yba.ntmps61
  go_wp2
  go_quiet (fail)
  go_wp2
  go_ret2
  exact ⟨rfl, (one_mk hS c3 1).drewN _⟩

theorem nil_stamp (n : Nat) (a : Addr) (w : World) : (nilAhead (n + 1) 99 (.pointer (some a)) "Stamp").run Yba.prog w = .ok (some false) w := by kernel_rfl
theorem nil_time (n : Nat) (a : Addr) (w : World) : (nilAhead (n + 1) 99 (.pointer (some a)) "Time").run Yba.prog w = .ok (some false) w := by kernel_rfl
theorem meth_stamp (n : Nat) (a : Addr) (w : World) : (method (n + 1) 99 (.pointer (some a)) "Stamp").run Yba.prog w = .ok (60, .pointer (some a)) w := by kernel_rfl
theorem meth_time (n : Nat) (a : Addr) (w : World) : (method (n + 1) 99 (.pointer (some a)) "Time").run Yba.prog w = .ok (61, .pointer (some a)) w := by kernel_rfl

def oTs (origin add sh : Int) : Int := wrap64 (wrap64 (origin + add) - sh)
def oB (origin add sh : Int) : Bool := decide (oTs origin add sh < wrap64 (origin + add)) == decide (0 < sh)
/-- what origins leaves in the stream -/
def Orig (S : Nat) (origin ts : Int) (ok : Bool) (w w' : World) : Prop := if ok = true then ∃ w1, One S 2 origin w w1 ∧ One S 3 ts w1 w' else One S 2 origin w w'

set_option maxHeartbeats 1000000 in
theorem origins_no (T S : Nat) (sh origin add : Int) (hd : Bool) (w : World) (hT : T < w.heap.size) (hS : S < w.heap.size) (hTS : T ≠ S) (t0 : w.cell? ⟨T, 0, none⟩ = some (.iface 99 (.pointer (some ⟨S, 0, none⟩)))) (t12 : w.cell? ⟨T, 12, none⟩ = some (.int .i64 origin))
    (c0 : w.cell? ⟨S, 0, none⟩ = some (.int .i64 add)) (c1 : w.cell? ⟨S, 1, none⟩ = some (.bool hd)) (c2 : w.cell? ⟨S, 2, none⟩ = some (.slice none 0 0)) (c3 : w.cell? ⟨S, 3, none⟩ = some (.slice none 0 0)) (fz : ∀ j, w.frozen? ⟨S, j, none⟩ = false) (g : (decide (oTs origin add sh < wrap64 (origin + add)) == decide (0 < sh)) = false) :
    Calls Yba.prog 30 #[.pointer (some ⟨T, 0, none⟩), .int .i64 sh] w fun e w' => e = .returned (.tuple #[.int .i64 0, .bool false]) ∧ Orig S origin (oTs origin add sh) false w w' := by
  have n1 := nil_stamp
  have n2 := nil_time
  have n3 := meth_stamp
  have n4 := meth_time
  obtain ⟨st, est⟩ : ∃ st, st = wrap64 (origin + add) := ⟨_, rfl⟩
  unfold oTs at g
  have SA := (stamp_any S origin add w.drew hS c0 c2 (fz _)).mono (R' := fun e w' => e = .returned (.int .i64 (wrap64 (origin + add))) ∧ One S 2 origin w w' ∧ w'.cell? ⟨T, 0, none⟩ = some (.iface 99 (.pointer (some ⟨S, 0, none⟩))) ∧ w'.cell? ⟨T, 12, none⟩ = some (.int .i64 origin)) (by
    rintro e w' ⟨rfl, o1⟩
    obtain ⟨R, c, p, q⟩ := o1
    exact ⟨rfl, ⟨R, c, p.fromDrew, q⟩, (p.cell _ _ hT (.inl hTS)).trans t0, (p.cell _ _ hT (.inl hTS)).trans t12⟩)
  rw [← est] at g SA
  obtain ⟨ts, ets⟩ : ∃ ts, ts = wrap64 (st - sh) := ⟨_, rfl⟩
  have HT : wrap64 (st - sh) = ts := ets.symm
  have e1 : oTs origin add sh = ts := by unfold oTs; rw [← est, ets]
  rw [HT] at g
  rw [e1]
  clear e1 est ets
  go_enter Yba.func30, Yba.ntmps30
  go_wp2_with (fail)
  go_region_held3 (fun w' => w'.cell? ⟨T, 0, none⟩ = some (.iface 99 (.pointer (some ⟨S, 0, none⟩))) ∧ w'.cell? ⟨T, 12, none⟩ = some (.int .i64 origin)) (first | exact ⟨q0, q12⟩ | simp [go_sem, t0, t12])
    (first | (go_at_call 60; refine SA.mono ?_; rintro e w1 ⟨rfl, o1, q0, q12⟩))
  go_wp2
  go_ret2
  exact ⟨rfl, o1⟩

set_option maxHeartbeats 1000000 in
theorem origins_yes (T S : Nat) (sh origin add : Int) (hd : Bool) (w : World) (hT : T < w.heap.size) (hS : S < w.heap.size) (hTS : T ≠ S) (t0 : w.cell? ⟨T, 0, none⟩ = some (.iface 99 (.pointer (some ⟨S, 0, none⟩)))) (t12 : w.cell? ⟨T, 12, none⟩ = some (.int .i64 origin))
    (c0 : w.cell? ⟨S, 0, none⟩ = some (.int .i64 add)) (c1 : w.cell? ⟨S, 1, none⟩ = some (.bool hd)) (c2 : w.cell? ⟨S, 2, none⟩ = some (.slice none 0 0)) (c3 : w.cell? ⟨S, 3, none⟩ = some (.slice none 0 0)) (fz : ∀ j, w.frozen? ⟨S, j, none⟩ = false) (g : (decide (oTs origin add sh < wrap64 (origin + add)) == decide (0 < sh)) = true) :
    Calls Yba.prog 30 #[.pointer (some ⟨T, 0, none⟩), .int .i64 sh] w fun e w' => e = .returned (.tuple #[.int .i64 (oTs origin add sh), .bool hd]) ∧ Orig S origin (oTs origin add sh) true w w' := by
  have n1 := nil_stamp
  have n2 := nil_time
  have n3 := meth_stamp
  have n4 := meth_time
  obtain ⟨st, est⟩ : ∃ st, st = wrap64 (origin + add) := ⟨_, rfl⟩
  unfold oTs at g
  have SA := (stamp_any S origin add w.drew hS c0 c2 (fz _)).mono (R' := fun e w' => e = .returned (.int .i64 (wrap64 (origin + add))) ∧ One S 2 origin w w' ∧ w'.cell? ⟨T, 0, none⟩ = some (.iface 99 (.pointer (some ⟨S, 0, none⟩))) ∧ w'.cell? ⟨T, 12, none⟩ = some (.int .i64 origin)) (by
    rintro e w' ⟨rfl, o1⟩
    obtain ⟨R, c, p, q⟩ := o1
    exact ⟨rfl, ⟨R, c, p.fromDrew, q⟩, (p.cell _ _ hT (.inl hTS)).trans t0, (p.cell _ _ hT (.inl hTS)).trans t12⟩)
  rw [← est] at g SA
  obtain ⟨ts, ets⟩ : ∃ ts, ts = wrap64 (st - sh) := ⟨_, rfl⟩
  have HT : wrap64 (st - sh) = ts := ets.symm
  have e1 : oTs origin add sh = ts := by unfold oTs; rw [← est, ets]
  rw [HT] at g
  rw [e1]
  clear e1 est ets
  go_enter Yba.func30, Yba.ntmps30
  go_wp2_with (fail)
  go_region_held3 (fun w' => w'.cell? ⟨T, 0, none⟩ = some (.iface 99 (.pointer (some ⟨S, 0, none⟩))) ∧ w'.cell? ⟨T, 12, none⟩ = some (.int .i64 origin)) (first | exact ⟨q0, q12⟩ | simp [go_sem, t0, t12])
    (first | (go_at_call 60; refine SA.mono ?_; rintro e w1 ⟨rfl, o1, q0, q12⟩))
  have o1' := o1
  obtain ⟨R, c, p, q⟩ := o1
  have d0 : w1.cell? ⟨T, 0, none⟩ = some (.iface 99 (.pointer (some ⟨S, 0, none⟩))) := (p.cell _ _ hT (.inl hTS)).trans t0
  have hS1 : S < w1.heap.size := Nat.lt_of_lt_of_le hS p.size
  have d1 : w1.cell? ⟨S, 1, none⟩ = some (.bool hd) := (p.cell _ _ hS (.inr (by decide))).trans c1
  have d3 : w1.cell? ⟨S, 3, none⟩ = some (.slice none 0 0) := (p.cell _ _ hS (.inr (by decide))).trans c3
  have fz1 : w1.frozen? ⟨S, 3, none⟩ = false := (p.frz _ _ hS).trans (fz _)
  have TA := stime_any S ts hd w1 hS1 d1 d3 fz1
  go_wp2_with (go_at_call 61; refine TA.mono ?_; rintro e w2 ⟨rfl, o2⟩)
  go_ret2
  exact ⟨rfl, w1, o1', o2⟩
end Go.Proofs.Ybulkzui
