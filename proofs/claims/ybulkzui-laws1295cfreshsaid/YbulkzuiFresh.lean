import Derived.Test.YbulkzuiRun
set_option linter.unusedVariables false
namespace Go.Proofs.Ybulkzui
open Go Go.RowKit

theorem built_fresh (n : Nat) (o f : Int) : ∃ arr : Array Value, Yba.prog.built 120 [(0, .iface 99 (.pointer (some ⟨n, 0, none⟩))), (2, .int .u32 1000000000), (12, .int .i64 o), (17, .int .i64 f)] = some arr ∧
    arr.size = 43 ∧ arr[0]? = some (.iface 99 (.pointer (some ⟨n, 0, none⟩))) ∧ arr[2]? = some (.int .u32 1000000000) ∧ arr[12]? = some (.int .i64 o) ∧ arr[17]? = some (.int .i64 f) ∧ arr[24]? = some (.bool false) ∧ arr[25]? = some (.int .i64 0) ∧ arr[26]? = some (.int .i64 0) ∧ arr[27]? = some (.bool false) := by
  refine ⟨#[.iface 99 (.pointer (some ⟨n, 0, none⟩)), .nilIface, .int .u32 1000000000, .bool false, .bool false, .int .i64 0, .int .i64 0, .int .i64 0, .int .i64 0, .slice none 0 0, .slice none 0 0, .bool false, .int .i64 o, .int .i64 0, .int .i64 0, .int .i64 0, .int .i64 0, .int .i64 f, .int .i64 0, .bool false, .bool false, .int .i64 0, .int .i64 0, .bool false, .bool false, .int .i64 0, .int .i64 0, .bool false, .int .i64 0, .int .i64 0, .int .i64 0, .int .u32 0, .int .i64 0, .bool false, .bool false, .bool false, .bool false, .int .i64 0, .slice none 0 0, .int .i64 0, .bool false, .nilIface, .nilIface], ?_, rfl, rfl, rfl, rfl, rfl, rfl, rfl, rfl, rfl⟩
  kernel_rfl

/-- the row of the Timeline behind runOrigins -/
def fin (arr : Array Value) (s org : Int) (oh : Bool) : Nat → Option Value := fun i => if i = 25 then some (.int .i64 s) else if i = 24 then some (.bool true) else if i = 27 then some (.bool oh) else if i = 26 then some (.int .i64 org) else arr[i]?

theorem fresh_times (a0 a1 a2 a3 a4 a5 : Int) (a6 : Bool) (w : World) (org : Int) (oh ok : Bool) (arr : Array Value) (hsz : arr.size = 43)
    (r0 : arr[0]? = some (.iface 99 (.pointer (some ⟨w.heap.size, 0, none⟩)))) (r2 : arr[2]? = some (.int .u32 1000000000)) (r12 : arr[12]? = some (.int .i64 a3)) (r17 : arr[17]? = some (.int .i64 a4)) (r24 : arr[24]? = some (.bool false)) (r25 : arr[25]? = some (.int .i64 0)) (r26 : arr[26]? = some (.int .i64 0)) (r27 : arr[27]? = some (.bool false))
    (HO : ∀ (T S : Nat) (W : World), T < W.heap.size → S < W.heap.size → T ≠ S → W.cell? ⟨T, 0, none⟩ = some (.iface 99 (.pointer (some ⟨S, 0, none⟩))) → W.cell? ⟨T, 12, none⟩ = some (.int .i64 a3) → W.cell? ⟨S, 0, none⟩ = some (.int .i64 a5) → W.cell? ⟨S, 1, none⟩ = some (.bool a6) → W.cell? ⟨S, 2, none⟩ = some (.slice none 0 0) → W.cell? ⟨S, 3, none⟩ = some (.slice none 0 0) → (∀ j, W.frozen? ⟨S, j, none⟩ = false) →
      Calls Yba.prog 30 #[.pointer (some ⟨T, 0, none⟩), .int .i64 a1] W fun e w' => e = .returned (.tuple #[.int .i64 org, .bool oh]) ∧ Orig S a3 (oTs a3 a5 a1) ok W w') :
    Calls Yba.prog 14 #[.pointer (some ⟨w.heap.size + 1, 0, none⟩), .agg #[.int .i64 a0, .int .i64 a1, .int .i64 0, .int .i64 0, .slice none 0 0, .int .i64 0], .int .i64 a2] ((w.alloc (.cells #[.int .i64 a5, .bool a6, .slice none 0 0, .slice none 0 0] 102)).alloc (.cells arr 120))
      fun e w' => e = .returned (wTup a0 a2 a3 a4 org oh) ∧ Seen w.heap.size (w.heap.size + 1) (w.heap.size + 2) w a0 a3 (oTs a3 a5 a1) ok (fin arr a1 org oh) w' := by
  obtain ⟨W0, hW0⟩ : ∃ W0, W0 = (w.alloc (.cells #[.int .i64 a5, .bool a6, .slice none 0 0, .slice none 0 0] 102)).alloc (.cells arr 120) := ⟨_, rfl⟩
  have hR : W0.heap[w.heap.size + 1]? = some (.cells arr 120 (0, 0)) := by
    rw [hW0]; have := heap_alloc_new (w.alloc (.cells #[.int .i64 a5, .bool a6, .slice none 0 0, .slice none 0 0] 102)) (.cells arr 120); simpa using this
  have hS : W0.heap[w.heap.size]? = some (.cells #[.int .i64 a5, .bool a6, .slice none 0 0, .slice none 0 0] 102 (0, 0)) := by
    rw [hW0, Below.heap_alloc _ _ _ (by simp)]; exact heap_alloc_new _ _
  have hz : W0.heap.size = w.heap.size + 2 := by rw [hW0]; simp
  have hlt : w.heap.size + 1 < W0.heap.size := by omega
  have hlt' : w.heap.size < W0.heap.size := by omega
  have bW : Below w.heap.size w W0 := by rw [hW0]; exact ((Below.refl _ _).alloc (Nat.le_refl _) _).alloc (by rw [World.size_alloc]; omega) _
  have CT : ∀ j, W0.cell? ⟨w.heap.size + 1, j, none⟩ = arr[j]? := fun j => by simp [World.cell?, hR]
  obtain ⟨bx, hbx⟩ : ∃ bx, bx = Obj.cells #[.int .i64 a0, .int .i64 a1, .int .i64 0, .int .i64 0, .slice none 0 0, .int .i64 0] 125 := ⟨_, rfl⟩
  have hb1 : (W0.alloc bx).heap[w.heap.size + 1]? = W0.heap[w.heap.size + 1]? := Below.heap_alloc _ _ _ hlt
  have hb0 : (W0.alloc bx).heap[w.heap.size]? = W0.heap[w.heap.size]? := Below.heap_alloc _ _ _ hlt'
  have K1 : ∀ k j, ((W0.alloc bx).drewN k).cell? ⟨w.heap.size + 1, j, none⟩ = arr[j]? := fun k j => by simp [World.cell?, hb1, hR]
  have K0 : ∀ k j, ((W0.alloc bx).drewN k).cell? ⟨w.heap.size, j, none⟩ = (#[Value.int .i64 a5, .bool a6, .slice none 0 0, .slice none 0 0])[j]? := fun k j => by simp [World.cell?, hb0, hS]
  have F1 : ∀ k j, ((W0.alloc bx).drewN k).frozen? ⟨w.heap.size + 1, j, none⟩ = false := fun k j => by simp [World.frozen?, hb1, hR]
  have F0 : ∀ k j, ((W0.alloc bx).drewN k).frozen? ⟨w.heap.size, j, none⟩ = false := fun k j => by simp [World.frozen?, hb0, hS]
  have KB : ∀ k, ((W0.alloc bx).drewN k).cell? ⟨w.heap.size + 2, 0, none⟩ = some (.int .i64 a0) := fun k => by rw [← hz, hbx]; simp [go_sem]
  have Z : ∀ k, ((W0.alloc bx).drewN k).heap.size = w.heap.size + 3 := fun k => by simp [hz]
  have BW : ∀ k, Below w.heap.size w ((W0.alloc bx).drewN k) := fun k => below_drewN (bW.alloc (by omega) _) k
  rw [← hW0]
  refine times_any (w.heap.size + 1) a0 a1 a2 a3 a4 org oh (.int .i64 0) (.int .i64 0) (.slice none 0 0) (.int .i64 0) W0 _ hlt ((CT 2).trans r2) ((CT 12).trans r12) ((CT 17).trans r17) (fun k => ?_) (fun w' k h => h.drewN k) (fun w' h => (h.row 2).trans r2) (fun w' h => (h.row 12).trans r12) (fun w' h => by rw [hz]; exact h.box)
  rw [← hbx]
  have OC := HO (w.heap.size + 1) w.heap.size ((W0.alloc bx).drewN k) (by rw [Z]; omega) (by rw [Z]; omega) (by omega) ((K1 k 0).trans r0) ((K1 k 12).trans r12) (K0 k 0) (K0 k 1) (K0 k 2) (K0 k 3) (F0 k)
  refine (runOrigins_fresh (w.heap.size + 1) a1 org oh _ (Seen w.heap.size (w.heap.size + 1) (w.heap.size + 2) w a0 a3 (oTs a3 a5 a1) ok (fun j => arr[j]?)) (.bool false) (.int .i64 0) (.int .i64 0) (.bool false) ((K1 k 24).trans r24)
    (OC.mono ?_) (fun w' h => (h.row 24).trans r24) (fun w' h => (h.row 25).trans r25) (fun w' h => (h.row 26).trans r26) (fun w' h => (h.row 27).trans r27) (fun w' h => h.frz)).mono ?_
  · rintro e w' ⟨rfl, h⟩
    exact ⟨rfl, Seen.ofOrig (by omega) (by omega) (by omega) (by rw [Z]; omega) (by rw [Z]; omega) (by rw [Z]; omega) (Nat.le_refl _) (K1 k) (F1 k) (KB k) (K0 k 3) (BW k) h⟩
  · rintro e w' ⟨rfl, w1, h, k2, rfl⟩
    refine ⟨rfl, Seen.drewN ?_ k2⟩
    exact (((h.set (by omega) (by omega) (by omega) 26 _ _ r26).set (by omega) (by omega) (by omega) 27 _ _ r27).set (by omega) (by omega) (by omega) 24 _ _ r24).set (by omega) (by omega) (by omega) 25 _ _ r25

set_option maxHeartbeats 4000000 in
set_option maxRecDepth 10000 in
theorem fresh_yes (a0 a1 a2 a3 a4 a5 : Int) (a6 : Bool) (w : World) (g : (decide (oTs a3 a5 a1 < wrap64 (a3 + a5)) == decide (0 < a1)) = true) :
    Calls Yba.prog 6 #[.int .i64 a0, .int .i64 a1, .int .i64 a2, .int .i64 a3, .int .i64 a4, .int .i64 a5, .bool a6] w fun e w' => e = .returned (.bool true) ∧ Below w.heap.size w w' := by
  obtain ⟨arr, harr, hsz, r0, r2, r12, r17, r24, r25, r26, r27⟩ := built_fresh w.heap.size a3 a4
  have TI := fresh_times a0 a1 a2 a3 a4 a5 a6 w (oTs a3 a5 a1) a6 true arr hsz r0 r2 r12 r17 r24 r25 r26 r27 (fun T S W h1 h2 h3 h4 h5 h6 h7 h8 h9 h10 => origins_yes T S a1 a3 a5 a6 W h1 h2 h3 h4 h5 h6 h7 h8 h9 h10 g)
  have WA := want_any a0 a2 a3 a4 (oTs a3 a5 a1) a6
  obtain ⟨n, d, f, bb, ht⟩ := wTup_eq a0 a2 a3 a4 (oTs a3 a5 a1) a6
  rw [ht] at TI WA
  clear ht
  have e1 : oTs a3 a5 a1 = wrap64 (wrap64 (a3 + a5) - a1) := rfl
  obtain ⟨st, est⟩ : ∃ st, st = wrap64 (a3 + a5) := ⟨_, rfl⟩
  have HS : wrap64 (a3 + a5) = st := est.symm
  rw [HS] at e1 g
  obtain ⟨ts, ets⟩ : ∃ ts, ts = oTs a3 a5 a1 := ⟨_, rfl⟩
  rw [← ets] at e1 g TI WA
  have HT : wrap64 (st - a1) = ts := e1.symm
  clear e1 est ets
  go_enter Yba.func6, Yba.ntmps6
  go_wp2_with (fail)
  refine wp_built 120 _ rfl arr _ (by simp [go_sem]) harr ?_
  go_wp2_with (fail)
  refine TI.mono ?_
  clear TI harr hsz r0 r2 r12 r17 r24 r25 r26 r27
  rintro e U ⟨rfl, sn⟩
  have bel := sn.bel
  obtain ⟨R, c, _, u2, uR⟩ := sn.st
  obtain ⟨R', c', _, u3, uR'⟩ : ∃ R c, R ≠ w.heap.size + 1 ∧ U.cell? ⟨w.heap.size, 3, none⟩ = some (.slice (some ⟨R, 0, none⟩) 1 c) ∧ U.cell? ⟨R, 0, none⟩ = some (.int .i64 ts) := sn.tm
  have u24 : U.cell? ⟨w.heap.size + 1, 24, none⟩ = some (.bool true) := sn.row 24
  have u25 : U.cell? ⟨w.heap.size + 1, 25, none⟩ = some (.int .i64 a1) := sn.row 25
  have u26 : U.cell? ⟨w.heap.size + 1, 26, none⟩ = some (.int .i64 (ts)) := sn.row 26
  have u27 : U.cell? ⟨w.heap.size + 1, 27, none⟩ = some (.bool a6) := sn.row 27
  clear sn
  go_wp2_with (go_at_call 15; refine (WA _).mono ?_; rintro e w' ⟨rfl, rfl⟩)
  go_ret
  exact ⟨rfl, bel⟩

set_option maxHeartbeats 4000000 in
set_option maxRecDepth 10000 in
theorem fresh_no (a0 a1 a2 a3 a4 a5 : Int) (a6 : Bool) (w : World) (g : (decide (oTs a3 a5 a1 < wrap64 (a3 + a5)) == decide (0 < a1)) = false) :
    Calls Yba.prog 6 #[.int .i64 a0, .int .i64 a1, .int .i64 a2, .int .i64 a3, .int .i64 a4, .int .i64 a5, .bool a6] w fun e w' => e = .returned (.bool true) ∧ Below w.heap.size w w' := by
  obtain ⟨arr, harr, hsz, r0, r2, r12, r17, r24, r25, r26, r27⟩ := built_fresh w.heap.size a3 a4
  have TI := fresh_times a0 a1 a2 a3 a4 a5 a6 w (0) false false arr hsz r0 r2 r12 r17 r24 r25 r26 r27 (fun T S W h1 h2 h3 h4 h5 h6 h7 h8 h9 h10 => origins_no T S a1 a3 a5 a6 W h1 h2 h3 h4 h5 h6 h7 h8 h9 h10 g)
  have WA := want_any a0 a2 a3 a4 (0) false
  obtain ⟨n, d, f, bb, ht⟩ := wTup_eq a0 a2 a3 a4 (0) false
  rw [ht] at TI WA
  clear ht
  have e1 : oTs a3 a5 a1 = wrap64 (wrap64 (a3 + a5) - a1) := rfl
  obtain ⟨st, est⟩ : ∃ st, st = wrap64 (a3 + a5) := ⟨_, rfl⟩
  have HS : wrap64 (a3 + a5) = st := est.symm
  rw [HS] at e1 g
  obtain ⟨ts, ets⟩ : ∃ ts, ts = oTs a3 a5 a1 := ⟨_, rfl⟩
  rw [← ets] at e1 g TI
  have HT : wrap64 (st - a1) = ts := e1.symm
  clear e1 est ets
  go_enter Yba.func6, Yba.ntmps6
  go_wp2_with (fail)
  refine wp_built 120 _ rfl arr _ (by simp [go_sem]) harr ?_
  go_wp2_with (fail)
  refine TI.mono ?_
  clear TI harr hsz r0 r2 r12 r17 r24 r25 r26 r27
  rintro e U ⟨rfl, sn⟩
  have bel := sn.bel
  obtain ⟨R, c, _, u2, uR⟩ := sn.st
  have u3 : U.cell? ⟨w.heap.size, 3, none⟩ = some (.slice none 0 0) := sn.tm
  have u24 : U.cell? ⟨w.heap.size + 1, 24, none⟩ = some (.bool true) := sn.row 24
  have u25 : U.cell? ⟨w.heap.size + 1, 25, none⟩ = some (.int .i64 a1) := sn.row 25
  have u26 : U.cell? ⟨w.heap.size + 1, 26, none⟩ = some (.int .i64 (0)) := sn.row 26
  have u27 : U.cell? ⟨w.heap.size + 1, 27, none⟩ = some (.bool false) := sn.row 27
  clear sn
  go_wp2_with (go_at_call 15; refine (WA _).mono ?_; rintro e w' ⟨rfl, rfl⟩)
  go_ret
  exact ⟨rfl, bel⟩

theorem fresh_any (a0 a1 a2 a3 a4 a5 : Int) (a6 : Bool) (w : World) :
    Calls Yba.prog 6 #[.int .i64 a0, .int .i64 a1, .int .i64 a2, .int .i64 a3, .int .i64 a4, .int .i64 a5, .bool a6] w fun e w' => e = .returned (.bool true) ∧ Below w.heap.size w w' := by
  cases g : (decide (oTs a3 a5 a1 < wrap64 (a3 + a5)) == decide (0 < a1)) with
  | true => exact fresh_yes a0 a1 a2 a3 a4 a5 a6 w g
  | false => exact fresh_no a0 a1 a2 a3 a4 a5 a6 w g
end Go.Proofs.Ybulkzui
