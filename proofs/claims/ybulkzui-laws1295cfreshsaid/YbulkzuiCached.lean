import Derived.Test.YbulkzuiTimes
import Derived.Laws.Tables
set_option linter.unusedVariables false
namespace Go.Proofs.Ybulkzui
open Go Go.RowKit

theorem wp_built {o : Oper} {a : Act} {w : World} {K : Act → World → Prop} {Q : Exit → Act → World → Prop} (t : TypeId) (parts : Array (Nat × Operand)) (ho : o.op = .build t parts) (cells : Array Value) (L : List (Nat × Value))
    (hl : (parts.map fun (i, x) => (i, a.eval x)).toList = L) (hc : Yba.prog.built t L = some cells)
    (h : K (a.put o.dst (.agg cells)) w) : o.wp Yba.prog a w K Q :=
  wp_build t parts ho (by rw [hl, hc]; rfl) (by rw [hl, hc]; exact h)

theorem built_cached (n : Nat) (o f sh c : Int) (ch : Bool) : ∃ arr : Array Value, Yba.prog.built 120 [(0, .iface 99 (.pointer (some ⟨n, 0, none⟩))), (2, .int .u32 1000000000), (12, .int .i64 o), (17, .int .i64 f), (24, .bool true), (25, .int .i64 sh), (26, .int .i64 c), (27, .bool ch)] = some arr ∧
    arr.size = 43 ∧ arr[0]? = some (.iface 99 (.pointer (some ⟨n, 0, none⟩))) ∧ arr[2]? = some (.int .u32 1000000000) ∧ arr[12]? = some (.int .i64 o) ∧ arr[17]? = some (.int .i64 f) ∧ arr[24]? = some (.bool true) ∧ arr[25]? = some (.int .i64 sh) ∧ arr[26]? = some (.int .i64 c) ∧ arr[27]? = some (.bool ch) := by
  refine ⟨#[.iface 99 (.pointer (some ⟨n, 0, none⟩)), .nilIface, .int .u32 1000000000, .bool false, .bool false, .int .i64 0, .int .i64 0, .int .i64 0, .int .i64 0, .slice none 0 0, .slice none 0 0, .bool false, .int .i64 o, .int .i64 0, .int .i64 0, .int .i64 0, .int .i64 0, .int .i64 f, .int .i64 0, .bool false, .bool false, .int .i64 0, .int .i64 0, .bool false, .bool true, .int .i64 sh, .int .i64 c, .bool ch, .int .i64 0, .int .i64 0, .int .i64 0, .int .u32 0, .int .i64 0, .bool false, .bool false, .bool false, .bool false, .int .i64 0, .slice none 0 0, .int .i64 0, .bool false, .nilIface, .nilIface], ?_, rfl, rfl, rfl, rfl, rfl, rfl, rfl, rfl, rfl⟩
  kernel_rfl

theorem wTup_eq (pts lasts origin frame org : Int) (oh : Bool) : ∃ n d f b, wTup pts lasts origin frame org oh = .tuple #[.int .i64 n, .int .i64 d, .int .i64 f, .bool b] := by
  unfold wTup
  split
  · exact ⟨_, _, _, _, rfl⟩
  · exact ⟨_, _, _, _, rfl⟩
theorem Grown.drewN {W w' : World} (h : Grown W w') (k : Nat) : Grown W (w'.drewN k) := h

set_option maxHeartbeats 4000000 in
set_option maxRecDepth 10000 in
theorem cached_any (a0 a1 a2 a3 a4 a5 : Int) (a6 : Bool) (w : World) :
    Calls Yba.prog 7 #[.int .i64 a0, .int .i64 a1, .int .i64 a2, .int .i64 a3, .int .i64 a4, .int .i64 a5, .bool a6] w fun e w' => e = .returned (.bool true) ∧ Grown w w' := by
  obtain ⟨arr, harr, hsz, r0, r2, r12, r17, r24, r25, r26, r27⟩ := built_cached w.heap.size a3 a4 a1 a5 a6
  obtain ⟨W0, hW0⟩ : ∃ W0, W0 = (w.alloc (.cells #[.int .i64 0, .bool false, .slice none 0 0, .slice none 0 0] 102)).alloc (.cells arr 120) := ⟨_, rfl⟩
  have hR : W0.heap[w.heap.size + 1]? = some (.cells arr 120 (0, 0)) := by
    rw [hW0]; have := heap_alloc_new (w.alloc (.cells #[.int .i64 0, .bool false, .slice none 0 0, .slice none 0 0] 102)) (.cells arr 120); simpa using this
  have hS : W0.heap[w.heap.size]? = some (.cells #[.int .i64 0, .bool false, .slice none 0 0, .slice none 0 0] 102 (0, 0)) := by
    rw [hW0, Below.heap_alloc _ _ _ (by simp)]; exact heap_alloc_new _ _
  have hlt : w.heap.size + 1 < W0.heap.size := (Array.getElem?_eq_some_iff.1 hR).1
  have hlt' : w.heap.size < W0.heap.size := by omega
  have gW : Grown w W0 := by rw [hW0]; exact ((Grown.refl _).alloc _ _).alloc _ _
  have CT : ∀ j, W0.cell? ⟨w.heap.size + 1, j, none⟩ = arr[j]? := fun j => by simp [World.cell?, hR]
  have CS : ∀ j, W0.cell? ⟨w.heap.size, j, none⟩ = (#[Value.int .i64 0, .bool false, .slice none 0 0, .slice none 0 0])[j]? := fun j => by simp [World.cell?, hS]
  obtain ⟨bx, hbx⟩ : ∃ bx, bx = Obj.cells #[.int .i64 a0, .int .i64 a1, .int .i64 0, .int .i64 0, .slice none 0 0, .int .i64 0] 125 := ⟨_, rfl⟩
  have hb1 : (W0.alloc bx).heap[w.heap.size + 1]? = W0.heap[w.heap.size + 1]? := Below.heap_alloc _ _ _ hlt
  have hb0 : (W0.alloc bx).heap[w.heap.size]? = W0.heap[w.heap.size]? := Below.heap_alloc _ _ _ hlt'
  have K1 : ∀ k j, ((W0.alloc bx).drewN k).cell? ⟨w.heap.size + 1, j, none⟩ = arr[j]? := fun k j => by simp [World.cell?, hb1, hR]
  have K0 : ∀ k j, ((W0.alloc bx).drewN k).cell? ⟨w.heap.size, j, none⟩ = (#[Value.int .i64 0, .bool false, .slice none 0 0, .slice none 0 0])[j]? := fun k j => by simp [World.cell?, hb0, hS]
  have TI := times_any (w.heap.size + 1) a0 a1 a2 a3 a4 a5 a6 (.int .i64 0) (.int .i64 0) (.slice none 0 0) (.int .i64 0) W0 (fun w' => ∃ k, w' = (W0.alloc bx).drewN k) hlt
    ((CT 2).trans r2) ((CT 12).trans r12) ((CT 17).trans r17)
    (fun k => by
      rw [← hbx]
      refine (runOrigins_cached _ _ _ _ _ ((K1 _ _).trans r24) ((K1 _ _).trans r25) ((K1 _ _).trans r26) ((K1 _ _).trans r27)).mono ?_
      rintro e w' ⟨rfl, k2, rfl⟩
      exact ⟨rfl, k + k2, by simp⟩)
    (fun w' k ⟨k1, h⟩ => ⟨k1 + k, by rw [h]; simp⟩) (fun w' ⟨k, h⟩ => by rw [h, K1]; exact r2) (fun w' ⟨k, h⟩ => by rw [h, K1]; exact r12)
    (fun w' ⟨k, h⟩ => by rw [h, hbx]; simp [go_sem])
  have WA := want_any a0 a2 a3 a4 a5 a6
  obtain ⟨n, d, f, bb, ht⟩ := wTup_eq a0 a2 a3 a4 a5 a6
  rw [ht] at TI WA
  have TI2 := TI.mono (R' := fun e w' => e = .returned (.tuple #[.int .i64 n, .int .i64 d, .int .i64 f, .bool bb]) ∧ w'.cell? ⟨w.heap.size, 2, none⟩ = some (.slice none 0 0) ∧ w'.cell? ⟨w.heap.size, 3, none⟩ = some (.slice none 0 0) ∧ w'.cell? ⟨w.heap.size + 1, 26, none⟩ = some (.int .i64 a5) ∧ w'.cell? ⟨w.heap.size + 1, 27, none⟩ = some (.bool a6) ∧ Grown w w') (by
    rintro e w' ⟨rfl, k, rfl⟩
    exact ⟨rfl, K0 k 2, K0 k 3, (K1 k 26).trans r26, (K1 k 27).trans r27, Grown.drewN (by rw [hbx]; exact gW.alloc _ _) k⟩)
  rw [hW0] at TI2
  clear TI hW0 hR hS hlt hlt' gW CT CS K1 K0 hb1 hb0 ht
  go_enter Yba.func7, Yba.ntmps7
  go_wp2_with (fail)
  refine wp_built 120 _ rfl arr _ (by simp [go_sem]) harr ?_
  go_wp2_with (fail)
  refine TI2.mono ?_
  clear TI2 harr hsz r0 r2 r12 r17 r24 r25 r26 r27
  rintro e U ⟨rfl, u2, u3, u26, u27, gU⟩
  go_wp2_with (go_at_call 15; refine (WA _).mono ?_; rintro e w' ⟨rfl, rfl⟩)
  go_ret
  exact ⟨rfl, gU⟩
end Go.Proofs.Ybulkzui
