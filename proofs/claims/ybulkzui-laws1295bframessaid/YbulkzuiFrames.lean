import Derived.Test.YbulkzuiSettle
import Derived.Laws.StructEq
set_option linter.unusedVariables false
namespace Go.Proofs.Ybulkzui
open Go Go.RowKit
namespace Frames

theorem blk_cell {w : World} {b : Nat} {cs : Array Value} {t : TypeId} (h : w.heap[b]? = some (.cells cs t (0, 0))) (j : Nat) : w.cell? ⟨b, j, none⟩ = cs[j]? := by
  simp [World.cell?, h]
theorem blk_free {w : World} {b : Nat} {cs : Array Value} {t : TypeId} (h : w.heap[b]? = some (.cells cs t (0, 0))) (j : Nat) : w.frozen? ⟨b, j, none⟩ = false := by
  simp [World.frozen?, h]

/-- '==' on spans -/
theorem eq60 (a b c a' b' c' : Int) (w : World) : (Op.equalIn 10000 60 (.agg #[.int .i64 a, .int .u32 b, .int .i64 c]) (.agg #[.int .i64 a', .int .u32 b', .int .i64 c'])).run Yba.prog w = .ok (a == a' && (b == b' && c == c')) w := by
  have u2 := Yba.underlying2
  have a2 := Yba.isAgg2
  have z2 := Yba.sizeOf2
  have u22 := Yba.underlying22
  have a22 := Yba.isAgg22
  have z22 := Yba.sizeOf22
  have hS : Yba.prog.underlying 60 = some (.struct (Yba.prog.fieldsOf 60)) := by kernel_rfl
  have hp : Yba.prog.stoodInHeld 60 = false := by kernel_rfl
  rw [show (10000 : Nat) = 9999 + 1 from rfl, run_equalIn_agg w 9999 60 _ _ hS hp]
  simp only [Program.fieldsOf, Yba.underlying60]
  go_simp
  by_cases h1 : a = a' <;> by_cases h2 : b = b' <;> by_cases h3 : c = c' <;> simp [h1, h2, h3]

/-- the frame of a movie without video -/
theorem plain_frame : IntKind.i64.wrap (1001 * ppf (partD 1001 30000)) = 1001 ∧ fpp (partD 1001 30000) = 1 := by
  have e : partD 1001 30000 = 33366667 := by
    unfold partD tot
    rw [if_neg (by omega)]
    unfold wrap64
    omega
  rw [e]
  have e1 : ppf 33366667 = 1 := by unfold ppf; rw [if_neg (by omega)]; rfl
  have e2 : fpp 33366667 = 1 := by
    unfold fpp
    have : wrap64 (33366667 + 16683333) = 50050000 := by unfold wrap64; omega
    have t : Int.tdiv 50050000 33366666 = 1 := by decide
    have t2 : wrap64 1 = 1 := by unfold wrap64; omega
    rw [this, t, t2]
    rfl
  rw [e1, e2]
  exact ⟨by rfl, rfl⟩

/-- the empty movie: no track -/
theorem earliest_none (R : Nat) (own : Value) (W : World) (c0 : W.cell? ⟨R, 0, none⟩ = some (.slice none 0 0)) :
    Calls Yba.prog 17 #[.pointer (some ⟨R, 0, none⟩), own] W fun e w' => e = .returned (.tuple #[.int .i64 0, .bool false]) ∧ ∃ k, w' = W.drewN k := by
  go_enter Yba.func17, Yba.ntmps17
  go_wp2
  refine wp_loop_rounds 1 ?_
  rw [rounds_succ]
  go_wp2
  go_ret2
  exact ⟨rfl, 0, rfl⟩

/-- zzs1295bsetdur -/
theorem setdur_any (b j : Nat) (d : Int) (u : Value) (W : World) (c : W.cell? ⟨b, j, none⟩ = some u) (f : W.frozen? ⟨b, j, none⟩ = false) :
    Calls Yba.prog 8 #[.pointer (some ⟨b, j, none⟩), .int .u32 d] W fun e w' => e = .returned (.tuple #[]) ∧ W.setCell ⟨b, j, none⟩ (.int .u32 d) = w' := by
  go_enter Yba.func8, Yba.ntmps8
  go_wp2
  go_end0
  exact ⟨rfl, rfl⟩

theorem st_of (W : World) (R : Nat) (arr : Array Value) (hb : W.heap[R]? = some (.cells arr 79 (0, 0))) (h : arr.size = 161) : St R W W (fun j => (arr[j]?).getD (.bool false)) := by
  refine ⟨fun j hj => ?_, fun j => blk_free hb j, (Array.getElem?_eq_some_iff.1 hb).1, World.grownBy.refl _ _⟩
  rw [blk_cell hb, Array.getElem?_eq_getElem (by omega)]; rfl
theorem z_size : Yba.zeroCells79.size = 161 := by kernel_rfl
theorem z0 : Yba.zeroCells79[0]? = some (.slice none 0 0) := by kernel_rfl
theorem z3 : Yba.zeroCells79[3]? = some (.pointer none) := by kernel_rfl
theorem z4 : Yba.zeroCells79[4]? = some (.pointer none) := by kernel_rfl
theorem z45 : Yba.zeroCells79[45]? = some (.bool false) := by kernel_rfl
theorem arr_plain (pre : Int) (arr : Array Value) (h : arr = ((Yba.zeroCells79.setIfInBounds 156 (Value.int .i64 pre)).setIfInBounds 159 (Value.int .i64 pre))) :
    arr.size = 161 ∧ arr[0]? = some (.slice none 0 0) ∧ arr[3]? = some (.pointer none) ∧ arr[4]? = some (.pointer none) ∧ arr[45]? = some (.bool false) := by
  obtain ⟨z, hz⟩ : ∃ z, z = Yba.zeroCells79 := ⟨_, rfl⟩
  have hs : z.size = 161 := by rw [hz]; exact z_size
  have h0 : z[0]? = some (.slice none 0 0) := by rw [hz]; exact z0
  have h3 : z[3]? = some (.pointer none) := by rw [hz]; exact z3
  have h4 : z[4]? = some (.pointer none) := by rw [hz]; exact z4
  have h45 : z[45]? = some (.bool false) := by rw [hz]; exact z45
  rw [← hz] at h
  clear hz
  rw [h]
  refine ⟨?_, ?_, ?_, ?_, ?_⟩
  · simp only [Array.size_setIfInBounds]; exact hs
  · rw [Array.getElem?_setIfInBounds_ne (by decide), Array.getElem?_setIfInBounds_ne (by decide)]; exact h0
  · rw [Array.getElem?_setIfInBounds_ne (by decide), Array.getElem?_setIfInBounds_ne (by decide)]; exact h3
  · rw [Array.getElem?_setIfInBounds_ne (by decide), Array.getElem?_setIfInBounds_ne (by decide)]; exact h4
  · rw [Array.getElem?_setIfInBounds_ne (by decide), Array.getElem?_setIfInBounds_ne (by decide)]; exact h45

set_option maxRecDepth 10000 in
set_option maxHeartbeats 4000000 in
theorem frames_plain (scale dur pre : Int) (seen : Bool) (w : World) :
    Calls Yba.prog 3 #[.int .u32 scale, .bool seen, .int .u32 dur, .bool false, .int .i64 pre] w fun e w' => e = .returned (.bool true) ∧ Below w.heap.size w w' := by
  obtain ⟨arr, harr⟩ : ∃ arr, arr = ((Yba.zeroCells79.setIfInBounds 156 (Value.int .i64 pre)).setIfInBounds 159 (Value.int .i64 pre)) := ⟨_, rfl⟩
  obtain ⟨asz, a0', a3', a4', a45'⟩ := arr_plain pre arr harr
  obtain ⟨W0, hW0⟩ : ∃ W0, W0 = (w.alloc (.cells arr 79)).alloc (.cells #[.int .i64 1001, .int .u32 30000, .int .i64 1] 60) := ⟨_, rfl⟩
  have hR : W0.heap[w.heap.size]? = some (.cells arr 79 (0, 0)) := by
    rw [hW0, Below.heap_alloc _ _ _ (by simp)]; exact heap_alloc_new _ _
  have hT : W0.heap[w.heap.size + 1]? = some (.cells #[.int .i64 1001, .int .u32 30000, .int .i64 1] 60 (0, 0)) := by
    rw [hW0]; have := heap_alloc_new (w.alloc (.cells arr 79)) (.cells #[.int .i64 1001, .int .u32 30000, .int .i64 1] 60); simpa using this
  have bW : Below w.heap.size w W0 := by rw [hW0]; exact ((Below.refl _ _).alloc (Nat.le_refl _) _).alloc (by rw [World.size_alloc]; omega) _
  have SN := st_of W0 w.heap.size arr hR asz
  have SETT := settle_nil w.heap.size W0 _ 0 false SN (by simp [a45']) (by
    intro w2 hg2 hc2
    rw [a0'] at hc2
    exact earliest_none _ _ _ hc2) (by simp [a4'])
  rw [hW0, harr] at SETT
  go_enter Yba.func3, Yba.ntmps3
  go_wp2_with fail
  refine SETT.mono ?_
  rintro e W9 ⟨rfl, g, P⟩
  rw [← harr, ← hW0] at P
  have B9 : Below w.heap.size w W9 := bW.grown P.st.grw bW.size (fun k e => by simp at e; omega)
  have hT9 : W9.heap[w.heap.size + 1]? = some (.cells #[.int .i64 1001, .int .u32 30000, .int .i64 1] 60 (0, 0)) := by
    rw [P.st.grw.block _ (Array.getElem?_eq_some_iff.1 hT).1 (by intro h; injection h with h; omega)]; exact hT
  have hT9s := (Array.getElem?_eq_some_iff.1 hT9).1
  have t0 : W9.cell? ⟨w.heap.size + 1, 0, none⟩ = some (.int .i64 1001) := by rw [blk_cell hT9]; rfl
  have t1 : W9.cell? ⟨w.heap.size + 1, 1, none⟩ = some (.int .u32 30000) := by rw [blk_cell hT9]; rfl
  have t2 : W9.cell? ⟨w.heap.size + 1, 2, none⟩ = some (.int .i64 1) := by rw [blk_cell hT9]; rfl
  have d45 : W9.cell? ⟨w.heap.size, 45, none⟩ = some (.bool true) := (P.st.row 45 (by omega)).trans (by rw [P.g45])
  have d47 : W9.cell? ⟨w.heap.size, 47, none⟩ = some (.int .i64 0) := (P.st.row 47 (by omega)).trans (by rw [P.g47])
  have d48 : W9.cell? ⟨w.heap.size, 48, none⟩ = some (.int .i64 (IntKind.i64.wrap (1001 * ppf (partD 1001 30000)))) := (P.st.row 48 (by omega)).trans (by rw [P.g48])
  have d49 : W9.cell? ⟨w.heap.size, 49, none⟩ = some (.int .u32 30000) := (P.st.row 49 (by omega)).trans (by rw [P.g49])
  have d50 : W9.cell? ⟨w.heap.size, 50, none⟩ = some (.int .i64 (fpp (partD 1001 30000))) := (P.st.row 50 (by omega)).trans (by rw [P.g50])
  have d51 : W9.cell? ⟨w.heap.size, 51, none⟩ = some (.int .i64 1001) := (P.st.row 51 (by omega)).trans (by rw [P.g51])
  have d52 : W9.cell? ⟨w.heap.size, 52, none⟩ = some (.int .u32 30000) := (P.st.row 52 (by omega)).trans (by rw [P.g52])
  have d53 : W9.cell? ⟨w.heap.size, 53, none⟩ = some (.int .i64 1) := (P.st.row 53 (by omega)).trans (by rw [P.g53])
  have d156 : W9.cell? ⟨w.heap.size, 156, none⟩ = some (.int .i64 0) := (P.st.row 156 (by omega)).trans (by rw [P.g156])
  have d159 : W9.cell? ⟨w.heap.size, 159, none⟩ = some (.int .i64 0) := (P.st.row 159 (by omega)).trans (by rw [P.g159])
  have hRl := P.st.lt
  clear SETT SN hT hT9 hR bW P hW0 harr asz a0' a3' a4' a45'
  have eq60' := eq60
  go_wp2
  go_quiet (fail)
  go_wp2_with fail
  refine (part_any _ _ _ _ (by omega) (by omega) (by omega) (by omega) 1001 (by omega) (by omega) (by omega) (by omega)).mono ?_
  rintro e w' ⟨rfl, k3, rfl⟩
  have pb := partD_bd 1001 30000
  go_wp2
  refine wp_general (fun W => W.heap = W9.heap ∧ Below w.heap.size w W) ⟨rfl, below_drewN B9 _⟩ ?_
  rintro U ⟨hU, BU⟩
  have cU : ∀ a, U.cell? a = W9.cell? a := fun a => by simp [World.cell?, hU]
  have hUs : w.heap.size < U.heap.size := by rw [hU]; exact hRl
  have hUt : w.heap.size + 1 < U.heap.size := by rw [hU]; exact hT9s
  replace t0 := (cU _).trans t0
  replace t1 := (cU _).trans t1
  replace t2 := (cU _).trans t2
  replace d47 := (cU _).trans d47
  replace d48 := (cU _).trans d48
  replace d49 := (cU _).trans d49
  replace d50 := (cU _).trans d50
  replace d156 := (cU _).trans d156
  replace d159 := (cU _).trans d159
  clear d45 d51 d52 d53 cU hU B9 hRl hT9s
  go_region_held3 (fun w' => w'.cell? ⟨w.heap.size + 1, 0, none⟩ = some (.int .i64 1001) ∧ w'.cell? ⟨w.heap.size + 1, 1, none⟩ = some (.int .u32 30000)) (simp [go_sem, World.cell?_alloc_some, t0, t1])
    (first
      | (go_at_call 11; refine (ppf_any _ _ pb.1 pb.2).mono ?_; rintro e w' ⟨rfl, rfl⟩)
      | (go_at_call 12; refine (fpp_any _ _).mono ?_; rintro e w' ⟨rfl, rfl⟩))
  all_goals
    go_wp2
    go_quiet (fail)
    have pf1 := plain_frame.1
    have pf2 := plain_frame.2
    go_wp2
    go_ret
    exact ⟨rfl, below_drewN (BU.alloc (by omega) _) _⟩
/-- the cells of the video track -/
abbrev vcells (sc : Int) (seen : Bool) (dur : Int) : Array Value :=
  #[.int .u32 0, .int .u32 sc, .string ⟨#[]⟩, .string ⟨#[]⟩, .slice none 0 0, .nilIface, .int .i64 0, .int .i64 0, .bool false, .int .i64 0, .int .i64 0, .bool false,
    .int .u32 0, .int .u32 0, .nilIface, .int .i64 0, .int .i64 0, .nilIface, .int .i64 0, .int .i64 0, .bool false, .nilIface, .int .i64 0, .int .i64 0, .nilIface, .int .i64 0, .int .i64 0,
    .nilIface, .int .i64 0, .int .i64 0, .bool false, .int .i64 0, .int .u32 0, .int .i64 0, .int .i64 0, .int .i32 0, .int .u32 0, .int .u32 0, .int .i64 0,
    .bool seen, .int .i64 0, .int .u32 dur, .int .i64 0, .int .i64 0, .int .i32 0]
theorem arr_video (pre : Int) (v : Value) (arr : Array Value) (h : arr = (((Yba.zeroCells79.setIfInBounds 156 (Value.int .i64 pre)).setIfInBounds 159 (Value.int .i64 pre)).setIfInBounds 4 v)) :
    arr.size = 161 ∧ arr[0]? = some (.slice none 0 0) ∧ arr[3]? = some (.pointer none) ∧ arr[4]? = some v ∧ arr[45]? = some (.bool false) := by
  obtain ⟨z, hz⟩ : ∃ z, z = Yba.zeroCells79 := ⟨_, rfl⟩
  have hs : z.size = 161 := by rw [hz]; exact z_size
  have h0 : z[0]? = some (.slice none 0 0) := by rw [hz]; exact z0
  have h3 : z[3]? = some (.pointer none) := by rw [hz]; exact z3
  have h45 : z[45]? = some (.bool false) := by rw [hz]; exact z45
  rw [← hz] at h
  clear hz
  rw [h]
  refine ⟨?_, ?_, ?_, ?_, ?_⟩
  · simp only [Array.size_setIfInBounds]; exact hs
  · rw [Array.getElem?_setIfInBounds_ne (by decide), Array.getElem?_setIfInBounds_ne (by decide), Array.getElem?_setIfInBounds_ne (by decide)]; exact h0
  · rw [Array.getElem?_setIfInBounds_ne (by decide), Array.getElem?_setIfInBounds_ne (by decide), Array.getElem?_setIfInBounds_ne (by decide)]; exact h3
  · exact Array.getElem?_setIfInBounds_self_of_lt (by simp only [Array.size_setIfInBounds]; omega)
  · rw [Array.getElem?_setIfInBounds_ne (by decide), Array.getElem?_setIfInBounds_ne (by decide), Array.getElem?_setIfInBounds_ne (by decide)]; exact h45

set_option maxRecDepth 10000 in
set_option maxHeartbeats 4000000 in
theorem frames_unseen (scale dur pre : Int) (w : World) :
    Calls Yba.prog 3 #[.int .u32 scale, .bool false, .int .u32 dur, .bool true, .int .i64 pre] w fun e w' => e = .returned (.bool true) ∧ Below w.heap.size w w' := by
  obtain ⟨arr, harr⟩ : ∃ arr, arr = (((Yba.zeroCells79.setIfInBounds 156 (Value.int .i64 pre)).setIfInBounds 159 (Value.int .i64 pre)).setIfInBounds 4 (Value.pointer (some ⟨w.heap.size + 1, 0, none⟩))) := ⟨_, rfl⟩
  obtain ⟨asz, a0', a3', a4', a45'⟩ := arr_video pre _ arr harr
  obtain ⟨W0, hW0⟩ : ∃ W0, W0 = (((w.alloc (.cells arr 79)).alloc (.cells (vcells scale false dur) 85)).alloc (.cells #[.int .i64 1001, .int .u32 30000, .int .i64 1] 60)) := ⟨_, rfl⟩
  have hR : W0.heap[w.heap.size]? = some (.cells arr 79 (0, 0)) := by
    rw [hW0]
    show (((w.alloc (.cells arr 79)).alloc (.cells (vcells scale false dur) 85)).alloc (.cells #[.int .i64 1001, .int .u32 30000, .int .i64 1] 60)).heap[w.heap.size]? = _
    rw [Below.heap_alloc _ _ _ (by simp; omega), Below.heap_alloc _ _ _ (by simp)]; exact heap_alloc_new _ _
  have hVb : W0.heap[w.heap.size + 1]? = some (.cells (vcells scale false dur) 85 (0, 0)) := by
    rw [hW0]
    show (((w.alloc (.cells arr 79)).alloc (.cells (vcells scale false dur) 85)).alloc (.cells #[.int .i64 1001, .int .u32 30000, .int .i64 1] 60)).heap[w.heap.size + 1]? = _
    rw [Below.heap_alloc _ _ _ (by simp)]; have := heap_alloc_new (w.alloc (.cells arr 79)) (.cells (vcells scale false dur) 85); simpa using this
  have hT : W0.heap[w.heap.size + 1 + 1]? = some (.cells #[.int .i64 1001, .int .u32 30000, .int .i64 1] 60 (0, 0)) := by
    rw [hW0]
    show (((w.alloc (.cells arr 79)).alloc (.cells (vcells scale false dur) 85)).alloc (.cells #[.int .i64 1001, .int .u32 30000, .int .i64 1] 60)).heap[w.heap.size + 1 + 1]? = _
    have := heap_alloc_new ((w.alloc (.cells arr 79)).alloc (.cells (vcells scale false dur) 85)) (.cells #[.int .i64 1001, .int .u32 30000, .int .i64 1] 60); simpa using this
  have bW : Below w.heap.size w W0 := by
    rw [hW0]; exact ((((Below.refl _ _).alloc (Nat.le_refl _) _).alloc (by rw [World.size_alloc]; omega) _).alloc (by rw [World.size_alloc, World.size_alloc]; omega) _)
  have SN := st_of W0 w.heap.size arr hR asz
  have SETT := settle_unseen w.heap.size W0 _ 0 false SN (by simp [a45']) (by
    intro w2 hg2 hc2
    rw [a0'] at hc2
    exact earliest_none _ _ _ hc2) (w.heap.size + 1) (by simp [a4']) (by omega) (by rw [blk_cell hVb]; rfl)
  rw [hW0, harr] at SETT
  go_enter Yba.func3, Yba.ntmps3
  go_wp2_with fail
  refine (setdur_any _ _ _ _ _ (by simp [go_sem]; rfl) (by simp [go_sem])).mono ?_
  rintro e w' ⟨rfl, rfl⟩
  go_wp2_with fail
  refine SETT.mono ?_
  rintro e W9 ⟨rfl, g, P⟩
  rw [← harr, ← hW0] at P
  have B9 : Below w.heap.size w W9 := bW.grown P.st.grw bW.size (fun k e => by simp at e; omega)
  have hT9 : W9.heap[w.heap.size + 1 + 1]? = some (.cells #[.int .i64 1001, .int .u32 30000, .int .i64 1] 60 (0, 0)) := by
    rw [P.st.grw.block _ (Array.getElem?_eq_some_iff.1 hT).1 (by intro h; injection h with h; omega)]; exact hT
  have hT9s := (Array.getElem?_eq_some_iff.1 hT9).1
  have t0 : W9.cell? ⟨w.heap.size + 1 + 1, 0, none⟩ = some (.int .i64 1001) := by rw [blk_cell hT9]; rfl
  have t1 : W9.cell? ⟨w.heap.size + 1 + 1, 1, none⟩ = some (.int .u32 30000) := by rw [blk_cell hT9]; rfl
  have t2 : W9.cell? ⟨w.heap.size + 1 + 1, 2, none⟩ = some (.int .i64 1) := by rw [blk_cell hT9]; rfl
  have d45 : W9.cell? ⟨w.heap.size, 45, none⟩ = some (.bool true) := (P.st.row 45 (by omega)).trans (by rw [P.g45])
  have d47 : W9.cell? ⟨w.heap.size, 47, none⟩ = some (.int .i64 0) := (P.st.row 47 (by omega)).trans (by rw [P.g47])
  have d48 : W9.cell? ⟨w.heap.size, 48, none⟩ = some (.int .i64 (IntKind.i64.wrap (1001 * ppf (partD 1001 30000)))) := (P.st.row 48 (by omega)).trans (by rw [P.g48])
  have d49 : W9.cell? ⟨w.heap.size, 49, none⟩ = some (.int .u32 30000) := (P.st.row 49 (by omega)).trans (by rw [P.g49])
  have d50 : W9.cell? ⟨w.heap.size, 50, none⟩ = some (.int .i64 (fpp (partD 1001 30000))) := (P.st.row 50 (by omega)).trans (by rw [P.g50])
  have d51 : W9.cell? ⟨w.heap.size, 51, none⟩ = some (.int .i64 1001) := (P.st.row 51 (by omega)).trans (by rw [P.g51])
  have d52 : W9.cell? ⟨w.heap.size, 52, none⟩ = some (.int .u32 30000) := (P.st.row 52 (by omega)).trans (by rw [P.g52])
  have d53 : W9.cell? ⟨w.heap.size, 53, none⟩ = some (.int .i64 1) := (P.st.row 53 (by omega)).trans (by rw [P.g53])
  have d156 : W9.cell? ⟨w.heap.size, 156, none⟩ = some (.int .i64 0) := (P.st.row 156 (by omega)).trans (by rw [P.g156])
  have d159 : W9.cell? ⟨w.heap.size, 159, none⟩ = some (.int .i64 0) := (P.st.row 159 (by omega)).trans (by rw [P.g159])
  have hRl := P.st.lt
  clear SETT SN hT hT9 hR bW P hW0 hVb harr asz a0' a3' a4' a45'
  have eq60' := eq60
  go_wp2
  go_quiet (fail)
  go_wp2_with fail
  refine (part_any _ _ _ _ (by omega) (by omega) (by omega) (by omega) 1001 (by omega) (by omega) (by omega) (by omega)).mono ?_
  rintro e w' ⟨rfl, k3, rfl⟩
  have pb := partD_bd 1001 30000
  go_wp2
  refine wp_general (fun W => W.heap = W9.heap ∧ Below w.heap.size w W) ⟨rfl, below_drewN B9 _⟩ ?_
  rintro U ⟨hU, BU⟩
  have cU : ∀ a, U.cell? a = W9.cell? a := fun a => by simp [World.cell?, hU]
  have hUs : w.heap.size < U.heap.size := by rw [hU]; exact hRl
  have hUt : w.heap.size + 1 + 1 < U.heap.size := by rw [hU]; exact hT9s
  replace t0 := (cU _).trans t0
  replace t1 := (cU _).trans t1
  replace t2 := (cU _).trans t2
  replace d47 := (cU _).trans d47
  replace d48 := (cU _).trans d48
  replace d49 := (cU _).trans d49
  replace d50 := (cU _).trans d50
  replace d156 := (cU _).trans d156
  replace d159 := (cU _).trans d159
  clear d45 d51 d52 d53 cU hU B9 hRl hT9s
  go_region_held3 (fun w' => w'.cell? ⟨w.heap.size + 1 + 1, 0, none⟩ = some (.int .i64 1001) ∧ w'.cell? ⟨w.heap.size + 1 + 1, 1, none⟩ = some (.int .u32 30000)) (simp [go_sem, World.cell?_alloc_some, t0, t1])
    (first
      | (go_at_call 11; refine (ppf_any _ _ pb.1 pb.2).mono ?_; rintro e w' ⟨rfl, rfl⟩)
      | (go_at_call 12; refine (fpp_any _ _).mono ?_; rintro e w' ⟨rfl, rfl⟩))
  all_goals
    go_wp2
    go_quiet (fail)
    have pf1 := plain_frame.1
    have pf2 := plain_frame.2
    go_wp2
    go_ret
    exact ⟨rfl, below_drewN (BU.alloc (by omega) _) _⟩
set_option maxRecDepth 10000 in
set_option maxHeartbeats 4000000 in
theorem frames_zero (scale pre : Int) (w : World) :
    Calls Yba.prog 3 #[.int .u32 scale, .bool true, .int .u32 0, .bool true, .int .i64 pre] w fun e w' => e = .returned (.bool true) ∧ Below w.heap.size w w' := by
  obtain ⟨arr, harr⟩ : ∃ arr, arr = (((Yba.zeroCells79.setIfInBounds 156 (Value.int .i64 pre)).setIfInBounds 159 (Value.int .i64 pre)).setIfInBounds 4 (Value.pointer (some ⟨w.heap.size + 1, 0, none⟩))) := ⟨_, rfl⟩
  obtain ⟨asz, a0', a3', a4', a45'⟩ := arr_video pre _ arr harr
  obtain ⟨W0, hW0⟩ : ∃ W0, W0 = (((w.alloc (.cells arr 79)).alloc (.cells (vcells scale true 0) 85)).alloc (.cells #[.int .i64 1001, .int .u32 30000, .int .i64 1] 60)) := ⟨_, rfl⟩
  have hR : W0.heap[w.heap.size]? = some (.cells arr 79 (0, 0)) := by
    rw [hW0]
    show (((w.alloc (.cells arr 79)).alloc (.cells (vcells scale true 0) 85)).alloc (.cells #[.int .i64 1001, .int .u32 30000, .int .i64 1] 60)).heap[w.heap.size]? = _
    rw [Below.heap_alloc _ _ _ (by simp; omega), Below.heap_alloc _ _ _ (by simp)]; exact heap_alloc_new _ _
  have hVb : W0.heap[w.heap.size + 1]? = some (.cells (vcells scale true 0) 85 (0, 0)) := by
    rw [hW0]
    show (((w.alloc (.cells arr 79)).alloc (.cells (vcells scale true 0) 85)).alloc (.cells #[.int .i64 1001, .int .u32 30000, .int .i64 1] 60)).heap[w.heap.size + 1]? = _
    rw [Below.heap_alloc _ _ _ (by simp)]; have := heap_alloc_new (w.alloc (.cells arr 79)) (.cells (vcells scale true 0) 85); simpa using this
  have hT : W0.heap[w.heap.size + 1 + 1]? = some (.cells #[.int .i64 1001, .int .u32 30000, .int .i64 1] 60 (0, 0)) := by
    rw [hW0]
    show (((w.alloc (.cells arr 79)).alloc (.cells (vcells scale true 0) 85)).alloc (.cells #[.int .i64 1001, .int .u32 30000, .int .i64 1] 60)).heap[w.heap.size + 1 + 1]? = _
    have := heap_alloc_new ((w.alloc (.cells arr 79)).alloc (.cells (vcells scale true 0) 85)) (.cells #[.int .i64 1001, .int .u32 30000, .int .i64 1] 60); simpa using this
  have bW : Below w.heap.size w W0 := by
    rw [hW0]; exact ((((Below.refl _ _).alloc (Nat.le_refl _) _).alloc (by rw [World.size_alloc]; omega) _).alloc (by rw [World.size_alloc, World.size_alloc]; omega) _)
  have SN := st_of W0 w.heap.size arr hR asz
  have SETT := settle_zero w.heap.size W0 _ 0 false SN (by simp [a45']) (by
    intro w2 hg2 hc2
    rw [a0'] at hc2
    exact earliest_none _ _ _ hc2) (w.heap.size + 1) (by simp [a4']) (by omega) (by rw [blk_cell hVb]; rfl) (by rw [blk_cell hVb]; rfl)
  rw [hW0, harr] at SETT
  go_enter Yba.func3, Yba.ntmps3
  go_wp2_with fail
  refine (setdur_any _ _ _ _ _ (by simp [go_sem]; rfl) (by simp [go_sem])).mono ?_
  rintro e w' ⟨rfl, rfl⟩
  go_wp2_with fail
  refine SETT.mono ?_
  rintro e W9 ⟨rfl, g, P⟩
  rw [← harr, ← hW0] at P
  have B9 : Below w.heap.size w W9 := bW.grown P.st.grw bW.size (fun k e => by simp at e; omega)
  have hT9 : W9.heap[w.heap.size + 1 + 1]? = some (.cells #[.int .i64 1001, .int .u32 30000, .int .i64 1] 60 (0, 0)) := by
    rw [P.st.grw.block _ (Array.getElem?_eq_some_iff.1 hT).1 (by intro h; injection h with h; omega)]; exact hT
  have hT9s := (Array.getElem?_eq_some_iff.1 hT9).1
  have t0 : W9.cell? ⟨w.heap.size + 1 + 1, 0, none⟩ = some (.int .i64 1001) := by rw [blk_cell hT9]; rfl
  have t1 : W9.cell? ⟨w.heap.size + 1 + 1, 1, none⟩ = some (.int .u32 30000) := by rw [blk_cell hT9]; rfl
  have t2 : W9.cell? ⟨w.heap.size + 1 + 1, 2, none⟩ = some (.int .i64 1) := by rw [blk_cell hT9]; rfl
  have d45 : W9.cell? ⟨w.heap.size, 45, none⟩ = some (.bool true) := (P.st.row 45 (by omega)).trans (by rw [P.g45])
  have d47 : W9.cell? ⟨w.heap.size, 47, none⟩ = some (.int .i64 0) := (P.st.row 47 (by omega)).trans (by rw [P.g47])
  have d48 : W9.cell? ⟨w.heap.size, 48, none⟩ = some (.int .i64 (IntKind.i64.wrap (1001 * ppf (partD 1001 30000)))) := (P.st.row 48 (by omega)).trans (by rw [P.g48])
  have d49 : W9.cell? ⟨w.heap.size, 49, none⟩ = some (.int .u32 30000) := (P.st.row 49 (by omega)).trans (by rw [P.g49])
  have d50 : W9.cell? ⟨w.heap.size, 50, none⟩ = some (.int .i64 (fpp (partD 1001 30000))) := (P.st.row 50 (by omega)).trans (by rw [P.g50])
  have d51 : W9.cell? ⟨w.heap.size, 51, none⟩ = some (.int .i64 1001) := (P.st.row 51 (by omega)).trans (by rw [P.g51])
  have d52 : W9.cell? ⟨w.heap.size, 52, none⟩ = some (.int .u32 30000) := (P.st.row 52 (by omega)).trans (by rw [P.g52])
  have d53 : W9.cell? ⟨w.heap.size, 53, none⟩ = some (.int .i64 1) := (P.st.row 53 (by omega)).trans (by rw [P.g53])
  have d156 : W9.cell? ⟨w.heap.size, 156, none⟩ = some (.int .i64 0) := (P.st.row 156 (by omega)).trans (by rw [P.g156])
  have d159 : W9.cell? ⟨w.heap.size, 159, none⟩ = some (.int .i64 0) := (P.st.row 159 (by omega)).trans (by rw [P.g159])
  have hRl := P.st.lt
  clear SETT SN hT hT9 hR bW P hW0 hVb harr asz a0' a3' a4' a45'
  have eq60' := eq60
  go_wp2
  go_quiet (fail)
  go_wp2_with fail
  refine (part_any _ _ _ _ (by omega) (by omega) (by omega) (by omega) 1001 (by omega) (by omega) (by omega) (by omega)).mono ?_
  rintro e w' ⟨rfl, k3, rfl⟩
  have pb := partD_bd 1001 30000
  go_wp2
  refine wp_general (fun W => W.heap = W9.heap ∧ Below w.heap.size w W) ⟨rfl, below_drewN B9 _⟩ ?_
  rintro U ⟨hU, BU⟩
  have cU : ∀ a, U.cell? a = W9.cell? a := fun a => by simp [World.cell?, hU]
  have hUs : w.heap.size < U.heap.size := by rw [hU]; exact hRl
  have hUt : w.heap.size + 1 + 1 < U.heap.size := by rw [hU]; exact hT9s
  replace t0 := (cU _).trans t0
  replace t1 := (cU _).trans t1
  replace t2 := (cU _).trans t2
  replace d47 := (cU _).trans d47
  replace d48 := (cU _).trans d48
  replace d49 := (cU _).trans d49
  replace d50 := (cU _).trans d50
  replace d156 := (cU _).trans d156
  replace d159 := (cU _).trans d159
  clear d45 d51 d52 d53 cU hU B9 hRl hT9s
  go_region_held3 (fun w' => w'.cell? ⟨w.heap.size + 1 + 1, 0, none⟩ = some (.int .i64 1001) ∧ w'.cell? ⟨w.heap.size + 1 + 1, 1, none⟩ = some (.int .u32 30000)) (simp [go_sem, World.cell?_alloc_some, t0, t1])
    (first
      | (go_at_call 11; refine (ppf_any _ _ pb.1 pb.2).mono ?_; rintro e w' ⟨rfl, rfl⟩)
      | (go_at_call 12; refine (fpp_any _ _).mono ?_; rintro e w' ⟨rfl, rfl⟩))
  all_goals
    go_wp2
    go_quiet (fail)
    have pf1 := plain_frame.1
    have pf2 := plain_frame.2
    go_wp2
    go_ret
    exact ⟨rfl, below_drewN (BU.alloc (by omega) _) _⟩
set_option maxRecDepth 10000 in
set_option maxHeartbeats 4000000 in
theorem frames_v1 (scale dur pre : Int) (w : World) (hd : 0 < dur) (hd1 : dur < 4294967296) (s0 : 0 ≤ scale) (s1 : scale < 4294967296) (hne : (dur == 1001) = false) :
    Calls Yba.prog 3 #[.int .u32 scale, .bool true, .int .u32 dur, .bool true, .int .i64 pre] w fun e w' => e = .returned (.bool true) ∧ Below w.heap.size w w' := by
  obtain ⟨arr, harr⟩ : ∃ arr, arr = (((Yba.zeroCells79.setIfInBounds 156 (Value.int .i64 pre)).setIfInBounds 159 (Value.int .i64 pre)).setIfInBounds 4 (Value.pointer (some ⟨w.heap.size + 1, 0, none⟩))) := ⟨_, rfl⟩
  obtain ⟨asz, a0', a3', a4', a45'⟩ := arr_video pre _ arr harr
  obtain ⟨W0, hW0⟩ : ∃ W0, W0 = (((w.alloc (.cells arr 79)).alloc (.cells (vcells scale true dur) 85)).alloc (.cells #[.int .i64 dur, .int .u32 scale, .int .i64 1] 60)).drew := ⟨_, rfl⟩
  have hR : W0.heap[w.heap.size]? = some (.cells arr 79 (0, 0)) := by
    rw [hW0]
    show (((w.alloc (.cells arr 79)).alloc (.cells (vcells scale true dur) 85)).alloc (.cells #[.int .i64 dur, .int .u32 scale, .int .i64 1] 60)).heap[w.heap.size]? = _
    rw [Below.heap_alloc _ _ _ (by simp; omega), Below.heap_alloc _ _ _ (by simp)]; exact heap_alloc_new _ _
  have hVb : W0.heap[w.heap.size + 1]? = some (.cells (vcells scale true dur) 85 (0, 0)) := by
    rw [hW0]
    show (((w.alloc (.cells arr 79)).alloc (.cells (vcells scale true dur) 85)).alloc (.cells #[.int .i64 dur, .int .u32 scale, .int .i64 1] 60)).heap[w.heap.size + 1]? = _
    rw [Below.heap_alloc _ _ _ (by simp)]; have := heap_alloc_new (w.alloc (.cells arr 79)) (.cells (vcells scale true dur) 85); simpa using this
  have hT : W0.heap[w.heap.size + 1 + 1]? = some (.cells #[.int .i64 dur, .int .u32 scale, .int .i64 1] 60 (0, 0)) := by
    rw [hW0]
    show (((w.alloc (.cells arr 79)).alloc (.cells (vcells scale true dur) 85)).alloc (.cells #[.int .i64 dur, .int .u32 scale, .int .i64 1] 60)).heap[w.heap.size + 1 + 1]? = _
    have := heap_alloc_new ((w.alloc (.cells arr 79)).alloc (.cells (vcells scale true dur) 85)) (.cells #[.int .i64 dur, .int .u32 scale, .int .i64 1] 60); simpa using this
  have bW : Below w.heap.size w W0 := by
    rw [hW0]; exact ((((Below.refl _ _).alloc (Nat.le_refl _) _).alloc (by rw [World.size_alloc]; omega) _).alloc (by rw [World.size_alloc, World.size_alloc]; omega) _).drew
  have SN := st_of W0 w.heap.size arr hR asz
  have SETT := settle_video w.heap.size W0 _ 0 false SN (by simp [a45']) (by
    intro w2 hg2 hc2
    rw [a0'] at hc2
    exact earliest_none _ _ _ hc2) (w.heap.size + 1) (by simp [a4']) (by omega) dur scale hd hd1 s0 s1 (by rw [blk_cell hVb]; rfl) (by rw [blk_cell hVb]; rfl) (by rw [blk_cell hVb]; rfl)
  rw [hW0, harr] at SETT
  go_enter Yba.func3, Yba.ntmps3
  go_wp2_with fail
  refine (setdur_any _ _ _ _ _ (by simp [go_sem]; rfl) (by simp [go_sem])).mono ?_
  rintro e w' ⟨rfl, rfl⟩
  go_wp2_with fail
  go_region_held3 (fun w' => w'.cell? ⟨w.heap.size + 1, 41, none⟩ = some (.int .u32 dur) ∧ w'.cell? ⟨w.heap.size + 1, 1, none⟩ = some (.int .u32 scale)) (simp [go_sem, World.cell?_alloc_past]) (fail)
  go_wp2_with fail
  refine SETT.mono ?_
  rintro e W9 ⟨rfl, g, P⟩
  rw [← harr, ← hW0] at P
  have B9 : Below w.heap.size w W9 := bW.grown P.st.grw bW.size (fun k e => by simp at e; omega)
  have hT9 : W9.heap[w.heap.size + 1 + 1]? = some (.cells #[.int .i64 dur, .int .u32 scale, .int .i64 1] 60 (0, 0)) := by
    rw [P.st.grw.block _ (Array.getElem?_eq_some_iff.1 hT).1 (by intro h; injection h with h; omega)]; exact hT
  have hT9s := (Array.getElem?_eq_some_iff.1 hT9).1
  have t0 : W9.cell? ⟨w.heap.size + 1 + 1, 0, none⟩ = some (.int .i64 dur) := by rw [blk_cell hT9]; rfl
  have t1 : W9.cell? ⟨w.heap.size + 1 + 1, 1, none⟩ = some (.int .u32 scale) := by rw [blk_cell hT9]; rfl
  have t2 : W9.cell? ⟨w.heap.size + 1 + 1, 2, none⟩ = some (.int .i64 1) := by rw [blk_cell hT9]; rfl
  have d45 : W9.cell? ⟨w.heap.size, 45, none⟩ = some (.bool true) := (P.st.row 45 (by omega)).trans (by rw [P.g45])
  have d47 : W9.cell? ⟨w.heap.size, 47, none⟩ = some (.int .i64 0) := (P.st.row 47 (by omega)).trans (by rw [P.g47])
  have d48 : W9.cell? ⟨w.heap.size, 48, none⟩ = some (.int .i64 (IntKind.i64.wrap (dur * ppf (partD dur scale)))) := (P.st.row 48 (by omega)).trans (by rw [P.g48])
  have d49 : W9.cell? ⟨w.heap.size, 49, none⟩ = some (.int .u32 scale) := (P.st.row 49 (by omega)).trans (by rw [P.g49])
  have d50 : W9.cell? ⟨w.heap.size, 50, none⟩ = some (.int .i64 (fpp (partD dur scale))) := (P.st.row 50 (by omega)).trans (by rw [P.g50])
  have d51 : W9.cell? ⟨w.heap.size, 51, none⟩ = some (.int .i64 dur) := (P.st.row 51 (by omega)).trans (by rw [P.g51])
  have d52 : W9.cell? ⟨w.heap.size, 52, none⟩ = some (.int .u32 scale) := (P.st.row 52 (by omega)).trans (by rw [P.g52])
  have d53 : W9.cell? ⟨w.heap.size, 53, none⟩ = some (.int .i64 1) := (P.st.row 53 (by omega)).trans (by rw [P.g53])
  have d156 : W9.cell? ⟨w.heap.size, 156, none⟩ = some (.int .i64 0) := (P.st.row 156 (by omega)).trans (by rw [P.g156])
  have d159 : W9.cell? ⟨w.heap.size, 159, none⟩ = some (.int .i64 0) := (P.st.row 159 (by omega)).trans (by rw [P.g159])
  have hRl := P.st.lt
  clear SETT SN hT hT9 hR bW P hW0 hVb harr asz a0' a3' a4' a45'
  have eq60' := eq60
  go_wp2
  go_quiet (fail)
  go_wp2_with fail
  refine (part_any _ _ _ _ (by omega) (by omega) (by omega) (by omega) dur (by omega) (by omega) (by omega) (by omega)).mono ?_
  rintro e w' ⟨rfl, k3, rfl⟩
  have pb := partD_bd dur scale
  go_wp2
  refine wp_general (fun W => W.heap = W9.heap ∧ Below w.heap.size w W) ⟨rfl, below_drewN B9 _⟩ ?_
  rintro U ⟨hU, BU⟩
  have cU : ∀ a, U.cell? a = W9.cell? a := fun a => by simp [World.cell?, hU]
  have hUs : w.heap.size < U.heap.size := by rw [hU]; exact hRl
  have hUt : w.heap.size + 1 + 1 < U.heap.size := by rw [hU]; exact hT9s
  replace t0 := (cU _).trans t0
  replace t1 := (cU _).trans t1
  replace t2 := (cU _).trans t2
  replace d47 := (cU _).trans d47
  replace d48 := (cU _).trans d48
  replace d49 := (cU _).trans d49
  replace d50 := (cU _).trans d50
  replace d156 := (cU _).trans d156
  replace d159 := (cU _).trans d159
  clear d45 d51 d52 d53 cU hU B9 hRl hT9s
  go_region_held3 (fun w' => w'.cell? ⟨w.heap.size + 1 + 1, 0, none⟩ = some (.int .i64 dur) ∧ w'.cell? ⟨w.heap.size + 1 + 1, 1, none⟩ = some (.int .u32 scale)) (simp [go_sem, World.cell?_alloc_some, t0, t1])
    (first
      | (go_at_call 11; refine (ppf_any _ _ pb.1 pb.2).mono ?_; rintro e w' ⟨rfl, rfl⟩)
      | (go_at_call 12; refine (fpp_any _ _).mono ?_; rintro e w' ⟨rfl, rfl⟩))
  all_goals
    go_wp2
    go_quiet (fail)
    go_wp2
    go_ret
    exact ⟨rfl, below_drewN (BU.alloc (by omega) _) _⟩
set_option maxRecDepth 10000 in
set_option maxHeartbeats 4000000 in
theorem frames_v2 (scale pre : Int) (w : World) (s0 : 0 ≤ scale) (s1 : scale < 4294967296) (hne : (scale == 30000) = false) :
    Calls Yba.prog 3 #[.int .u32 scale, .bool true, .int .u32 1001, .bool true, .int .i64 pre] w fun e w' => e = .returned (.bool true) ∧ Below w.heap.size w w' := by
  obtain ⟨arr, harr⟩ : ∃ arr, arr = (((Yba.zeroCells79.setIfInBounds 156 (Value.int .i64 pre)).setIfInBounds 159 (Value.int .i64 pre)).setIfInBounds 4 (Value.pointer (some ⟨w.heap.size + 1, 0, none⟩))) := ⟨_, rfl⟩
  obtain ⟨asz, a0', a3', a4', a45'⟩ := arr_video pre _ arr harr
  obtain ⟨W0, hW0⟩ : ∃ W0, W0 = (((w.alloc (.cells arr 79)).alloc (.cells (vcells scale true 1001) 85)).alloc (.cells #[.int .i64 1001, .int .u32 scale, .int .i64 1] 60)).drew := ⟨_, rfl⟩
  have hR : W0.heap[w.heap.size]? = some (.cells arr 79 (0, 0)) := by
    rw [hW0]
    show (((w.alloc (.cells arr 79)).alloc (.cells (vcells scale true 1001) 85)).alloc (.cells #[.int .i64 1001, .int .u32 scale, .int .i64 1] 60)).heap[w.heap.size]? = _
    rw [Below.heap_alloc _ _ _ (by simp; omega), Below.heap_alloc _ _ _ (by simp)]; exact heap_alloc_new _ _
  have hVb : W0.heap[w.heap.size + 1]? = some (.cells (vcells scale true 1001) 85 (0, 0)) := by
    rw [hW0]
    show (((w.alloc (.cells arr 79)).alloc (.cells (vcells scale true 1001) 85)).alloc (.cells #[.int .i64 1001, .int .u32 scale, .int .i64 1] 60)).heap[w.heap.size + 1]? = _
    rw [Below.heap_alloc _ _ _ (by simp)]; have := heap_alloc_new (w.alloc (.cells arr 79)) (.cells (vcells scale true 1001) 85); simpa using this
  have hT : W0.heap[w.heap.size + 1 + 1]? = some (.cells #[.int .i64 1001, .int .u32 scale, .int .i64 1] 60 (0, 0)) := by
    rw [hW0]
    show (((w.alloc (.cells arr 79)).alloc (.cells (vcells scale true 1001) 85)).alloc (.cells #[.int .i64 1001, .int .u32 scale, .int .i64 1] 60)).heap[w.heap.size + 1 + 1]? = _
    have := heap_alloc_new ((w.alloc (.cells arr 79)).alloc (.cells (vcells scale true 1001) 85)) (.cells #[.int .i64 1001, .int .u32 scale, .int .i64 1] 60); simpa using this
  have bW : Below w.heap.size w W0 := by
    rw [hW0]; exact ((((Below.refl _ _).alloc (Nat.le_refl _) _).alloc (by rw [World.size_alloc]; omega) _).alloc (by rw [World.size_alloc, World.size_alloc]; omega) _).drew
  have SN := st_of W0 w.heap.size arr hR asz
  have SETT := settle_video w.heap.size W0 _ 0 false SN (by simp [a45']) (by
    intro w2 hg2 hc2
    rw [a0'] at hc2
    exact earliest_none _ _ _ hc2) (w.heap.size + 1) (by simp [a4']) (by omega) 1001 scale (by omega) (by omega) s0 s1 (by rw [blk_cell hVb]; rfl) (by rw [blk_cell hVb]; rfl) (by rw [blk_cell hVb]; rfl)
  rw [hW0, harr] at SETT
  go_enter Yba.func3, Yba.ntmps3
  go_wp2_with fail
  refine (setdur_any _ _ _ _ _ (by simp [go_sem]; rfl) (by simp [go_sem])).mono ?_
  rintro e w' ⟨rfl, rfl⟩
  go_wp2_with fail
  go_region_held3 (fun w' => w'.cell? ⟨w.heap.size + 1, 41, none⟩ = some (.int .u32 1001) ∧ w'.cell? ⟨w.heap.size + 1, 1, none⟩ = some (.int .u32 scale)) (simp [go_sem, World.cell?_alloc_past]) (fail)
  go_wp2_with fail
  refine SETT.mono ?_
  rintro e W9 ⟨rfl, g, P⟩
  rw [← harr, ← hW0] at P
  have B9 : Below w.heap.size w W9 := bW.grown P.st.grw bW.size (fun k e => by simp at e; omega)
  have hT9 : W9.heap[w.heap.size + 1 + 1]? = some (.cells #[.int .i64 1001, .int .u32 scale, .int .i64 1] 60 (0, 0)) := by
    rw [P.st.grw.block _ (Array.getElem?_eq_some_iff.1 hT).1 (by intro h; injection h with h; omega)]; exact hT
  have hT9s := (Array.getElem?_eq_some_iff.1 hT9).1
  have t0 : W9.cell? ⟨w.heap.size + 1 + 1, 0, none⟩ = some (.int .i64 1001) := by rw [blk_cell hT9]; rfl
  have t1 : W9.cell? ⟨w.heap.size + 1 + 1, 1, none⟩ = some (.int .u32 scale) := by rw [blk_cell hT9]; rfl
  have t2 : W9.cell? ⟨w.heap.size + 1 + 1, 2, none⟩ = some (.int .i64 1) := by rw [blk_cell hT9]; rfl
  have d45 : W9.cell? ⟨w.heap.size, 45, none⟩ = some (.bool true) := (P.st.row 45 (by omega)).trans (by rw [P.g45])
  have d47 : W9.cell? ⟨w.heap.size, 47, none⟩ = some (.int .i64 0) := (P.st.row 47 (by omega)).trans (by rw [P.g47])
  have d48 : W9.cell? ⟨w.heap.size, 48, none⟩ = some (.int .i64 (IntKind.i64.wrap (1001 * ppf (partD 1001 scale)))) := (P.st.row 48 (by omega)).trans (by rw [P.g48])
  have d49 : W9.cell? ⟨w.heap.size, 49, none⟩ = some (.int .u32 scale) := (P.st.row 49 (by omega)).trans (by rw [P.g49])
  have d50 : W9.cell? ⟨w.heap.size, 50, none⟩ = some (.int .i64 (fpp (partD 1001 scale))) := (P.st.row 50 (by omega)).trans (by rw [P.g50])
  have d51 : W9.cell? ⟨w.heap.size, 51, none⟩ = some (.int .i64 1001) := (P.st.row 51 (by omega)).trans (by rw [P.g51])
  have d52 : W9.cell? ⟨w.heap.size, 52, none⟩ = some (.int .u32 scale) := (P.st.row 52 (by omega)).trans (by rw [P.g52])
  have d53 : W9.cell? ⟨w.heap.size, 53, none⟩ = some (.int .i64 1) := (P.st.row 53 (by omega)).trans (by rw [P.g53])
  have d156 : W9.cell? ⟨w.heap.size, 156, none⟩ = some (.int .i64 0) := (P.st.row 156 (by omega)).trans (by rw [P.g156])
  have d159 : W9.cell? ⟨w.heap.size, 159, none⟩ = some (.int .i64 0) := (P.st.row 159 (by omega)).trans (by rw [P.g159])
  have hRl := P.st.lt
  clear SETT SN hT hT9 hR bW P hW0 hVb harr asz a0' a3' a4' a45'
  have eq60' := eq60
  go_wp2
  go_quiet (fail)
  go_wp2_with fail
  refine (part_any _ _ _ _ (by omega) (by omega) (by omega) (by omega) 1001 (by omega) (by omega) (by omega) (by omega)).mono ?_
  rintro e w' ⟨rfl, k3, rfl⟩
  have pb := partD_bd 1001 scale
  go_wp2
  refine wp_general (fun W => W.heap = W9.heap ∧ Below w.heap.size w W) ⟨rfl, below_drewN B9 _⟩ ?_
  rintro U ⟨hU, BU⟩
  have cU : ∀ a, U.cell? a = W9.cell? a := fun a => by simp [World.cell?, hU]
  have hUs : w.heap.size < U.heap.size := by rw [hU]; exact hRl
  have hUt : w.heap.size + 1 + 1 < U.heap.size := by rw [hU]; exact hT9s
  replace t0 := (cU _).trans t0
  replace t1 := (cU _).trans t1
  replace t2 := (cU _).trans t2
  replace d47 := (cU _).trans d47
  replace d48 := (cU _).trans d48
  replace d49 := (cU _).trans d49
  replace d50 := (cU _).trans d50
  replace d156 := (cU _).trans d156
  replace d159 := (cU _).trans d159
  clear d45 d51 d52 d53 cU hU B9 hRl hT9s
  go_region_held3 (fun w' => w'.cell? ⟨w.heap.size + 1 + 1, 0, none⟩ = some (.int .i64 1001) ∧ w'.cell? ⟨w.heap.size + 1 + 1, 1, none⟩ = some (.int .u32 scale)) (simp [go_sem, World.cell?_alloc_some, t0, t1])
    (first
      | (go_at_call 11; refine (ppf_any _ _ pb.1 pb.2).mono ?_; rintro e w' ⟨rfl, rfl⟩)
      | (go_at_call 12; refine (fpp_any _ _).mono ?_; rintro e w' ⟨rfl, rfl⟩))
  all_goals
    go_wp2
    go_quiet (fail)
    go_wp2
    go_ret
    exact ⟨rfl, below_drewN (BU.alloc (by omega) _) _⟩
set_option maxRecDepth 10000 in
set_option maxHeartbeats 4000000 in
theorem frames_v3 (pre : Int) (w : World) :
    Calls Yba.prog 3 #[.int .u32 30000, .bool true, .int .u32 1001, .bool true, .int .i64 pre] w fun e w' => e = .returned (.bool true) ∧ Below w.heap.size w w' := by
  obtain ⟨arr, harr⟩ : ∃ arr, arr = (((Yba.zeroCells79.setIfInBounds 156 (Value.int .i64 pre)).setIfInBounds 159 (Value.int .i64 pre)).setIfInBounds 4 (Value.pointer (some ⟨w.heap.size + 1, 0, none⟩))) := ⟨_, rfl⟩
  obtain ⟨asz, a0', a3', a4', a45'⟩ := arr_video pre _ arr harr
  obtain ⟨W0, hW0⟩ : ∃ W0, W0 = (((w.alloc (.cells arr 79)).alloc (.cells (vcells 30000 true 1001) 85)).alloc (.cells #[.int .i64 1001, .int .u32 30000, .int .i64 1] 60)).drew := ⟨_, rfl⟩
  have hR : W0.heap[w.heap.size]? = some (.cells arr 79 (0, 0)) := by
    rw [hW0]
    show (((w.alloc (.cells arr 79)).alloc (.cells (vcells 30000 true 1001) 85)).alloc (.cells #[.int .i64 1001, .int .u32 30000, .int .i64 1] 60)).heap[w.heap.size]? = _
    rw [Below.heap_alloc _ _ _ (by simp; omega), Below.heap_alloc _ _ _ (by simp)]; exact heap_alloc_new _ _
  have hVb : W0.heap[w.heap.size + 1]? = some (.cells (vcells 30000 true 1001) 85 (0, 0)) := by
    rw [hW0]
    show (((w.alloc (.cells arr 79)).alloc (.cells (vcells 30000 true 1001) 85)).alloc (.cells #[.int .i64 1001, .int .u32 30000, .int .i64 1] 60)).heap[w.heap.size + 1]? = _
    rw [Below.heap_alloc _ _ _ (by simp)]; have := heap_alloc_new (w.alloc (.cells arr 79)) (.cells (vcells 30000 true 1001) 85); simpa using this
  have hT : W0.heap[w.heap.size + 1 + 1]? = some (.cells #[.int .i64 1001, .int .u32 30000, .int .i64 1] 60 (0, 0)) := by
    rw [hW0]
    show (((w.alloc (.cells arr 79)).alloc (.cells (vcells 30000 true 1001) 85)).alloc (.cells #[.int .i64 1001, .int .u32 30000, .int .i64 1] 60)).heap[w.heap.size + 1 + 1]? = _
    have := heap_alloc_new ((w.alloc (.cells arr 79)).alloc (.cells (vcells 30000 true 1001) 85)) (.cells #[.int .i64 1001, .int .u32 30000, .int .i64 1] 60); simpa using this
  have bW : Below w.heap.size w W0 := by
    rw [hW0]; exact ((((Below.refl _ _).alloc (Nat.le_refl _) _).alloc (by rw [World.size_alloc]; omega) _).alloc (by rw [World.size_alloc, World.size_alloc]; omega) _).drew
  have SN := st_of W0 w.heap.size arr hR asz
  have SETT := settle_video w.heap.size W0 _ 0 false SN (by simp [a45']) (by
    intro w2 hg2 hc2
    rw [a0'] at hc2
    exact earliest_none _ _ _ hc2) (w.heap.size + 1) (by simp [a4']) (by omega) 1001 30000 (by omega) (by omega) (by omega) (by omega) (by rw [blk_cell hVb]; rfl) (by rw [blk_cell hVb]; rfl) (by rw [blk_cell hVb]; rfl)
  rw [hW0, harr] at SETT
  go_enter Yba.func3, Yba.ntmps3
  go_wp2_with fail
  refine (setdur_any _ _ _ _ _ (by simp [go_sem]; rfl) (by simp [go_sem])).mono ?_
  rintro e w' ⟨rfl, rfl⟩
  go_wp2_with fail
  go_region_held3 (fun w' => w'.cell? ⟨w.heap.size + 1, 41, none⟩ = some (.int .u32 1001) ∧ w'.cell? ⟨w.heap.size + 1, 1, none⟩ = some (.int .u32 30000)) (simp [go_sem, World.cell?_alloc_past]) (fail)
  go_wp2_with fail
  refine SETT.mono ?_
  rintro e W9 ⟨rfl, g, P⟩
  rw [← harr, ← hW0] at P
  have B9 : Below w.heap.size w W9 := bW.grown P.st.grw bW.size (fun k e => by simp at e; omega)
  have hT9 : W9.heap[w.heap.size + 1 + 1]? = some (.cells #[.int .i64 1001, .int .u32 30000, .int .i64 1] 60 (0, 0)) := by
    rw [P.st.grw.block _ (Array.getElem?_eq_some_iff.1 hT).1 (by intro h; injection h with h; omega)]; exact hT
  have hT9s := (Array.getElem?_eq_some_iff.1 hT9).1
  have t0 : W9.cell? ⟨w.heap.size + 1 + 1, 0, none⟩ = some (.int .i64 1001) := by rw [blk_cell hT9]; rfl
  have t1 : W9.cell? ⟨w.heap.size + 1 + 1, 1, none⟩ = some (.int .u32 30000) := by rw [blk_cell hT9]; rfl
  have t2 : W9.cell? ⟨w.heap.size + 1 + 1, 2, none⟩ = some (.int .i64 1) := by rw [blk_cell hT9]; rfl
  have d45 : W9.cell? ⟨w.heap.size, 45, none⟩ = some (.bool true) := (P.st.row 45 (by omega)).trans (by rw [P.g45])
  have d47 : W9.cell? ⟨w.heap.size, 47, none⟩ = some (.int .i64 0) := (P.st.row 47 (by omega)).trans (by rw [P.g47])
  have d48 : W9.cell? ⟨w.heap.size, 48, none⟩ = some (.int .i64 (IntKind.i64.wrap (1001 * ppf (partD 1001 30000)))) := (P.st.row 48 (by omega)).trans (by rw [P.g48])
  have d49 : W9.cell? ⟨w.heap.size, 49, none⟩ = some (.int .u32 30000) := (P.st.row 49 (by omega)).trans (by rw [P.g49])
  have d50 : W9.cell? ⟨w.heap.size, 50, none⟩ = some (.int .i64 (fpp (partD 1001 30000))) := (P.st.row 50 (by omega)).trans (by rw [P.g50])
  have d51 : W9.cell? ⟨w.heap.size, 51, none⟩ = some (.int .i64 1001) := (P.st.row 51 (by omega)).trans (by rw [P.g51])
  have d52 : W9.cell? ⟨w.heap.size, 52, none⟩ = some (.int .u32 30000) := (P.st.row 52 (by omega)).trans (by rw [P.g52])
  have d53 : W9.cell? ⟨w.heap.size, 53, none⟩ = some (.int .i64 1) := (P.st.row 53 (by omega)).trans (by rw [P.g53])
  have d156 : W9.cell? ⟨w.heap.size, 156, none⟩ = some (.int .i64 0) := (P.st.row 156 (by omega)).trans (by rw [P.g156])
  have d159 : W9.cell? ⟨w.heap.size, 159, none⟩ = some (.int .i64 0) := (P.st.row 159 (by omega)).trans (by rw [P.g159])
  have hRl := P.st.lt
  clear SETT SN hT hT9 hR bW P hW0 hVb harr asz a0' a3' a4' a45'
  have eq60' := eq60
  go_wp2
  go_quiet (fail)
  go_wp2_with fail
  refine (part_any _ _ _ _ (by omega) (by omega) (by omega) (by omega) 1001 (by omega) (by omega) (by omega) (by omega)).mono ?_
  rintro e w' ⟨rfl, k3, rfl⟩
  have pb := partD_bd 1001 30000
  go_wp2
  refine wp_general (fun W => W.heap = W9.heap ∧ Below w.heap.size w W) ⟨rfl, below_drewN B9 _⟩ ?_
  rintro U ⟨hU, BU⟩
  have cU : ∀ a, U.cell? a = W9.cell? a := fun a => by simp [World.cell?, hU]
  have hUs : w.heap.size < U.heap.size := by rw [hU]; exact hRl
  have hUt : w.heap.size + 1 + 1 < U.heap.size := by rw [hU]; exact hT9s
  replace t0 := (cU _).trans t0
  replace t1 := (cU _).trans t1
  replace t2 := (cU _).trans t2
  replace d47 := (cU _).trans d47
  replace d48 := (cU _).trans d48
  replace d49 := (cU _).trans d49
  replace d50 := (cU _).trans d50
  replace d156 := (cU _).trans d156
  replace d159 := (cU _).trans d159
  clear d45 d51 d52 d53 cU hU B9 hRl hT9s
  go_region_held3 (fun w' => w'.cell? ⟨w.heap.size + 1 + 1, 0, none⟩ = some (.int .i64 1001) ∧ w'.cell? ⟨w.heap.size + 1 + 1, 1, none⟩ = some (.int .u32 30000)) (simp [go_sem, World.cell?_alloc_some, t0, t1])
    (first
      | (go_at_call 11; refine (ppf_any _ _ pb.1 pb.2).mono ?_; rintro e w' ⟨rfl, rfl⟩)
      | (go_at_call 12; refine (fpp_any _ _).mono ?_; rintro e w' ⟨rfl, rfl⟩))
  all_goals
    go_wp2
    go_quiet (fail)
    have pf1 := plain_frame.1
    have pf2 := plain_frame.2
    go_wp2
    go_ret
    exact ⟨rfl, below_drewN (BU.alloc (by omega) _) _⟩
theorem frames_any (scale dur pre : Int) (seen video : Bool) (w : World) (s0 : 0 ≤ scale) (s1 : scale < 4294967296) (d0 : 0 ≤ dur) (d1 : dur < 4294967296) :
    Calls Yba.prog 3 #[.int .u32 scale, .bool seen, .int .u32 dur, .bool video, .int .i64 pre] w fun e w' => e = .returned (.bool true) ∧ Below w.heap.size w w' := by
  cases video with
  | false => exact frames_plain scale dur pre seen w
  | true =>
    cases seen with
    | false => exact frames_unseen scale dur pre w
    | true =>
      by_cases h0 : dur = 0
      · subst h0; exact frames_zero scale pre w
      · by_cases h1 : dur = 1001
        · subst h1
          by_cases h2 : scale = 30000
          · subst h2; exact frames_v3 pre w
          · exact frames_v2 scale pre w s0 s1 (by simpa using h2)
        · exact frames_v1 scale dur pre w (by omega) d1 s0 s1 (by simpa using h1)

end Frames
end Go.Proofs.Ybulkzui
