import Derived.Test.YbulkzuiEarliest
import Derived.Test.YbulkzuiSettle
set_option linter.unusedVariables false
namespace Go.Proofs.Ybulkzui
open Go Go.RowKit
theorem info28 : (Yba.prog.info? 28).map (fun i => (i.zero, i.size, i.bytes)) = some (some (.pointer none), 1, 8) := by kernel_rfl
theorem info58 : (Yba.prog.info? 58).map (fun i => (i.zero, i.size, i.bytes)) = some (some (.int .i64 0), 1, 8) := by kernel_rfl

abbrev fp (b : Nat) : Value := .pointer (some ⟨b, 0, none⟩)

theorem grown_set (w : World) (p : Addr) (u : Value) : w.grownBy (w.setCell p u) (some p.block) :=
  ⟨rfl, rfl, rfl, by simp [World.setCell], fun k _ hk => Below.heap_setCell _ _ _ _ (fun e => hk (by rw [e]))⟩
theorem blk_lt {w : World} {b : Nat} {o : Obj} (h : w.heap[b]? = some o) : b < w.heap.size := (Array.getElem?_eq_some_iff.1 h).1

/-- one element of the argument, as it lies in memory -/
structure Elem (w : World) (a0 : Option Addr) (i : Nat) (sc sh shown first : Int) (seen un : Bool) : Prop where
  at_ : ∃ b off, a0 = some ⟨b, off, none⟩ ∧ w.cell? ⟨b, off + i * 6, none⟩ = some (.int .u32 sc) ∧ w.cell? ⟨b, off + i * 6 + 1, none⟩ = some (.int .i64 sh) ∧ w.cell? ⟨b, off + i * 6 + 2, none⟩ = some (.int .i64 shown) ∧
    w.cell? ⟨b, off + i * 6 + 3, none⟩ = some (.bool seen) ∧ w.cell? ⟨b, off + i * 6 + 4, none⟩ = some (.int .i64 first) ∧ w.cell? ⟨b, off + i * 6 + 5, none⟩ = some (.bool un)
  sc0 : 0 ≤ sc
  sc1 : sc < 4294967296
  f0 : -9223372036854775808 ≤ first
  f1 : first ≤ 9223372036854775807

/-- while the tracks are made -/
structure L1 (B n : Nat) (w wr : World) (ts : List Trk) : Prop where
  mod : wr.ownsRow B 28 1 (.slice (some ⟨B, 0, none⟩) n n) n (ts.map (fun t => fp t.b) ++ List.replicate (n - ts.length) (.pointer none))
  ok : ∀ t ∈ ts, TrkOk wr t ∧ B < t.b
  bel : Below B w wr
  base : w.heap.size = B

section
variable {B n : Nat} {w wr : World} {ts : List Trk}
theorem L1.lt (h : L1 B n w wr ts) : B < wr.heap.size := (h.mod.lt B rfl).2

theorem L1.spot (h : L1 B n w wr ts) (hk : ts.length < n) (o : Obj) : (wr.alloc o).cell? ⟨B, ts.length, none⟩ = some (.pointer none) ∧ (wr.alloc o).frozen? ⟨B, ts.length, none⟩ = false := by
  have hm := h.mod.alloc o
  refine ⟨?_, hm.frozenAt _⟩
  rw [hm.cellAt _ (by omega), List.getElem?_append_right (by simp)]
  obtain ⟨d, hd⟩ : ∃ d, n - ts.length = d + 1 := ⟨n - ts.length - 1, by omega⟩
  simp [hd]

theorem L1.step (h : L1 B n w wr ts) (hk : ts.length < n) (sc sh shown first : Int) (seen un : Bool) (s0 : 0 ≤ sc) (s1 : sc < 4294967296) (f0 : -9223372036854775808 ≤ first) (f1 : first ≤ 9223372036854775807) :
    L1 B n w ((wr.alloc (.cells (trkCells sc sh shown first seen un 0) 85)).setCell ⟨B, ts.length, none⟩ (fp wr.heap.size)) (ts ++ [⟨wr.heap.size, sc, sh, shown, first, seen, un⟩]) := by
  have hB := h.lt
  refine ⟨?_, ?_, ?_, h.base⟩
  · have := ((h.mod.alloc (.cells (trkCells sc sh shown first seen un 0) 85)).stored ts.length (fp wr.heap.size)).1
    have e : (ts.map (fun t : Trk => fp t.b) ++ List.replicate (n - ts.length) (Value.pointer none)).set ts.length (fp wr.heap.size) = (ts ++ [(⟨wr.heap.size, sc, sh, shown, first, seen, un⟩ : Trk)]).map (fun t : Trk => fp t.b) ++ List.replicate (n - (ts ++ [(⟨wr.heap.size, sc, sh, shown, first, seen, un⟩ : Trk)]).length) (Value.pointer none) := by
      rw [List.set_append_right _ _ (by simp)]
      obtain ⟨d, hd⟩ : ∃ d, n - ts.length = d + 1 := ⟨n - ts.length - 1, by omega⟩
      have hd2 : n - (ts.length + 1) = d := by omega
      simp [hd, hd2, List.replicate_succ]
    rw [e] at this
    exact this
  · intro t ht
    rw [List.mem_append] at ht
    rcases ht with ht | ht
    · obtain ⟨tk, hb⟩ := h.ok t ht
      refine ⟨⟨?_, tk.sc0, tk.sc1, tk.f0, tk.f1⟩, hb⟩
      rw [Below.heap_setCell _ _ _ _ (by dsimp only; omega), Below.heap_alloc _ _ _ (blk_lt tk.blk)]
      exact tk.blk
    · simp at ht
      subst ht
      refine ⟨⟨?_, s0, s1, f0, f1⟩, hB⟩
      rw [Below.heap_setCell _ _ _ _ (by dsimp only; omega)]
      exact heap_alloc_new _ _
  · exact (h.bel.alloc (by omega) _).setCell (Nat.le_refl _) _
end
theorem L1.drew {B n : Nat} {w wr : World} {ts : List Trk} (h : L1 B n w wr ts) : L1 B n w wr.drew ts :=
  ⟨h.mod, fun t ht => ⟨⟨(h.ok t ht).1.blk, (h.ok t ht).1.sc0, (h.ok t ht).1.sc1, (h.ok t ht).1.f0, (h.ok t ht).1.f1⟩, (h.ok t ht).2⟩, h.bel.drew, h.base⟩

theorem L1.step2 {B n : Nat} {w wr : World} {ts : List Trk} (h : L1 B n w wr ts) (hk : ts.length < n) (sc sh shown first : Int) (seen un : Bool) (s0 : 0 ≤ sc) (s1 : sc < 4294967296) (f0 : -9223372036854775808 ≤ first) (f1 : first ≤ 9223372036854775807) :
    L1 B n w ((wr.setCell ⟨B, ts.length, none⟩ (fp wr.heap.size)).alloc (.cells (trkCells sc sh shown first seen un 0) 85)).drew (ts ++ [⟨wr.heap.size, sc, sh, shown, first, seen, un⟩]) := by
  have := h.step hk sc sh shown first seen un s0 s1 f0 f1
  rw [World.setCell_alloc_past _ _ _ _ h.lt] at this
  exact this.drew

theorem L1.start {w w1 : World} {n : Nat} (hown : w1.ownsRow w.heap.size 28 1 (.slice (some ⟨w.heap.size, 0, none⟩) n n) n (madeCells (Value.pointer none).cells (n * 1)).toList) (hg : w.grownBy w1 none) :
    L1 w.heap.size n w w1 [] := by
  refine ⟨?_, by simp, ?_, rfl⟩
  · rw [show (Value.pointer none).cells = #[Value.pointer none] from rfl, toList_madeCells_one] at hown
    simpa using hown
  · exact (Below.refl _ _).grown hg (Nat.le_refl _) (by simp)

/-- the candidates -/
def cands (own : Option Nat) (ts : List Trk) : List Int := (ts.filter counts).map (cd own)
theorem cands_yes (own : Option Nat) (ts : List Trk) (j : Nat) (h : j < ts.length) (t : Trk) (ht : t = ts[j]'h) (hc : counts t = true) : cands own (ts.take (j + 1)) = cands own (ts.take j) ++ [cd own t] := by
  unfold cands; rw [List.take_succ_eq_append_getElem h, List.filter_append, List.map_append, ← ht]; simp [hc]
theorem cands_no (own : Option Nat) (ts : List Trk) (j : Nat) (h : j < ts.length) (t : Trk) (ht : t = ts[j]'h) (hc : counts t = false) : cands own (ts.take (j + 1)) = cands own (ts.take j) := by
  unfold cands; rw [List.take_succ_eq_append_getElem h, List.filter_append, List.map_append, ← ht]; simp [hc]
theorem cands_le (own : Option Nat) (ts : List Trk) (j : Nat) : (cands own (ts.take j)).length ≤ j := by
  unfold cands
  rw [List.length_map]
  exact Nat.le_trans (List.length_filter_le _ _) (List.length_take_le _ _)

/-- while the candidates are gathered, in block C, the first behind W1 -/
structure L2 (C n : Nat) (W1 wr : World) (cs : List Int) : Prop where
  row : wr.ownsRow C 58 1 (.slice (some ⟨C, 0, none⟩) cs.length n) cs.length (cs.map (Value.int .i64))
  bel : Below C W1 wr
  base : W1.heap.size = C

theorem L2.drewN {C n : Nat} {W1 wr : World} {cs : List Int} (h : L2 C n W1 wr cs) (k : Nat) : L2 C n W1 (wr.drewN k) cs := ⟨h.row, below_drewN h.bel k, h.base⟩
theorem L2.step {C n : Nat} {W1 wr w2 : World} {cs : List Int} {d : Int} {o : Obj} {k : Nat} (h : L2 C n W1 wr cs) (hg : ((wr.drewN k).alloc o).grownBy w2 (some C))
    (hown : w2.ownsRow C 58 1 (.slice (some ⟨C, 0, none⟩) (cs.length + 1) n) (cs.length + 1) (cs.map (Value.int .i64) ++ [.int .i64 d])) : L2 C n W1 w2 (cs ++ [d]) := by
  refine ⟨by simpa using hown, ?_, h.base⟩
  have hb := h.bel.size
  have := h.base
  exact ((below_drewN h.bel k).alloc (by simp; omega) o).grown hg (by simp; omega) (fun j e => by simp at e; omega)

theorem one_new (w : World) (x : Value) (t : TypeId) (A : Nat) (h : A = w.heap.size) : ∀ j u, [x][j]? = some u → (w.alloc (.cells #[x] t)).cell? ((⟨A, 0, none⟩ : Addr).add j) = some u := by
  subst h
  intro j u hj
  match j, hj with
  | 0, hj => simp at hj; subst hj; simp [Addr.add]
theorem one_int (d : Int) : ∀ u ∈ [Value.int .i64 d], u.oneCell' = true := by intro u hu; simp at hu; subst hu; rfl

theorem blk_free {w : World} {b : Nat} {cs : Array Value} {t : TypeId} (h : w.heap[b]? = some (.cells cs t (0, 0))) (j : Nat) : w.frozen? ⟨b, j, none⟩ = false := by
  simp [World.frozen?, h]
theorem z_size : Yba.zeroCells79.size = 161 := by kernel_rfl
theorem z4 : Yba.zeroCells79[4]? = some (.pointer none) := by kernel_rfl
theorem z45 : Yba.zeroCells79[45]? = some (.bool false) := by kernel_rfl
theorem arr_facts (v0 v3 : Value) (pre : Int) (arr : Array Value) (h : arr = ((((((Yba.zeroCells79.setIfInBounds 0 v0).setIfInBounds 1 (Value.map none)).setIfInBounds 2 (Value.bool false)).setIfInBounds 3 v3).setIfInBounds 159 (Value.int .i64 pre)).setIfInBounds 156 (Value.int .i64 pre))) :
    arr.size = 161 ∧ arr[0]? = some v0 ∧ arr[3]? = some v3 ∧ arr[4]? = some (.pointer none) ∧ arr[45]? = some (.bool false) := by
  obtain ⟨z, hz⟩ : ∃ z, z = Yba.zeroCells79 := ⟨_, rfl⟩
  have hs : z.size = 161 := by rw [hz]; exact z_size
  have h4 : z[4]? = some (.pointer none) := by rw [hz]; exact z4
  have h45 : z[45]? = some (.bool false) := by rw [hz]; exact z45
  rw [← hz] at h
  clear hz
  rw [h]
  refine ⟨?_, ?_, ?_, ?_, ?_⟩
  · simp only [Array.size_setIfInBounds]; exact hs
  · rw [Array.getElem?_setIfInBounds_ne (by decide), Array.getElem?_setIfInBounds_ne (by decide), Array.getElem?_setIfInBounds_ne (by decide), Array.getElem?_setIfInBounds_ne (by decide), Array.getElem?_setIfInBounds_ne (by decide)]
    exact Array.getElem?_setIfInBounds_self_of_lt (by omega)
  · rw [Array.getElem?_setIfInBounds_ne (by decide), Array.getElem?_setIfInBounds_ne (by decide)]
    exact Array.getElem?_setIfInBounds_self_of_lt (by simp only [Array.size_setIfInBounds]; omega)
  · rw [Array.getElem?_setIfInBounds_ne (by decide), Array.getElem?_setIfInBounds_ne (by decide), Array.getElem?_setIfInBounds_ne (by decide), Array.getElem?_setIfInBounds_ne (by decide), Array.getElem?_setIfInBounds_ne (by decide), Array.getElem?_setIfInBounds_ne (by decide)]
    exact h4
  · rw [Array.getElem?_setIfInBounds_ne (by decide), Array.getElem?_setIfInBounds_ne (by decide), Array.getElem?_setIfInBounds_ne (by decide), Array.getElem?_setIfInBounds_ne (by decide), Array.getElem?_setIfInBounds_ne (by decide), Array.getElem?_setIfInBounds_ne (by decide)]
    exact h45

theorem ret_bool {a b : Bool} (h : a = b) : Ending.returned (.bool a) = .returned (.bool b) := by rw [h]
/-- a caption track that has just been made -/
theorem st_new (w : World) (arr : Array Value) (h : arr.size = 161) : St w.heap.size (w.alloc (.cells arr 79)) (w.alloc (.cells arr 79)) (fun j => (arr[j]?).getD (.bool false)) := by
  have hb : (w.alloc (.cells arr 79)).heap[w.heap.size]? = some (.cells arr 79 (0, 0)) := heap_alloc_new _ _
  refine ⟨fun j hj => ?_, fun j => blk_free hb j, by simp, World.grownBy.refl _ _⟩
  rw [blk_cell hb]
  rw [Array.getElem?_eq_getElem (by omega)]; rfl

/-- the tracks, read in a world that stands behind W1 -/
theorem L1.trks {B n : Nat} {w W1 wr : World} {ts : List Trk} (h : L1 B n w W1 ts) (hk : ts.length = n) (hn : n ≤ 256) (own : Option Nat) (ho : ∀ b, own = some b → ∃ t ∈ ts, t.b = b) (hb : Below W1.heap.size W1 wr) : Trks B wr own ts := by
  have hB := h.lt
  refine ⟨fun i hi => ?_, fun t ht => ?_, ho, by omega⟩
  · rw [hb.cell (p := ⟨B, i, none⟩) hB, h.mod.cellAt i (by omega), List.getElem?_append_left (by simpa using hi)]
    simp [hi]
  · obtain ⟨tk, _⟩ := h.ok t ht
    refine ⟨?_, tk.sc0, tk.sc1, tk.f0, tk.f1⟩
    rw [hb.block _ (blk_lt tk.blk)]
    exact tk.blk

set_option maxRecDepth 10000 in
set_option maxHeartbeats 8000000 in
theorem origin_any (a0 : Option Addr) (n cap : Nat) (o pre : Int) (w : World) (hn : n ≤ 256) (ho : 0 ≤ o) (ho1 : o ≤ 255)
    (hrow : ∀ i, i < n → ∃ sc sh shown first seen un, Elem w a0 i sc sh shown first seen un) :
    Calls Yba.prog 5 #[.slice a0 n cap, .int .u8 o, .int .i64 pre] w fun e w' => e = .returned (.bool true) ∧ Below w.heap.size w w' := by
  obtain ⟨i28, hi28, hz28, hs28, hb28⟩ := info_parts info28
  go_enter Yba.func5, Yba.ntmps5
  go_wp2_with (refine wpList_make_full _ rfl (.tmp 24) (.tmp 24) 24 rfl w.heap.size 28 i28 (.pointer none) 1 Yba.underlying24 hi28 hz28 hs28 .i64 .i64 _ _ n rfl rfl rfl rfl (by rw [hb28]; omega) (by unfold maxLen; omega) (Nat.le_refl _) ?_; intro w1 hown hgrow)
  have I0 := L1.start hown hgrow
  clear hown hgrow hi28 hz28 hs28 hb28
  go_loopw [8, 9] (fun i _ wr => ∃ ts : List Trk, ts.length ≤ n ∧ i = .int .i64 ts.length ∧ L1 w.heap.size n w wr ts) (fun i _ _ => n - (intOf i).toNat)
  case atStart => exact ⟨[], by simp, rfl, I0⟩
  case round =>
    clear I0
    obtain ⟨ts, hk, rfl, I⟩ := hrel
    by_cases hkn : ts.length < n
    · obtain ⟨sc, sh, shown, first, seen, un, E⟩ := hrow ts.length hkn
      obtain ⟨b, off, rfl, e0, e1, e2, e3, e4, e5⟩ := E.at_
      have I2 := fun o => I.spot hkn o
      have hB := I.lt
      have hb : b < w.heap.size := World.block_lt_of_cell? w _ e0
      have s0 := (I.bel.cell (p := ⟨b, off + ts.length * 6, none⟩) hb).trans e0
      have s1 := (I.bel.cell (p := ⟨b, off + ts.length * 6 + 1, none⟩) hb).trans e1
      have s2 := (I.bel.cell (p := ⟨b, off + ts.length * 6 + 2, none⟩) hb).trans e2
      have s3 := (I.bel.cell (p := ⟨b, off + ts.length * 6 + 3, none⟩) hb).trans e3
      have s4 := (I.bel.cell (p := ⟨b, off + ts.length * 6 + 4, none⟩) hb).trans e4
      have s5 := (I.bel.cell (p := ⟨b, off + ts.length * 6 + 5, none⟩) hb).trans e5
      have hbw : b < wr.heap.size := by omega
      clear e0 e1 e2 e3 e4 e5
      have sp := fun o => (I2 o).1
      have sf := fun o => (I2 o).2
      clear I2
      go_wp2
      go_region_held3 (fun w' => w'.cell? ⟨b, off + ts.length * 6, none⟩ = some (.int .u32 sc) ∧ w'.cell? ⟨b, off + ts.length * 6 + 1, none⟩ = some (.int .i64 sh) ∧ w'.cell? ⟨b, off + ts.length * 6 + 2, none⟩ = some (.int .i64 shown) ∧ w'.cell? ⟨b, off + ts.length * 6 + 5, none⟩ = some (.bool un)) (simp [go_sem, World.cell?_alloc_past, hbw, s0, s1, s2, s5]) (fail)
      go_wp2
      go_roundw
      case rel => exact ⟨_, by simp; omega, by simp, I.step2 hkn sc sh shown first seen un E.sc0 E.sc1 E.f0 E.f1⟩
      case measure => simp [intOf]; omega
    · have hke : ts.length = n := by omega
      obtain ⟨W1, rfl⟩ : ∃ W1, W1 = wr := ⟨_, rfl⟩
      obtain ⟨i58, hi58, hz58, hs58, hb58⟩ := info_parts info58
      obtain ⟨idx, hidx⟩ : ∃ idx : Nat, o % ((n : Int) + 1) = (idx : Int) := ⟨(o % ((n : Int) + 1)).toNat, by have := Int.emod_nonneg o (show (n : Int) + 1 ≠ 0 by omega); omega⟩
      have hidx1 : idx ≤ n := by have := Int.emod_lt_of_pos o (show (0 : Int) < (n : Int) + 1 by omega); omega
      have hWs := I.lt
      by_cases hi : idx < n
      · have hix : idx < ts.length := by omega
        obtain ⟨bb, hbb⟩ : ∃ bb, bb = (ts[idx]'hix).b := ⟨_, rfl⟩
        have hown : ∀ b, some bb = some b → ∃ t ∈ ts, t.b = b := by
          intro b e; simp at e; subst e; exact ⟨_, List.getElem_mem hix, hbb.symm⟩
        have TK := fun wr hb => L1.trks (wr := wr) I hke hn (some bb) hown hb
        have cI := (TK W1 (Below.refl _ _)).row idx hix
        rw [← hbb] at cI
        clear hown hbb
        go_wp2_with (refine wpList_make_own _ rfl (.const (.int .i64 0)) (.tmp 91) 96 rfl W1.heap.size 58 i58 (.int .i64 0) 1 Yba.underlying96 hi58 hz58 hs58 .i64 .i64 _ n rfl rfl rfl (by rw [hb58]; omega) (by unfold maxLen; omega) (Nat.le_refl _) ?_; intro w2 hown2 hgrow2)
        clear cI hi hidx hidx1 hix
        have C0 : L2 W1.heap.size n W1 w2 [] := ⟨by simpa using hown2, (Below.refl _ _).grown hgrow2 (Nat.le_refl _) (by simp), rfl⟩
        clear hown2 hgrow2
        go_loopw [12, 13, 14, 15, 16] (fun v i _ _ _ wr => ∃ j : Nat, ∃ cs : List Int, j ≤ n ∧ i = .int .i64 j ∧ v = .slice (some ⟨W1.heap.size, 0, none⟩) cs.length n ∧ Hid (cs = cands (some bb) (ts.take j)) ∧ L2 W1.heap.size n W1 wr cs) (fun _ i _ _ _ _ => n - (intOf i).toNat)
        case atStart => exact ⟨0, [], by omega, rfl, rfl, rfl, C0⟩
        case round =>
          clear C0
          obtain ⟨j, cs, hj, rfl, rfl, HC, J⟩ := hrel
          by_cases hjn : j < n
          · have hjx : j < ts.length := by omega
            have T := TK wr J.bel
            obtain ⟨t, ht⟩ : ∃ t, t = ts[j]'hjx := ⟨_, rfl⟩
            have htm : t ∈ ts := by rw [ht]; exact List.getElem_mem _
            have hr := T.row j hjx
            rw [← ht] at hr
            have tk := T.ok t htm
            have b1 : wr.cell? ⟨t.b, 1, none⟩ = some (.int .u32 t.sc) := by rw [blk_cell tk.blk]; rfl
            have b9 : wr.cell? ⟨t.b, 9, none⟩ = some (.int .i64 t.sh) := by rw [blk_cell tk.blk]; rfl
            have b10 : wr.cell? ⟨t.b, 10, none⟩ = some (.int .i64 t.shown) := by rw [blk_cell tk.blk]; rfl
            have b11 : wr.cell? ⟨t.b, 11, none⟩ = some (.bool t.un) := by rw [blk_cell tk.blk]; rfl
            have b39 : wr.cell? ⟨t.b, 39, none⟩ = some (.bool t.seen) := by rw [blk_cell tk.blk]; rfl
            have b40 : wr.cell? ⟨t.b, 40, none⟩ = some (.int .i64 t.first) := by rw [blk_cell tk.blk]; rfl
            have nq : ∀ k, (binOp .neq 28 (fp t.b) (fp bb)).run Yba.prog (wr.drewN k) = .ok (.bool (decide ((some bb) ≠ some t.b))) (wr.drewN k) := fun k => neq_own (T.drewN k) t htm
            have TM := fun k => time_any t.b t.first t.sc t.sh t.un (wr.drewN k) tk.f0 tk.f1 tk.sc0 tk.sc1 b1 b9 b11
            have TM0 := TM 0
            rw [World.drewN_zero] at TM0
            have hcl : cs.length ≤ j := by rw [HC.out]; exact cands_le _ _ _
            obtain ⟨tm, etm⟩ : ∃ x, x = t.time := ⟨_, rfl⟩
            obtain ⟨hd, ehd⟩ : ∃ x, x = t.held := ⟨_, rfl⟩
            obtain ⟨sn, esn⟩ : ∃ x, x = t.seen := ⟨_, rfl⟩
            obtain ⟨q, eq⟩ : ∃ x, x = decide ((some bb) ≠ some t.b) := ⟨_, rfl⟩
            obtain ⟨d, ed⟩ : ∃ x, x = cd (some bb) t := ⟨_, rfl⟩
            have e1 : timeD t.first t.sc t.sh t.un = tm := etm.symm
            have e2 : timeB t.first t.sc t.sh t.un = hd := ehd.symm
            simp only [e1, e2] at TM0
            rw [← esn] at b39
            simp only [← eq] at nq
            have hcd : d = if q = true then max tm t.shown else tm := by
              rw [ed, eq, etm]; unfold cd
              by_cases h : (some bb) = some t.b <;> simp [h]
            have hct : counts t = (sn && hd) := by unfold counts; rw [esn, ehd]
            have NO : Hid ((sn && hd) = false → cs = cands (some bb) (ts.take (j + 1))) := fun h => by rw [cands_no (some bb) ts j hjx t ht (by rw [hct]; exact h)]; exact HC.out
            have YES : Hid ((sn && hd) = true → cs ++ [d] = cands (some bb) (ts.take (j + 1))) := fun h => by rw [cands_yes (some bb) ts j hjx t ht (by rw [hct]; exact h), ← ed, ← HC.out]
            clear e1 e2 etm ehd esn eq ed hct ht T tk TM HC
            cases q with
            | true =>
              have HE : Hid (d = max tm t.shown) := hcd
              clear hcd
              cases sn with
              | false =>
                have HR : Hid _ := NO.out rfl
                clear NO YES
                go_wp2_with (go_at_call 13; refine TM0.mono ?_; rintro e w' ⟨rfl, k2, rfl⟩)
                go_roundw
                case rel => exact ⟨j + 1, cs, by omega, by go_num, rfl, HR, J.drewN _⟩
                case measure => simp [intOf]; omega
              | true =>
                cases hd with
                | false =>
                  have HR : Hid _ := NO.out rfl
                  clear NO YES
                  go_wp2_with (go_at_call 13; refine TM0.mono ?_; rintro e w' ⟨rfl, k2, rfl⟩)
                  go_roundw
                  case rel => exact ⟨j + 1, cs, by omega, by go_num, rfl, HR, J.drewN _⟩
                  case measure => simp [intOf]; omega
                | true =>
                  have HR : Hid _ := YES.out rfl
                  clear NO YES
                  rw [HE.out] at HR
                  go_wp2_with (first | (go_at_call 13; refine TM0.mono ?_; rintro e w' ⟨rfl, k2, rfl⟩) | (at_builtin; refine wpList_append_fits _ rfl (.tmp 130) (.tmp 132) 96 rfl W1.heap.size 58 i58 1 Yba.underlying96 hi58 hs58 W1.heap.size cs.length n _ rfl ((J.drewN _).row.alloc _) ⟨wr.heap.size, 0, none⟩ 1 1 [.int .i64 (max tm t.shown)] rfl rfl (one_new _ _ _ _ rfl) (one_int _) (by omega) ?_; intro w5 hown5 hg5))
                  have J5 := J.step hg5 hown5
                  clear hown5 hg5
                  go_wp2
                  go_roundw
                  case rel => exact ⟨j + 1, _, by omega, by go_num, by simp, HR, J5⟩
                  case measure => simp [intOf]; omega
            | false =>
              have HE : Hid (d = tm) := hcd
              clear hcd
              cases sn with
              | false =>
                have HR : Hid _ := NO.out rfl
                clear NO YES
                go_wp2_with (go_at_call 13; refine TM0.mono ?_; rintro e w' ⟨rfl, k2, rfl⟩)
                go_roundw
                case rel => exact ⟨j + 1, cs, by omega, by go_num, rfl, HR, J.drewN _⟩
                case measure => simp [intOf]; omega
              | true =>
                cases hd with
                | false =>
                  have HR : Hid _ := NO.out rfl
                  clear NO YES
                  go_wp2_with (go_at_call 13; refine TM0.mono ?_; rintro e w' ⟨rfl, k2, rfl⟩)
                  go_roundw
                  case rel => exact ⟨j + 1, cs, by omega, by go_num, rfl, HR, J.drewN _⟩
                  case measure => simp [intOf]; omega
                | true =>
                  have HR : Hid _ := YES.out rfl
                  clear NO YES
                  rw [HE.out] at HR
                  go_wp2_with (first | (go_at_call 13; refine TM0.mono ?_; rintro e w' ⟨rfl, k2, rfl⟩) | (at_builtin; refine wpList_append_fits _ rfl (.tmp 130) (.tmp 132) 96 rfl W1.heap.size 58 i58 1 Yba.underlying96 hi58 hs58 W1.heap.size cs.length n _ rfl ((J.drewN _).row.alloc _) ⟨wr.heap.size, 0, none⟩ 1 1 [.int .i64 tm] rfl rfl (one_new _ _ _ _ rfl) (one_int _) (by omega) ?_; intro w5 hown5 hg5))
                  have J5 := J.step hg5 hown5
                  clear hown5 hg5
                  go_wp2
                  go_roundw
                  case rel => exact ⟨j + 1, _, by omega, by go_num, by simp, HR, J5⟩
                  case measure => simp [intOf]; omega
          · have hall : cs = cands (some bb) ts := by rw [HC.out, List.take_of_length_le (by omega)]
            have HA : Hid (cs = cands (some bb) ts) := hall
            have hcl : cs.length ≤ 256 := by
              have := cands_le (some bb) ts ts.length
              rw [List.take_length, ← hall] at this
              omega
            clear hall HC
            have hCs := J.bel.size
            have hWsz := I.lt
            obtain ⟨arr, harr⟩ : ∃ arr, arr = ((((((Yba.zeroCells79.setIfInBounds 0 (Value.slice (some ⟨w.heap.size, 0, none⟩) n n)).setIfInBounds 1 (Value.map none)).setIfInBounds 2 (Value.bool false)).setIfInBounds 3 (fp bb)).setIfInBounds 159 (Value.int .i64 pre)).setIfInBounds 156 (Value.int .i64 pre)) := ⟨_, rfl⟩
            obtain ⟨asz, a0', a3', a4', a45'⟩ := arr_facts _ _ _ arr harr
            have SN := st_new wr arr asz
            have SETT := settle_nil wr.heap.size (wr.alloc (.cells arr 79)) _ (acc (some bb) ts).1 (acc (some bb) ts).2 SN (by simp [a45']) (by
              intro w2 hg2 hc2
              rw [a0'] at hc2
              rw [a3']
              refine earliest_any wr.heap.size w.heap.size n (some bb) ts w2 hke (TK w2 ?_) hc2
              exact (J.bel.alloc (by omega) _).grown hg2 (by simp; omega) (fun k e => by simp at e; omega)) (by simp [a4'])
            rw [harr] at SETT
            go_wp2_with fail
            refine SETT.mono ?_
            rintro e W9 ⟨rfl, g, P⟩
            rw [← harr] at P
            have B9 : Below W1.heap.size W1 W9 := (J.bel.alloc (by omega) (.cells arr 79)).grown P.st.grw (by simp; omega) (fun k e => by simp at e; omega)
            have R9 : W9.ownsRow W1.heap.size 58 1 (.slice (some ⟨W1.heap.size, 0, none⟩) cs.length n) cs.length (cs.map (Value.int .i64)) := by
              refine (J.row.alloc (.cells arr 79)).kept P.st.grw (.inr ?_)
              have := (J.row.lt W1.heap.size rfl).2
              simp [Value.ownBlock]; omega
            have F9 : Below w.heap.size w W9 := I.bel.trans (B9.mono (by omega))
            have d45 : W9.cell? ⟨wr.heap.size, 45, none⟩ = some (.bool true) := (P.st.row 45 (by omega)).trans (by rw [P.g45])
            have d47 : W9.cell? ⟨wr.heap.size, 47, none⟩ = some (.int .i64 (acc (some bb) ts).1) := (P.st.row 47 (by omega)).trans (by rw [P.g47])
            have d156 : W9.cell? ⟨wr.heap.size, 156, none⟩ = some (.int .i64 (acc (some bb) ts).1) := (P.st.row 156 (by omega)).trans (by rw [P.g156])
            have d159 : W9.cell? ⟨wr.heap.size, 159, none⟩ = some (.int .i64 (acc (some bb) ts).1) := (P.st.row 159 (by omega)).trans (by rw [P.g159])
            have LAW := acc_law (some bb) ts
            obtain ⟨D, hD⟩ : ∃ D, D = (acc (some bb) ts).1 := ⟨_, rfl⟩
            rw [← hD] at d47 d156 d159 LAW
            change (_ ∧ _ ∧ cands (some bb) ts = []) ∨ (_ ∧ _ ∈ cands (some bb) ts ∧ ∀ c ∈ cands (some bb) ts, _ ≤ c) at LAW
            rw [← HA.out] at LAW
            have HL : Hid _ := LAW
            clear LAW hD P SETT SN harr asz a0' a3' a4' a45' HA TK B9 I J
            by_cases hcs : cs = []
            · have hz : ((cs.length : Int) == 0) = true := by rw [hcs]; rfl
              have hD0 : D = 0 := by
                rcases HL.out with ⟨_, h0, _⟩ | ⟨_, h1, _⟩
                · exact h0
                · rw [hcs] at h1; simp at h1
              have HD0 : Hid (D = 0) := hD0
              clear hD0 hcs HL
              go_wp2
              go_quiet (fail)
              go_wp2
              go_ret
              exact ⟨ret_bool (by rw [HD0.out]; rfl), below_drewN F9 _⟩
            · have hz : ((cs.length : Int) == 0) = false := by
                cases cs with
                | nil => exact absurd rfl hcs
                | cons a l => simp; omega
              have LW : D ∈ cs ∧ ∀ c ∈ cs, D ≤ c := by
                rcases HL.out with ⟨_, _, h0⟩ | ⟨_, h1, h2⟩
                · exact absurd h0 hcs
                · exact ⟨h1, h2⟩
              have HW : Hid _ := LW
              clear HL LW hcs
              go_wp2
              go_quiet (fail)
              go_wp2
              go_loopw [18, 19] (fun v i wr => ∃ q k : Nat, q ≤ cs.length ∧ i = .int .i64 q ∧ v = .bool (decide (D ∈ cs.take q)) ∧ wr = W9.drewN k) (fun _ i _ => cs.length - (intOf i).toNat)
              case atStart => exact ⟨0, _, by omega, rfl, by simp, rfl⟩
              case round =>
                obtain ⟨q, k9, hq, rfl, rfl, rfl⟩ := hrel
                by_cases hqn : q < cs.length
                · have cq : W9.cell? ⟨W1.heap.size, q, none⟩ = some (.int .i64 (cs[q])) := by
                    rw [R9.cellAt q (by omega)]; simp [hqn]
                  obtain ⟨c, hc⟩ : ∃ c, c = cs[q] := ⟨_, rfl⟩
                  rw [← hc] at cq
                  have hge : D ≤ c := by rw [hc]; exact HW.out.2 _ (List.getElem_mem _)
                  have hmem : (D ∈ cs.take (q + 1)) ↔ (D ∈ cs.take q ∨ D = c) := by
                    rw [List.take_succ_eq_append_getElem hqn, ← hc, List.mem_append, List.mem_singleton]
                  clear hc
                  by_cases hcD : c = D
                  · have HS : Hid (true = decide (D ∈ cs.take (q + 1))) := by
                      rw [Hid]; symm; rw [decide_eq_true_eq, hmem]; exact .inr hcD.symm
                    subst hcD
                    clear hmem
                    go_wp2
                    go_quiet (fail)
                    go_wp2
                    go_quiet (fail)
                    go_wp2
                    go_roundw
                    case rel => exact ⟨q + 1, _, by omega, by go_num, by rw [← HS.out], rfl⟩
                    case measure => simp [intOf]; omega
                  · have HS : Hid (decide (D ∈ cs.take q) = decide (D ∈ cs.take (q + 1))) := by
                      rw [Hid, Bool.eq_iff_iff, decide_eq_true_eq, decide_eq_true_eq, hmem]
                      exact ⟨.inl, fun h => h.elim id (fun h => absurd h.symm hcD)⟩
                    have hcD' : (c == D) = false := by simpa using hcD
                    clear hmem hcD
                    go_wp2
                    go_quiet (fail)
                    go_wp2
                    go_quiet (fail)
                    go_wp2
                    go_roundw
                    case rel => exact ⟨q + 1, _, by omega, by go_num, by rw [← HS.out], rfl⟩
                    case measure => simp [intOf]; omega
                · have HF : Hid (decide (D ∈ cs.take q) = true) := by
                    rw [Hid, decide_eq_true_eq, List.take_of_length_le (by omega)]; exact HW.out.1
                  go_wp2
                  go_ret
                  exact ⟨ret_bool HF.out, below_drewN F9 _⟩
      · have hidx' : o % ((n : Int) + 1) = (n : Int) := by omega
        clear hidx hidx1 hi
        have TK := fun wr hb => L1.trks (wr := wr) I hke hn none (by simp) hb
        go_wp2_with (refine wpList_make_own _ rfl (.const (.int .i64 0)) (.tmp 91) 96 rfl W1.heap.size 58 i58 (.int .i64 0) 1 Yba.underlying96 hi58 hz58 hs58 .i64 .i64 _ n rfl rfl rfl (by rw [hb58]; omega) (by unfold maxLen; omega) (Nat.le_refl _) ?_; intro w2 hown2 hgrow2)
        clear hidx'
        have C0 : L2 W1.heap.size n W1 w2 [] := ⟨by simpa using hown2, (Below.refl _ _).grown hgrow2 (Nat.le_refl _) (by simp), rfl⟩
        clear hown2 hgrow2
        go_loopw [12, 13, 14, 15, 16] (fun v i _ _ _ wr => ∃ j : Nat, ∃ cs : List Int, j ≤ n ∧ i = .int .i64 j ∧ v = .slice (some ⟨W1.heap.size, 0, none⟩) cs.length n ∧ Hid (cs = cands none (ts.take j)) ∧ L2 W1.heap.size n W1 wr cs) (fun _ i _ _ _ _ => n - (intOf i).toNat)
        case atStart => exact ⟨0, [], by omega, rfl, rfl, rfl, C0⟩
        case round =>
          clear C0
          obtain ⟨j, cs, hj, rfl, rfl, HC, J⟩ := hrel
          by_cases hjn : j < n
          · have hjx : j < ts.length := by omega
            have T := TK wr J.bel
            obtain ⟨t, ht⟩ : ∃ t, t = ts[j]'hjx := ⟨_, rfl⟩
            have htm : t ∈ ts := by rw [ht]; exact List.getElem_mem _
            have hr := T.row j hjx
            rw [← ht] at hr
            have tk := T.ok t htm
            have b1 : wr.cell? ⟨t.b, 1, none⟩ = some (.int .u32 t.sc) := by rw [blk_cell tk.blk]; rfl
            have b9 : wr.cell? ⟨t.b, 9, none⟩ = some (.int .i64 t.sh) := by rw [blk_cell tk.blk]; rfl
            have b10 : wr.cell? ⟨t.b, 10, none⟩ = some (.int .i64 t.shown) := by rw [blk_cell tk.blk]; rfl
            have b11 : wr.cell? ⟨t.b, 11, none⟩ = some (.bool t.un) := by rw [blk_cell tk.blk]; rfl
            have b39 : wr.cell? ⟨t.b, 39, none⟩ = some (.bool t.seen) := by rw [blk_cell tk.blk]; rfl
            have b40 : wr.cell? ⟨t.b, 40, none⟩ = some (.int .i64 t.first) := by rw [blk_cell tk.blk]; rfl
            have nq : ∀ k, (binOp .neq 28 (fp t.b) (Value.pointer none)).run Yba.prog (wr.drewN k) = .ok (.bool (decide (none ≠ some t.b))) (wr.drewN k) := fun k => neq_own (T.drewN k) t htm
            have TM := fun k => time_any t.b t.first t.sc t.sh t.un (wr.drewN k) tk.f0 tk.f1 tk.sc0 tk.sc1 b1 b9 b11
            have TM0 := TM 0
            rw [World.drewN_zero] at TM0
            have hcl : cs.length ≤ j := by rw [HC.out]; exact cands_le _ _ _
            obtain ⟨tm, etm⟩ : ∃ x, x = t.time := ⟨_, rfl⟩
            obtain ⟨hd, ehd⟩ : ∃ x, x = t.held := ⟨_, rfl⟩
            obtain ⟨sn, esn⟩ : ∃ x, x = t.seen := ⟨_, rfl⟩
            obtain ⟨q, eq⟩ : ∃ x, x = decide (none ≠ some t.b) := ⟨_, rfl⟩
            obtain ⟨d, ed⟩ : ∃ x, x = cd none t := ⟨_, rfl⟩
            have e1 : timeD t.first t.sc t.sh t.un = tm := etm.symm
            have e2 : timeB t.first t.sc t.sh t.un = hd := ehd.symm
            simp only [e1, e2] at TM0
            rw [← esn] at b39
            simp only [← eq] at nq
            have hcd : d = if q = true then max tm t.shown else tm := by
              rw [ed, eq, etm]; unfold cd
              by_cases h : none = some t.b <;> simp [h]
            have hct : counts t = (sn && hd) := by unfold counts; rw [esn, ehd]
            have NO : Hid ((sn && hd) = false → cs = cands none (ts.take (j + 1))) := fun h => by rw [cands_no none ts j hjx t ht (by rw [hct]; exact h)]; exact HC.out
            have YES : Hid ((sn && hd) = true → cs ++ [d] = cands none (ts.take (j + 1))) := fun h => by rw [cands_yes none ts j hjx t ht (by rw [hct]; exact h), ← ed, ← HC.out]
            clear e1 e2 etm ehd esn eq ed hct ht T tk TM HC
            cases q with
            | true =>
              have HE : Hid (d = max tm t.shown) := hcd
              clear hcd
              cases sn with
              | false =>
                have HR : Hid _ := NO.out rfl
                clear NO YES
                go_wp2_with (go_at_call 13; refine TM0.mono ?_; rintro e w' ⟨rfl, k2, rfl⟩)
                go_roundw
                case rel => exact ⟨j + 1, cs, by omega, by go_num, rfl, HR, J.drewN _⟩
                case measure => simp [intOf]; omega
              | true =>
                cases hd with
                | false =>
                  have HR : Hid _ := NO.out rfl
                  clear NO YES
                  go_wp2_with (go_at_call 13; refine TM0.mono ?_; rintro e w' ⟨rfl, k2, rfl⟩)
                  go_roundw
                  case rel => exact ⟨j + 1, cs, by omega, by go_num, rfl, HR, J.drewN _⟩
                  case measure => simp [intOf]; omega
                | true =>
                  have HR : Hid _ := YES.out rfl
                  clear NO YES
                  rw [HE.out] at HR
                  go_wp2_with (first | (go_at_call 13; refine TM0.mono ?_; rintro e w' ⟨rfl, k2, rfl⟩) | (at_builtin; refine wpList_append_fits _ rfl (.tmp 130) (.tmp 132) 96 rfl W1.heap.size 58 i58 1 Yba.underlying96 hi58 hs58 W1.heap.size cs.length n _ rfl ((J.drewN _).row.alloc _) ⟨wr.heap.size, 0, none⟩ 1 1 [.int .i64 (max tm t.shown)] rfl rfl (one_new _ _ _ _ rfl) (one_int _) (by omega) ?_; intro w5 hown5 hg5))
                  have J5 := J.step hg5 hown5
                  clear hown5 hg5
                  go_wp2
                  go_roundw
                  case rel => exact ⟨j + 1, _, by omega, by go_num, by simp, HR, J5⟩
                  case measure => simp [intOf]; omega
            | false =>
              have HE : Hid (d = tm) := hcd
              clear hcd
              cases sn with
              | false =>
                have HR : Hid _ := NO.out rfl
                clear NO YES
                go_wp2_with (go_at_call 13; refine TM0.mono ?_; rintro e w' ⟨rfl, k2, rfl⟩)
                go_roundw
                case rel => exact ⟨j + 1, cs, by omega, by go_num, rfl, HR, J.drewN _⟩
                case measure => simp [intOf]; omega
              | true =>
                cases hd with
                | false =>
                  have HR : Hid _ := NO.out rfl
                  clear NO YES
                  go_wp2_with (go_at_call 13; refine TM0.mono ?_; rintro e w' ⟨rfl, k2, rfl⟩)
                  go_roundw
                  case rel => exact ⟨j + 1, cs, by omega, by go_num, rfl, HR, J.drewN _⟩
                  case measure => simp [intOf]; omega
                | true =>
                  have HR : Hid _ := YES.out rfl
                  clear NO YES
                  rw [HE.out] at HR
                  go_wp2_with (first | (go_at_call 13; refine TM0.mono ?_; rintro e w' ⟨rfl, k2, rfl⟩) | (at_builtin; refine wpList_append_fits _ rfl (.tmp 130) (.tmp 132) 96 rfl W1.heap.size 58 i58 1 Yba.underlying96 hi58 hs58 W1.heap.size cs.length n _ rfl ((J.drewN _).row.alloc _) ⟨wr.heap.size, 0, none⟩ 1 1 [.int .i64 tm] rfl rfl (one_new _ _ _ _ rfl) (one_int _) (by omega) ?_; intro w5 hown5 hg5))
                  have J5 := J.step hg5 hown5
                  clear hown5 hg5
                  go_wp2
                  go_roundw
                  case rel => exact ⟨j + 1, _, by omega, by go_num, by simp, HR, J5⟩
                  case measure => simp [intOf]; omega
          · have hall : cs = cands none ts := by rw [HC.out, List.take_of_length_le (by omega)]
            have HA : Hid (cs = cands none ts) := hall
            have hcl : cs.length ≤ 256 := by
              have := cands_le none ts ts.length
              rw [List.take_length, ← hall] at this
              omega
            clear hall HC
            have hCs := J.bel.size
            have hWsz := I.lt
            obtain ⟨arr, harr⟩ : ∃ arr, arr = ((((((Yba.zeroCells79.setIfInBounds 0 (Value.slice (some ⟨w.heap.size, 0, none⟩) n n)).setIfInBounds 1 (Value.map none)).setIfInBounds 2 (Value.bool false)).setIfInBounds 3 (Value.pointer none)).setIfInBounds 159 (Value.int .i64 pre)).setIfInBounds 156 (Value.int .i64 pre)) := ⟨_, rfl⟩
            obtain ⟨asz, a0', a3', a4', a45'⟩ := arr_facts _ _ _ arr harr
            have SN := st_new wr arr asz
            have SETT := settle_nil wr.heap.size (wr.alloc (.cells arr 79)) _ (acc none ts).1 (acc none ts).2 SN (by simp [a45']) (by
              intro w2 hg2 hc2
              rw [a0'] at hc2
              rw [a3']
              refine earliest_any wr.heap.size w.heap.size n none ts w2 hke (TK w2 ?_) hc2
              exact (J.bel.alloc (by omega) _).grown hg2 (by simp; omega) (fun k e => by simp at e; omega)) (by simp [a4'])
            rw [harr] at SETT
            go_wp2_with fail
            refine SETT.mono ?_
            rintro e W9 ⟨rfl, g, P⟩
            rw [← harr] at P
            have B9 : Below W1.heap.size W1 W9 := (J.bel.alloc (by omega) (.cells arr 79)).grown P.st.grw (by simp; omega) (fun k e => by simp at e; omega)
            have R9 : W9.ownsRow W1.heap.size 58 1 (.slice (some ⟨W1.heap.size, 0, none⟩) cs.length n) cs.length (cs.map (Value.int .i64)) := by
              refine (J.row.alloc (.cells arr 79)).kept P.st.grw (.inr ?_)
              have := (J.row.lt W1.heap.size rfl).2
              simp [Value.ownBlock]; omega
            have F9 : Below w.heap.size w W9 := I.bel.trans (B9.mono (by omega))
            have d45 : W9.cell? ⟨wr.heap.size, 45, none⟩ = some (.bool true) := (P.st.row 45 (by omega)).trans (by rw [P.g45])
            have d47 : W9.cell? ⟨wr.heap.size, 47, none⟩ = some (.int .i64 (acc none ts).1) := (P.st.row 47 (by omega)).trans (by rw [P.g47])
            have d156 : W9.cell? ⟨wr.heap.size, 156, none⟩ = some (.int .i64 (acc none ts).1) := (P.st.row 156 (by omega)).trans (by rw [P.g156])
            have d159 : W9.cell? ⟨wr.heap.size, 159, none⟩ = some (.int .i64 (acc none ts).1) := (P.st.row 159 (by omega)).trans (by rw [P.g159])
            have LAW := acc_law none ts
            obtain ⟨D, hD⟩ : ∃ D, D = (acc none ts).1 := ⟨_, rfl⟩
            rw [← hD] at d47 d156 d159 LAW
            change (_ ∧ _ ∧ cands none ts = []) ∨ (_ ∧ _ ∈ cands none ts ∧ ∀ c ∈ cands none ts, _ ≤ c) at LAW
            rw [← HA.out] at LAW
            have HL : Hid _ := LAW
            clear LAW hD P SETT SN harr asz a0' a3' a4' a45' HA TK B9 I J
            by_cases hcs : cs = []
            · have hz : ((cs.length : Int) == 0) = true := by rw [hcs]; rfl
              have hD0 : D = 0 := by
                rcases HL.out with ⟨_, h0, _⟩ | ⟨_, h1, _⟩
                · exact h0
                · rw [hcs] at h1; simp at h1
              have HD0 : Hid (D = 0) := hD0
              clear hD0 hcs HL
              go_wp2
              go_quiet (fail)
              go_wp2
              go_ret
              exact ⟨ret_bool (by rw [HD0.out]; rfl), below_drewN F9 _⟩
            · have hz : ((cs.length : Int) == 0) = false := by
                cases cs with
                | nil => exact absurd rfl hcs
                | cons a l => simp; omega
              have LW : D ∈ cs ∧ ∀ c ∈ cs, D ≤ c := by
                rcases HL.out with ⟨_, _, h0⟩ | ⟨_, h1, h2⟩
                · exact absurd h0 hcs
                · exact ⟨h1, h2⟩
              have HW : Hid _ := LW
              clear HL LW hcs
              go_wp2
              go_quiet (fail)
              go_wp2
              go_loopw [18, 19] (fun v i wr => ∃ q k : Nat, q ≤ cs.length ∧ i = .int .i64 q ∧ v = .bool (decide (D ∈ cs.take q)) ∧ wr = W9.drewN k) (fun _ i _ => cs.length - (intOf i).toNat)
              case atStart => exact ⟨0, _, by omega, rfl, by simp, rfl⟩
              case round =>
                obtain ⟨q, k9, hq, rfl, rfl, rfl⟩ := hrel
                by_cases hqn : q < cs.length
                · have cq : W9.cell? ⟨W1.heap.size, q, none⟩ = some (.int .i64 (cs[q])) := by
                    rw [R9.cellAt q (by omega)]; simp [hqn]
                  obtain ⟨c, hc⟩ : ∃ c, c = cs[q] := ⟨_, rfl⟩
                  rw [← hc] at cq
                  have hge : D ≤ c := by rw [hc]; exact HW.out.2 _ (List.getElem_mem _)
                  have hmem : (D ∈ cs.take (q + 1)) ↔ (D ∈ cs.take q ∨ D = c) := by
                    rw [List.take_succ_eq_append_getElem hqn, ← hc, List.mem_append, List.mem_singleton]
                  clear hc
                  by_cases hcD : c = D
                  · have HS : Hid (true = decide (D ∈ cs.take (q + 1))) := by
                      rw [Hid]; symm; rw [decide_eq_true_eq, hmem]; exact .inr hcD.symm
                    subst hcD
                    clear hmem
                    go_wp2
                    go_quiet (fail)
                    go_wp2
                    go_quiet (fail)
                    go_wp2
                    go_roundw
                    case rel => exact ⟨q + 1, _, by omega, by go_num, by rw [← HS.out], rfl⟩
                    case measure => simp [intOf]; omega
                  · have HS : Hid (decide (D ∈ cs.take q) = decide (D ∈ cs.take (q + 1))) := by
                      rw [Hid, Bool.eq_iff_iff, decide_eq_true_eq, decide_eq_true_eq, hmem]
                      exact ⟨.inl, fun h => h.elim id (fun h => absurd h.symm hcD)⟩
                    have hcD' : (c == D) = false := by simpa using hcD
                    clear hmem hcD
                    go_wp2
                    go_quiet (fail)
                    go_wp2
                    go_quiet (fail)
                    go_wp2
                    go_roundw
                    case rel => exact ⟨q + 1, _, by omega, by go_num, by rw [← HS.out], rfl⟩
                    case measure => simp [intOf]; omega
                · have HF : Hid (decide (D ∈ cs.take q) = true) := by
                    rw [Hid, decide_eq_true_eq, List.take_of_length_le (by omega)]; exact HW.out.1
                  go_wp2
                  go_ret
                  exact ⟨ret_bool HF.out, below_drewN F9 _⟩
end Go.Proofs.Ybulkzui
