import Derived.Test.YbulkztuLaws
namespace Go.Proofs.Ybulkztu
open Go Go.RowKit

/-- a pointer to the head of a block -/
abbrev fp (b : Nat) : Value := .pointer (some ⟨b, 0, none⟩)
/-- the nine cells of a ModelExpr: its Fields, its own -/
abbrev mcells (vf vo : Value) : Array Value := #[.string ⟨#[]⟩, .bool false, vf, .nilFunc, .string ⟨#[]⟩, .int .i64 0, .int .u64 0, vo, .slice none 0 0]

theorem owns_form {w : World} {b : Nat} {e : TypeId} {size : Nat} {v : Value} {n : Nat} {xs : List Value} (h : w.ownsRow b e size v n xs) : ∃ ao cap, v = .slice ao n cap := by
  rcases h.2 with ⟨rfl, rfl⟩ | ⟨g, cap, cur, rfl, _⟩
  · exact ⟨none, 0, rfl⟩
  · exact ⟨_, _, rfl⟩

theorem grown_trans {a b c : World} {r s : Option Nat} (h : a.grownBy b r) (k : b.grownBy c s) (hs : ∀ g, s = some g → r = some g ∨ a.heap.size ≤ g) : a.grownBy c r :=
  ⟨k.os.trans h.os, k.tape.trans h.tape, k.output.trans h.output, Nat.le_trans h.size k.size,
   fun i hi hr => (k.block i (Nat.lt_of_lt_of_le hi h.size) (fun e => by
     rcases hs i e.symm with h1 | h1
     · exact hr h1.symm
     · omega)).trans (h.block i hi hr)⟩

theorem grown_set (w : World) (p : Addr) (u : Value) : w.grownBy (w.setCell p u) (some p.block) :=
  ⟨rfl, rfl, rfl, by simp [World.setCell], fun k _ hk => Below.heap_setCell _ _ _ _ (fun e => hk (by rw [e]))⟩

theorem grown_drew (w : World) (r : Option Nat) : w.grownBy w.drew r := ⟨rfl, rfl, rfl, Nat.le_refl _, fun _ _ _ => rfl⟩

theorem blk_lt {w : World} {b : Nat} {o : Obj} (h : w.heap[b]? = some o) : b < w.heap.size := (Array.getElem?_eq_some_iff.1 h).1

theorem blk_cell {w : World} {b : Nat} {cs : Array Value} {t : TypeId} (h : w.heap[b]? = some (.cells cs t (0, 0))) (j : Nat) : w.cell? ⟨b, j, none⟩ = cs[j]? := by
  simp [World.cell?, h]
theorem blk_free {w : World} {b : Nat} {cs : Array Value} {t : TypeId} (h : w.heap[b]? = some (.cells cs t (0, 0))) (j : Nat) : w.frozen? ⟨b, j, none⟩ = false := by
  simp [World.frozen?, h]
theorem blk_set {w : World} {b : Nat} {cs : Array Value} {t : TypeId} (h : w.heap[b]? = some (.cells cs t (0, 0))) (j : Nat) (u : Value) : (w.setCell ⟨b, j, none⟩ u).heap[b]? = some (.cells (cs.set! j u) t (0, 0)) := by
  simp [World.setCell, Array.getElem?_modify, h]

/-- while the fields of the model at block 'wr.heap.size' are made -/
structure I2 (B : Nat) (all : List Nat) (vw : Value) (wr ws : World) (vo vs : Value) (fs al : List Nat) : Prop where
  eq : al = all ++ fs
  blk : ws.heap[wr.heap.size]? = some (.cells (mcells (.slice none 0 0) vo) 46 (0, 0))
  own : ws.ownsRow (wr.heap.size + 1) 38 1 vo fs.length (fs.map fp)
  wnt : ws.ownsRow (B + 1) 38 1 vs al.length (al.map fp)
  sep : ∀ g, vo.ownBlock = some g → vs.ownBlock ≠ some g
  org : ∀ g, vs.ownBlock = some g → vw.ownBlock = some g ∨ wr.heap.size < g
  old : ∀ g, vw.ownBlock = some g → g < wr.heap.size
  grw : wr.grownBy ws vw.ownBlock

theorem I2.start {B : Nat} {all : List Nat} {vw : Value} {wr : World} (hw : wr.ownsRow (B + 1) 38 1 vw all.length (all.map fp)) :
    I2 B all vw wr (wr.alloc (.cells (mcells (.slice none 0 0) (.slice none 0 0)) 46)) (.slice none 0 0) vw [] all := by
  refine ⟨by simp, heap_alloc_new _ _, World.ownsRow_nil _ _ _ _, by simpa using hw.alloc _, by simp [Value.ownBlock], fun g h => .inl h, fun g h => (hw.lt g h).2, World.grownBy_alloc _ _ _⟩

section
variable {B : Nat} {all : List Nat} {vw : Value} {wr ws : World} {vo vs : Value} {fs al : List Nat}

theorem I2.lt (h : I2 B all vw wr ws vo vs fs al) : wr.heap.size < ws.heap.size := blk_lt h.blk

/-- behind the append to 'own' -/
theorem I2.mid (h : I2 B all vw wr ws vo vs fs al) {o1 o2 : Obj} {w2 : World}
    (hg : ((ws.alloc o1).alloc o2).grownBy w2 vo.ownBlock) :
    w2.heap[wr.heap.size]? = some (.cells (mcells (.slice none 0 0) vo) 46 (0, 0)) ∧ w2.ownsRow (B + 1) 38 1 vs al.length (al.map fp) ∧ ws.grownBy w2 vo.ownBlock := by
  have hlt := h.lt
  have hgg : ws.grownBy w2 vo.ownBlock := grown_trans (grown_trans (World.grownBy_alloc _ o1 _) (World.grownBy_alloc _ o2 vo.ownBlock) (fun g e => .inl e)) hg (fun g e => .inl e)
  refine ⟨?_, ?_, hgg⟩
  · rw [hgg.block _ hlt (fun e => by have := (h.own.lt _ e.symm).1; omega)]
    exact h.blk
  · refine h.wnt.kept hgg ?_
    cases hv : vs.ownBlock with
    | none => exact .inl rfl
    | some g => exact .inr (fun e => h.sep g e.symm hv)

/-- behind the store of 'own' -/
theorem I2.mid2 (h : I2 B all vw wr ws vo vs fs al) {o1 o2 : Obj} {w2 : World}
    (hg : ((ws.alloc o1).alloc o2).grownBy w2 vo.ownBlock) (v1 : Value) :
    (w2.setCell ⟨wr.heap.size, 7, none⟩ v1).ownsRow (B + 1) 38 1 vs al.length (al.map fp) := by
  obtain ⟨_, h2, _⟩ := h.mid hg
  refine h2.kept (grown_set _ _ _) ?_
  cases hv : vs.ownBlock with
  | none => exact .inl rfl
  | some g =>
    refine .inr (fun e => ?_)
    simp at e
    subst e
    rcases h.org _ hv with h1 | h1
    · have := h.old _ h1; omega
    · omega

/-- the round's end -/
theorem I2.step (h : I2 B all vw wr ws vo vs fs al) {o1 o2 o3 : Obj} {w2 w4 : World} {v1 v2 : Value} {F : Nat} (hF : F = ws.heap.size)
    (hg : ((ws.alloc o1).alloc o2).grownBy w2 vo.ownBlock) (hown : w2.ownsRow (wr.heap.size + 1) 38 1 v1 (fs.length + 1) (fs.map fp ++ [fp F]))
    (hs1 : ∀ g, v1.ownBlock = some g → vo.ownBlock = some g ∨ ws.heap.size + 1 + 1 ≤ g)
    (hg2 : ((w2.setCell ⟨wr.heap.size, 7, none⟩ v1).alloc o3).grownBy w4 vs.ownBlock) (hwnt : w4.ownsRow (B + 1) 38 1 v2 (al.length + 1) (al.map fp ++ [fp F]))
    (hs2 : ∀ g, v2.ownBlock = some g → vs.ownBlock = some g ∨ w2.heap.size + 1 ≤ g) :
    I2 B all vw wr w4 v1 v2 (fs ++ [F]) (al ++ [F]) := by
  subst hF
  obtain ⟨hb, hw2, hgg⟩ := h.mid hg
  have hlt := h.lt
  have hlt2 := hgg.size
  have hsS : ∀ g, vs.ownBlock = some g → g ≠ wr.heap.size := by
    intro g hv e
    subst e
    rcases h.org _ hv with h1 | h1
    · have := h.old _ h1; omega
    · omega
  have hv1 : ∀ g, v1.ownBlock = some g → vs.ownBlock ≠ some g ∧ wr.heap.size + 1 ≤ g ∧ g < w2.heap.size := by
    intro g hv
    refine ⟨?_, hown.lt g hv⟩
    rcases hs1 g hv with h1 | h1
    · exact h.sep g h1
    · intro e
      have h2 := (h.wnt.lt g e).2
      omega
  have hsz3 : ((w2.setCell ⟨wr.heap.size, 7, none⟩ v1).alloc o3).heap.size = w2.heap.size + 1 := by simp
  have hg2' : (w2.setCell ⟨wr.heap.size, 7, none⟩ v1).grownBy w4 vs.ownBlock := grown_trans (World.grownBy_alloc _ o3 _) hg2 (fun g e => .inl e)
  have hsz4 := hg2.size
  rw [hsz3] at hsz4
  refine ⟨by rw [h.eq]; simp, ?_, ?_, ?_, ?_, ?_, h.old, ?_⟩
  · rw [hg2'.block _ (by simp; omega) (fun e => hsS _ e.symm rfl), blk_set hb]
    rfl
  · have : (w2.setCell ⟨wr.heap.size, 7, none⟩ v1).ownsRow (wr.heap.size + 1) 38 1 v1 (fs.length + 1) (fs.map fp ++ [fp ws.heap.size]) :=
      hown.kept (grown_set _ _ _) (by
        cases hv : v1.ownBlock with
        | none => exact .inl rfl
        | some g => exact .inr (fun e => by simp at e; have := (hv1 g hv).2.1; omega))
    have := this.kept hg2' (by
      cases hv : v1.ownBlock with
      | none => exact .inl rfl
      | some g => exact .inr (fun e => (hv1 g hv).1 e.symm))
    simpa using this
  · simpa [Nat.add_assoc] using hwnt
  · intro g hv e
    have := hv1 g hv
    rcases hs2 g e with h2 | h2
    · exact this.1 h2
    · omega
  · intro g hv
    rcases hs2 g hv with h2 | h2
    · exact h.org g h2
    · exact .inr (by omega)
  · refine grown_trans (grown_trans (grown_trans h.grw hgg ?_) (grown_set _ _ _) ?_) hg2' ?_
    · intro g e; exact .inr (by have := (h.own.lt g e).1; omega)
    · intro g e; simp at e; exact .inr (by omega)
    · intro g e
      rcases h.org g e with h1 | h1
      · exact .inl h1
      · exact .inr (by omega)
end

theorem one_new (w : World) (x : Value) (t : TypeId) (A : Nat) (h : A = w.heap.size) : ∀ j u, [x][j]? = some u → (w.alloc (.cells #[x] t)).cell? ((⟨A, 0, none⟩ : Addr).add j) = some u := by
  subst h
  intro j u hj
  match j, hj with
  | 0, hj => simp at hj; subst hj; simp [Addr.add]
theorem one_ptr (a : Option Addr) : ∀ u ∈ [Value.pointer a], u.oneCell' = true := by intro u hu; simp at hu; subst hu; rfl

/-- while the Fields of the model at block S are copied: 'ws': the world behind the making of its own fields -/
structure I3 (S : Nat) (ws wt : World) (vo vf : Value) (n : Nat) : Prop where
  blk : wt.heap[S]? = some (.cells (mcells vf vo) 46 (0, 0))
  fld : ∃ fl, wt.ownsRow ws.heap.size 38 1 vf n fl
  grw : ws.grownBy wt (some S)
  lt : S < ws.heap.size

section
variable {S : Nat} {ws wt : World} {vo vf : Value} {n : Nat}
theorem I3.start (hb : ws.heap[S]? = some (.cells (mcells (.slice none 0 0) vo) 46 (0, 0))) : I3 S ws ws vo (.slice none 0 0) 0 :=
  ⟨hb, ⟨[], World.ownsRow_nil _ _ _ _⟩, World.grownBy.refl _ _, blk_lt hb⟩

/-- a row of 'ws' that is not the model's block is there in 'wt' -/
theorem I3.row (h : I3 S ws wt vo vf n) {b m : Nat} {v : Value} {xs : List Value} (hr : ws.ownsRow b 38 1 v m xs) (hb : S < b) : wt.ownsRow b 38 1 v m xs := by
  refine hr.kept h.grw ?_
  cases hv : v.ownBlock with
  | none => exact .inl rfl
  | some g => exact .inr (fun e => by simp at e; have := (hr.lt g hv).1; omega)

theorem I3.mid (h : I3 S ws wt vo vf n) {W w2 : World} (hW : wt.grownBy W none) (hg : W.grownBy w2 vf.ownBlock) :
    w2.heap[S]? = some (.cells (mcells vf vo) 46 (0, 0)) := by
  have h1 := blk_lt h.blk
  have h2 := hW.size
  obtain ⟨fl, hf⟩ := h.fld
  rw [hg.block S (by omega) (fun e => by have := (hf.lt _ e.symm).1; have := h.lt; omega), hW.block S h1 (by simp)]
  exact h.blk

theorem I3.step (h : I3 S ws wt vo vf n) {W w2 : World} {v1 : Value} {xs : List Value} (hW : wt.grownBy W none) (hg : W.grownBy w2 vf.ownBlock)
    (hown : w2.ownsRow ws.heap.size 38 1 v1 (n + 1) xs) : I3 S ws (w2.setCell ⟨S, 2, none⟩ v1) vo v1 (n + 1) := by
  obtain ⟨fl, hf⟩ := h.fld
  have hl := h.lt
  refine ⟨?_, ⟨xs, ?_⟩, ?_, h.lt⟩
  · rw [blk_set (h.mid hW hg)]; rfl
  · refine hown.kept (grown_set _ _ _) ?_
    cases hv : v1.ownBlock with
    | none => exact .inl rfl
    | some g => exact .inr (fun e => by simp at e; have := (hown.lt g hv).1; omega)
  · refine grown_trans (grown_trans (grown_trans h.grw hW (by simp)) hg ?_) (grown_set _ _ _) ?_
    · intro g e; exact .inr (hf.lt g e).1
    · intro g e; simp at e; exact .inl (by rw [e])
end

/-- a block that no later round writes: it is not the slice of models, nor the row of 'want' -/
def Safe (B : Nat) (w : World) (vw : Value) (b : Nat) : Prop := B < b ∧ b < w.heap.size ∧ vw.ownBlock ≠ some b

/-- a model that is done: its block, the value of 'own', the blocks of its own fields -/
structure Dn (B : Nat) (w : World) (vw : Value) (x : Nat × Value × List Nat) : Prop where
  blk : w.cell? ⟨x.1, 7, none⟩ = some x.2.1
  safe : Safe B w vw x.1
  own : w.ownsRow (B + 1) 38 1 x.2.1 x.2.2.length (x.2.2.map fp)
  safe2 : ∀ g, x.2.1.ownBlock = some g → Safe B w vw g

theorem Dn.keep {B : Nat} {w w' : World} {vw vw' : Value} {x : Nat × Value × List Nat} (h : Dn B w vw x)
    (hb : ∀ b, Safe B w vw b → w'.heap[b]? = w.heap[b]?) (hs : ∀ b, Safe B w vw b → Safe B w' vw' b) : Dn B w' vw' x := by
  refine ⟨?_, hs _ h.safe, ?_, fun g hg => hs _ (h.safe2 g hg)⟩
  · rw [World.cell?_of_block (w := w) (hb _ h.safe)]; exact h.blk
  · refine ⟨h.own.1, ?_⟩
    rcases h.own.2 with hn | ⟨g, cap, cur, hv, hg, hgg, r⟩
    · exact .inl hn
    · refine .inr ⟨g, cap, cur, hv, hg, ?_, r⟩
      rw [hb g (h.safe2 g (by rw [hv]; rfl))]; exact hgg

structure I1 (B n : Nat) (w wr : World) (vw : Value) (xs : List (Nat × Value × List Nat)) (all : List Nat) : Prop where
  mod : wr.ownsRow B 34 1 (.slice (some ⟨B, 0, none⟩) n n) n (xs.map (fun x => fp x.1) ++ List.replicate (n - xs.length) (.pointer none))
  wnt : wr.ownsRow (B + 1) 38 1 vw all.length (all.map fp)
  eq : all = xs.flatMap (fun x => x.2.2)
  dn : ∀ x ∈ xs, Dn B wr vw x
  bel : Below B w wr
  len : all.length ≤ 7 * xs.length
  base : w.heap.size = B

section
variable {B n : Nat} {w W0 W2 W3 : World} {vw vo vs vf : Value} {xs : List (Nat × Value × List Nat)} {all fs al : List Nat} {m : Nat}

theorem I1.lt (h : I1 B n w W0 vw xs all) : B < W0.heap.size := (h.mod.lt B rfl).2

theorem I1.modAt (h : I1 B n w W0 vw xs all) (j2 : I2 B all vw W0 W2 vo vs fs al) (j3 : I3 W0.heap.size W2 W3 vo vf m) :
    W3.ownsRow B 34 1 (.slice (some ⟨B, 0, none⟩) n n) n (xs.map (fun x => fp x.1) ++ List.replicate (n - xs.length) (.pointer none)) := by
  refine (h.mod.kept j2.grw (.inr ?_)).kept j3.grw (.inr ?_)
  · intro e; have := (h.wnt.lt B e.symm).1; omega
  · intro e; simp [Value.ownBlock] at e; have := h.lt; omega

theorem I1.spot (h : I1 B n w W0 vw xs all) (j2 : I2 B all vw W0 W2 vo vs fs al) (j3 : I3 W0.heap.size W2 W3 vo vf m) (hk : xs.length < n) :
    W3.cell? ⟨B, xs.length, none⟩ = some (.pointer none) ∧ W3.frozen? ⟨B, xs.length, none⟩ = false := by
  have hm := h.modAt j2 j3
  refine ⟨?_, hm.frozenAt _⟩
  rw [hm.cellAt _ (by omega)]
  rw [List.getElem?_append_right (by simp)]
  obtain ⟨d, hd⟩ : ∃ d, n - xs.length = d + 1 := ⟨n - xs.length - 1, by omega⟩
  simp [hd]

theorem I1.step (h : I1 B n w W0 vw xs all) (j2 : I2 B all vw W0 W2 vo vs fs al) (j3 : I3 W0.heap.size W2 W3 vo vf m) (hk : xs.length < n) (hf : fs.length ≤ 7) :
    I1 B n w (W3.setCell ⟨B, xs.length, none⟩ (fp W0.heap.size)) vs (xs ++ [(W0.heap.size, vo, fs)]) al := by
  have hB := h.lt
  have h2 := j2.lt
  have h3 := j3.grw.size
  have hvsB : ∀ g, vs.ownBlock = some g → B < g := fun g e => by have := (j2.wnt.lt g e).1; omega
  have hvsS : vs.ownBlock ≠ some W0.heap.size := by
    intro e
    rcases j2.org _ e with h1 | h1
    · have := j2.old _ h1; omega
    · omega
  have hwB : vw.ownBlock ≠ some B := by intro e; have := (h.wnt.lt B e).1; omega
  -- a block of W0 that was safe is as it was, and safe
  have keep : ∀ b, Safe B W0 vw b → (W3.setCell ⟨B, xs.length, none⟩ (fp W0.heap.size)).heap[b]? = W0.heap[b]? := by
    intro b ⟨hb1, hb2, hb3⟩
    rw [Below.heap_setCell _ _ _ _ (by simp; omega), j3.grw.block b (by omega) (by simp; omega), j2.grw.block b hb2 (fun e => hb3 e.symm)]
  have safe : ∀ b, Safe B W0 vw b → Safe B (W3.setCell ⟨B, xs.length, none⟩ (fp W0.heap.size)) vs b := by
    intro b ⟨hb1, hb2, hb3⟩
    refine ⟨hb1, by simp; omega, ?_⟩
    intro e
    rcases j2.org b e with h1 | h1
    · exact hb3 h1
    · omega
  have hmod := h.modAt j2 j3
  have hown3 : W3.ownsRow (W0.heap.size + 1) 38 1 vo fs.length (fs.map fp) := j3.row j2.own (by omega)
  have hset : W3.grownBy (W3.setCell ⟨B, xs.length, none⟩ (fp W0.heap.size)) (some B) := grown_set _ _ _
  refine ⟨?_, ?_, ?_, ?_, ?_, ?_, h.base⟩
  · have := hmod.stored xs.length (fp W0.heap.size)
    have e : (xs.map (fun x : Nat × Value × List Nat => fp x.1) ++ List.replicate (n - xs.length) (Value.pointer none)).set xs.length (fp W0.heap.size) = (xs ++ [(W0.heap.size, vo, fs)]).map (fun x : Nat × Value × List Nat => fp x.1) ++ List.replicate (n - (xs ++ [(W0.heap.size, vo, fs)]).length) (Value.pointer none) := by
      rw [List.set_append_right _ _ (by simp)]
      obtain ⟨d, hd⟩ : ∃ d, n - xs.length = d + 1 := ⟨n - xs.length - 1, by omega⟩
      have hd2 : n - (xs.length + 1) = d := by omega
      simp [hd, hd2, List.replicate_succ]
    rw [e] at this
    exact this.1
  · have hw3 : W3.ownsRow (B + 1) 38 1 vs al.length (al.map fp) := by
      refine j2.wnt.kept j3.grw ?_
      cases hv : vs.ownBlock with
      | none => exact .inl rfl
      | some g => exact .inr (fun e => by rw [hv] at hvsS; exact hvsS e)
    refine hw3.kept hset ?_
    cases hv : vs.ownBlock with
    | none => exact .inl rfl
    | some g => exact .inr (fun e => by simp at e; have := hvsB g hv; omega)
  · rw [j2.eq, h.eq]; simp
  · intro x hx
    rw [List.mem_append] at hx
    rcases hx with hx | hx
    · exact (h.dn x hx).keep keep safe
    · simp at hx
      subst hx
      refine ⟨?_, ⟨hB, by simp; omega, hvsS⟩, ?_, ?_⟩
      · show (W3.setCell ⟨B, xs.length, none⟩ (fp W0.heap.size)).cell? ⟨W0.heap.size, 7, none⟩ = some vo
        rw [World.cell?_of_block (w := W3) (Below.heap_setCell _ _ _ _ (by simp; omega)), blk_cell j3.blk]; rfl
      · exact owns_mono (hown3.kept hset (by
          cases hv : vo.ownBlock with
          | none => exact .inl rfl
          | some g => exact .inr (fun e => by simp at e; have := (hown3.lt g hv).1; omega))) (by omega)
      · intro g hg
        have := hown3.lt g hg
        exact ⟨by omega, by simp; omega, j2.sep g hg⟩
  · have b2 : Below B w W2 := h.bel.grown j2.grw (by omega) (fun k e => by have := (h.wnt.lt k e).1; omega)
    have b3 : Below B w W3 := b2.grown j3.grw (by omega) (fun k e => by simp at e; omega)
    exact b3.setCell (Nat.le_refl _) _
  · have := h.len
    rw [j2.eq]; simp; omega

end

theorem I1.start {w w1 : World} {n : Nat} (hown : w1.ownsRow w.heap.size 34 1 (.slice (some ⟨w.heap.size, 0, none⟩) n n) n (madeCells (Value.pointer none).cells (n * 1)).toList) (hg : w.grownBy w1 none) :
    I1 w.heap.size n w w1 (.slice none 0 0) [] [] := by
  refine ⟨?_, World.ownsRow_nil _ _ _ _, rfl, by simp, ?_, by simp, rfl⟩
  · rw [show (Value.pointer none).cells = #[Value.pointer none] from rfl, toList_madeCells_one] at hown
    simpa using hown
  · exact (Below.refl _ _).grown hg (Nat.le_refl _) (by simp)

end Go.Proofs.Ybulkztu
