import Derived.Test.YbulkztuBuild
namespace Go.Proofs.Ybulkztu
open Go Go.RowKit

set_option maxHeartbeats 400000 in
theorem clo1 (w : World) (bc b1 b2 : Nat) (v1 : Value) (a : Option Addr) (n cap : Nat) (hc : w.heap[bc]? = some (.cells #[.int .i64 0] 3 (0, 0))) (h1 : w.heap[b1]? = some (.cells #[v1] 31 (0, 0))) (h12 : bc ≠ b1) :
    Calls Yba.prog 7 #[.slice a n cap, fp bc, fp b1, fp b2] w fun e w' => e = .returned (.tuple #[]) ∧ (w.setCell ⟨bc, 0, none⟩ (.int .i64 1)).setCell ⟨b1, 0, none⟩ (.slice a n cap) = w' := by
  have c1 := cell_of_one hc
  have f1 := free_of_one hc
  have c2 : (w.setCell ⟨bc, 0, none⟩ (.int .i64 1)).cell? ⟨b1, 0, none⟩ = some v1 := by rw [World.cell?_of_block (w := w) (Below.heap_setCell _ _ _ _ (by simp; omega))]; exact cell_of_one h1
  have f2 : (w.setCell ⟨bc, 0, none⟩ (.int .i64 1)).frozen? ⟨b1, 0, none⟩ = false := by rw [World.frozen?_of_block (w := w) (Below.heap_setCell _ _ _ _ (by simp; omega))]; exact free_of_one h1
  go_enter Yba.func7, Yba.ntmps7
  go_wp2
  go_end0
  exact ⟨rfl, rfl⟩

set_option maxHeartbeats 400000 in
theorem clo2 (w : World) (bc b1 b2 : Nat) (v1 : Value) (a : Option Addr) (n cap : Nat) (hc : w.heap[bc]? = some (.cells #[.int .i64 1] 3 (0, 0))) (h1 : w.heap[b2]? = some (.cells #[v1] 31 (0, 0))) (h12 : bc ≠ b2) :
    Calls Yba.prog 7 #[.slice a n cap, fp bc, fp b1, fp b2] w fun e w' => e = .returned (.tuple #[]) ∧ (w.setCell ⟨bc, 0, none⟩ (.int .i64 2)).setCell ⟨b2, 0, none⟩ (.slice a n cap) = w' := by
  have c1 := cell_of_one hc
  have f1 := free_of_one hc
  have c2 : (w.setCell ⟨bc, 0, none⟩ (.int .i64 2)).cell? ⟨b2, 0, none⟩ = some v1 := by rw [World.cell?_of_block (w := w) (Below.heap_setCell _ _ _ _ (by simp; omega))]; exact cell_of_one h1
  have f2 : (w.setCell ⟨bc, 0, none⟩ (.int .i64 2)).frozen? ⟨b2, 0, none⟩ = false := by rw [World.frozen?_of_block (w := w) (Below.heap_setCell _ _ _ _ (by simp; omega))]; exact free_of_one h1
  go_enter Yba.func7, Yba.ntmps7
  go_wp2
  go_end0
  exact ⟨rfl, rfl⟩

abbrev im (b : Nat) : Value := .iface 34 (fp b)
abbrev ifc (b : Nat) : Value := .iface 38 (fp b)

/-- what WalkSets reads: the slice of models at block B, each model's own fields; all below block R -/
structure Rd (B R : Nat) (w : World) (xs : List (Nat × Value × List Nat)) : Prop where
  mdl : ∀ i, (h : i < xs.length) → w.cell? ⟨B, i, none⟩ = some (fp (xs[i]'h).1)
  lt : ∀ x ∈ xs, x.1 < R
  own : ∀ x ∈ xs, w.cell? ⟨x.1, 7, none⟩ = some x.2.1 ∧ w.ownsRow (B + 1) 38 1 x.2.1 x.2.2.length (x.2.2.map fp)
  row : ∀ x ∈ xs, ∀ g, x.2.1.ownBlock = some g → g < R
  base : B < R
  len : (xs.flatMap (fun x => x.2.2)).length ≤ 1800
  num : xs.length ≤ 256

theorem Rd.keep {B R : Nat} {w w' : World} {xs : List (Nat × Value × List Nat)} (h : Rd B R w xs) (hb : Below R w w') : Rd B R w' xs := by
  refine ⟨fun i hi => ?_, h.lt, fun x hx => ⟨?_, ?_⟩, h.row, h.base, h.len, h.num⟩
  · rw [hb.cell (p := ⟨B, i, none⟩) h.base]; exact h.mdl i hi
  · rw [hb.cell (p := ⟨x.1, 7, none⟩) (h.lt x hx)]; exact (h.own x hx).1
  · have ho := (h.own x hx).2
    refine ⟨ho.1, ?_⟩
    rcases ho.2 with hn | ⟨g, cap, cur, hv, hg, hgg, r⟩
    · exact .inl hn
    · refine .inr ⟨g, cap, cur, hv, hg, ?_, r⟩
      rw [hb.block g (h.row x hx g (by rw [hv]; rfl))]; exact hgg

/-- the first slice that is handed to 'walk', k of its n cells set -/
structure J1 (M n k : Nat) (w wr : World) (xs : List (Nat × Value × List Nat)) : Prop where
  row : ∃ L, wr.ownsRow M 37 1 (.slice (some ⟨M, 0, none⟩) n n) n L ∧ ∀ i, i < k → L[i]? = (xs[i]?).map (fun x => im x.1)
  bel : Below M w wr

theorem J1.step {M n k : Nat} {w wr : World} {xs : List (Nat × Value × List Nat)} (h : J1 M n k w wr xs) (hk : k < n) (hx : k < xs.length) :
    J1 M n (k + 1) w (wr.setCell ⟨M, k, none⟩ (im (xs[k]'hx).1)) xs := by
  obtain ⟨L, hr, hL⟩ := h.row
  refine ⟨⟨L.set k (im (xs[k]'hx).1), (hr.stored k _).1, fun i hi => ?_⟩, h.bel.setCell (Nat.le_refl _) _⟩
  have hlen : L.length = n := by have := hr.1; omega
  by_cases e : i = k
  · subst e
    rw [List.getElem?_set_self (by omega)]
    simp [hx]
  · rw [List.getElem?_set_ne (by omega)]
    exact hL i (by omega)

theorem J1.spot {M n k : Nat} {w wr : World} {xs : List (Nat × Value × List Nat)} (h : J1 M n k w wr xs) (hk : k < n) :
    (∃ u, wr.cell? ⟨M, k, none⟩ = some u) ∧ wr.frozen? ⟨M, k, none⟩ = false := by
  obtain ⟨L, hr, hL⟩ := h.row
  have hlen : L.length = n := by have := hr.1; omega
  refine ⟨⟨L[k]'(by omega), ?_⟩, hr.frozenAt k⟩
  rw [hr.cellAt k (by omega)]
  simp [hlen, hk]

theorem flat_take (xs : List (Nat × Value × List Nat)) (k : Nat) (h : k < xs.length) : (xs.take (k + 1)).flatMap (fun x => x.2.2) = (xs.take k).flatMap (fun x => x.2.2) ++ (xs[k]'h).2.2 := by
  rw [List.take_succ_eq_append_getElem h, List.flatMap_append]; simp only [List.flatMap_cons, List.flatMap_nil, List.append_nil]
theorem flat_le (xs : List (Nat × Value × List Nat)) (k j : Nat) (h : k < xs.length) : ((xs.take k).flatMap (fun x => x.2.2) ++ ((xs[k]'h).2.2).take j).length ≤ (xs.flatMap (fun x => x.2.2)).length := by
  have e : xs.flatMap (fun x => x.2.2) = (xs.take (k + 1)).flatMap (fun x => x.2.2) ++ (xs.drop (k + 1)).flatMap (fun x => x.2.2) := by
    rw [← List.flatMap_append, List.take_append_drop]
  rw [e, flat_take xs k h]
  simp only [List.length_append, List.length_take]
  omega

/-- behind the first call of 'walk' -/
structure P2 (R M n : Nat) (w w2 : World) (xs : List (Nat × Value × List Nat)) : Prop where
  bel : Below (R + 1) w w2
  c1 : w2.heap[R + 1]? = some (.cells #[.int .i64 1] 3 (0, 0))
  c2 : w2.heap[R + 1 + 1]? = some (.cells #[.slice (some ⟨M, 0, none⟩) n n] 31 (0, 0))
  c3 : w2.heap[R + 1 + 1 + 1]? = some (.cells #[.slice none 0 0] 31 (0, 0))
  row : ∃ L, w2.ownsRow M 37 1 (.slice (some ⟨M, 0, none⟩) n n) n L ∧ ∀ i, i < n → L[i]? = (xs[i]?).map (fun x => im x.1)
  lt : R + 1 + 1 + 1 < M

theorem J1.called {R M n : Nat} {w wr : World} {xs : List (Nat × Value × List Nat)} (h : J1 M n n w wr xs) (hM : R + 1 + 1 + 1 < M)
    (hc : w.heap[R + 1]? = some (.cells #[.int .i64 0] 3 (0, 0))) (h1 : w.heap[R + 1 + 1]? = some (.cells #[.slice none 0 0] 31 (0, 0))) (h2 : w.heap[R + 1 + 1 + 1]? = some (.cells #[.slice none 0 0] 31 (0, 0))) :
    P2 R M n w ((wr.setCell ⟨R + 1, 0, none⟩ (.int .i64 1)).setCell ⟨R + 1 + 1, 0, none⟩ (.slice (some ⟨M, 0, none⟩) n n)) xs := by
  obtain ⟨L, hr, hL⟩ := h.row
  have e1 := h.bel.block (R + 1) (by omega)
  have e2 := h.bel.block (R + 1 + 1) (by omega)
  have e3 := h.bel.block (R + 1 + 1 + 1) (by omega)
  rw [hc] at e1; rw [h1] at e2; rw [h2] at e3
  refine ⟨?_, ?_, ?_, ?_, ⟨L, ?_, hL⟩, hM⟩
  · exact ((h.bel.mono (by omega)).setCell (by simp) _).setCell (by simp) _
  · rw [Below.heap_setCell _ _ _ _ (by dsimp only; omega)]; exact one_setCell e1
  · exact one_setCell (by rw [Below.heap_setCell _ _ _ _ (by dsimp only; omega)]; exact e2)
  · rw [Below.heap_setCell _ _ _ _ (by dsimp only; omega), Below.heap_setCell _ _ _ _ (by dsimp only; omega)]; exact e3
  · refine (hr.kept (grown_set _ _ _) (.inr ?_)).kept (grown_set _ _ _) (.inr ?_)
    · simp [Value.ownBlock]; omega
    · simp [Value.ownBlock]; omega

theorem P2.keep {R M n : Nat} {w w2 w3 : World} {xs : List (Nat × Value × List Nat)} (h : P2 R M n w w2 xs) (hb : Below w2.heap.size w2 w3) : P2 R M n w w3 xs := by
  obtain ⟨L, hr, hL⟩ := h.row
  have hM := hr.lt M rfl
  have hlt := h.lt
  refine ⟨h.bel.trans (hb.mono (by omega)), ?_, ?_, ?_, ⟨L, ?_, hL⟩, h.lt⟩
  · rw [hb.block _ (by omega)]; exact h.c1
  · rw [hb.block _ (by omega)]; exact h.c2
  · rw [hb.block _ (by omega)]; exact h.c3
  · exact hr.kept (row := none) ⟨hb.os, hb.tape, hb.output, hb.size, fun k hk _ => hb.block k hk⟩ (.inr (by simp [Value.ownBlock]))

/-- the fields gathered so far, in a row of blocks from T's end on -/
structure J3 (T ws : World) (v : Value) (Fs : List Nat) : Prop where
  row : ws.ownsRow T.heap.size 37 1 v Fs.length (Fs.map ifc)
  bel : Below T.heap.size T ws

theorem J3.step {T ws w2 : World} {v v1 : Value} {Fs : List Nat} {F : Nat} {o : Obj} (h : J3 T ws v Fs) (hg : (ws.alloc o).grownBy w2 v.ownBlock)
    (hown : w2.ownsRow T.heap.size 37 1 v1 (Fs.length + 1) (Fs.map ifc ++ [ifc F])) : J3 T w2 v1 (Fs ++ [F]) := by
  refine ⟨by simpa using hown, ?_⟩
  have := h.bel.size
  exact (h.bel.alloc (by omega) o).grown hg (by simp; omega) (fun k e => (h.row.lt k e).1)

/-- what WalkSets leaves -/
structure Fin (R n : Nat) (w w' : World) (xs : List (Nat × Value × List Nat)) (all : List Nat) : Prop where
  bel : Below (R + 1) w w'
  c1 : w'.cell? ⟨R + 1, 0, none⟩ = some (.int .i64 2)
  c2 : ∃ M, w'.cell? ⟨R + 1 + 1, 0, none⟩ = some (.slice (some ⟨M, 0, none⟩) n n) ∧ ∀ i, (h : i < xs.length) → i < n → w'.cell? ⟨M, i, none⟩ = some (im (xs[i]'h).1)
  c3 : ∃ a cp, w'.cell? ⟨R + 1 + 1 + 1, 0, none⟩ = some (.slice a all.length cp) ∧ w'.ownsRow (R + 1) 37 1 (.slice a all.length cp) all.length (all.map ifc)

theorem P2.called {R M n : Nat} {w T ws : World} {xs : List (Nat × Value × List Nat)} {all : List Nat} {a : Option Addr} {cp : Nat} (h : P2 R M n w T xs) (j : J3 T ws (.slice a all.length cp) all) :
    Fin R n w ((ws.setCell ⟨R + 1, 0, none⟩ (.int .i64 2)).setCell ⟨R + 1 + 1 + 1, 0, none⟩ (.slice a all.length cp)) xs all := by
  have p := h.keep j.bel
  obtain ⟨L, hr, hL⟩ := p.row
  have hlt := h.lt
  obtain ⟨L0, hr0, _⟩ := h.row
  have hT := (hr0.lt M rfl).2
  refine ⟨?_, ?_, ⟨M, ?_, ?_⟩, ⟨a, cp, ?_, ?_⟩⟩
  · exact (p.bel.setCell (by simp) _).setCell (by simp) _
  · rw [World.cell?_of_block (w := ws.setCell ⟨R + 1, 0, none⟩ (.int .i64 2)) (Below.heap_setCell _ _ _ _ (by dsimp only; omega))]
    exact cell_of_one (one_setCell p.c1)
  · rw [World.cell?_of_block (w := ws) (by rw [Below.heap_setCell _ _ _ _ (by dsimp only; omega), Below.heap_setCell _ _ _ _ (by dsimp only; omega)])]
    exact cell_of_one p.c2
  · intro i hi hin
    rw [World.cell?_of_block (w := ws) (by rw [Below.heap_setCell _ _ _ _ (by dsimp only; omega), Below.heap_setCell _ _ _ _ (by dsimp only; omega)]), hr.cellAt i (by omega), hL i hin]
    simp [hi]
  · exact cell_of_one (one_setCell (by rw [Below.heap_setCell _ _ _ _ (by dsimp only; omega)]; exact p.c3))
  · refine owns_mono ((j.row.kept (grown_set _ _ _) ?_).kept (grown_set _ _ _) ?_) (b' := R + 1) (by omega)
    · cases hv : (Value.slice a all.length cp).ownBlock with
      | none => exact .inl rfl
      | some g => exact .inr (fun e => by simp at e; have := (j.row.lt g hv).1; omega)
    · cases hv : (Value.slice a all.length cp).ownBlock with
      | none => exact .inl rfl
      | some g => exact .inr (fun e => by simp at e; have := (j.row.lt g hv).1; omega)

theorem one_if (b : Nat) : ∀ u ∈ [ifc b], u.oneCell' = true := by intro u hu; simp at hu; subst hu; rfl

set_option maxRecDepth 10000 in
set_option maxHeartbeats 2000000 in
theorem sets_any (B R n : Nat) (w : World) (xs : List (Nat × Value × List Nat)) (hxs : xs.length = n) (rd : Rd B R w xs)
    (hR : w.cell? ⟨R, 0, none⟩ = some (.slice (some ⟨B, 0, none⟩) n n))
    (hc : w.heap[R + 1]? = some (.cells #[.int .i64 0] 3 (0, 0))) (h1 : w.heap[R + 1 + 1]? = some (.cells #[.slice none 0 0] 31 (0, 0))) (h2 : w.heap[R + 1 + 1 + 1]? = some (.cells #[.slice none 0 0] 31 (0, 0))) :
    Calls Yba.prog 6 #[fp R, .func (.func 7) #[] #[fp (R + 1), fp (R + 1 + 1), fp (R + 1 + 1 + 1)]] w fun e w' => e = .returned (.tuple #[]) ∧ Fin R n w w' xs (xs.flatMap (fun x => x.2.2)) := by
  obtain ⟨i37, hi37, hz37, hs37, hb37⟩ := info_parts info37
  have hsz := blk_lt h2
  have hnum := rd.num
  rw [hxs] at hnum
  go_enter Yba.func6, Yba.ntmps6
  go_wp2_with (refine wpList_make_full _ rfl (.tmp 16) (.tmp 16) 31 rfl w.heap.size 37 i37 .nilIface 1 Yba.underlying31 hi37 hz37 hs37 .i64 .i64 _ _ n rfl rfl rfl rfl (by rw [hb37]; omega) (by unfold maxLen; omega) (Nat.le_refl _) ?_; intro w1 hown hgrow; have hR1 : w1.cell? ⟨R, 0, none⟩ = some (.slice (some ⟨B, 0, none⟩) n n) := (World.cell?_of_block (w := w) (hgrow.block R (by omega) (by simp))).trans hR)
  have J0 : J1 w.heap.size n 0 w w1 xs := ⟨⟨_, hown, by omega⟩, (Below.refl _ _).grown hgrow (Nat.le_refl _) (by simp)⟩
  clear hown hgrow hR1
  go_loopw [23] (fun i wr => ∃ k : Nat, k ≤ n ∧ i = .int .i64 k ∧ J1 w.heap.size n k w wr xs) (fun i _ => n - (intOf i).toNat)
  case atStart => exact ⟨0, by omega, rfl, J0⟩
  case round =>
    clear J0
    obtain ⟨k, hk, rfl, J⟩ := hrel
    by_cases hkn : k < n
    · have hkx : k < xs.length := by omega
      obtain ⟨⟨u, hu⟩, hfu⟩ := J.spot hkn
      have hm := (rd.keep (J.bel.mono (by omega))).mdl k hkx
      have J2 := J.step hkn hkx
      obtain ⟨X, hX⟩ : ∃ X, X = (xs[k]'hkx).1 := ⟨_, rfl⟩
      rw [← hX] at hm J2
      clear hX
      go_wp2
      go_roundw
      case rel => exact ⟨k + 1, by omega, by go_num, J2⟩
      case measure => simp [intOf]; omega
    · have hke : k = n := by omega
      subst hke
      have P := J.called hsz hc h1 h2
      have e1 : wr.heap[R + 1]? = some (.cells #[.int .i64 0] 3 (0, 0)) := (J.bel.block _ (by omega)).trans hc
      have e2 : wr.heap[R + 1 + 1]? = some (.cells #[.slice none 0 0] 31 (0, 0)) := (J.bel.block _ (by omega)).trans h1
      go_wp2_with fail
      refine (clo1 _ _ _ _ _ _ _ _ e1 e2 (by omega)).mono ?_
      rintro e T ⟨rfl, rfl⟩
      obtain ⟨T, hT⟩ : ∃ T, T = (wr.setCell ⟨R + 1, 0, none⟩ (.int .i64 1)).setCell ⟨R + 1 + 1, 0, none⟩ (.slice (some ⟨w.heap.size, 0, none⟩) k k) := ⟨_, rfl⟩
      rw [← hT] at P
      have hR2 : T.cell? ⟨R, 0, none⟩ = some (.slice (some ⟨B, 0, none⟩) k k) := (P.bel.cell (p := ⟨R, 0, none⟩) (by simp)).trans hR
      have rd2 := rd.keep (P.bel.mono (by omega))
      simp only [← hT]
      clear hT e1 e2 J
      have K0 : J3 T T (.slice none 0 0) [] := ⟨World.ownsRow_nil _ _ _ _, Below.refl _ _⟩
      have hTR : R + 1 + 1 + 1 < T.heap.size := blk_lt P.c3
      go_wp2
      go_loopw [7, 42] (fun v i wr => ∃ m : Nat, ∃ a c, ∃ Fs : List Nat, m ≤ k ∧ i = .int .i64 m ∧ v = .slice a Fs.length c ∧ Hid (Fs = (xs.take m).flatMap (fun x => x.2.2)) ∧ J3 T wr (.slice a Fs.length c) Fs) (fun _ i _ => k - (intOf i).toNat)
      case atStart => exact ⟨0, none, 0, [], by omega, rfl, rfl, by simp [Hid], K0⟩
      case round =>
        clear K0
        obtain ⟨m, a, c, Fs, hm, rfl, rfl, HF, Q3⟩ := hrel
        have rd3 := rd2.keep (Q3.bel.mono (by omega))
        by_cases hmk : m < k
        · have hmx : m < xs.length := by omega
          have hm1 := rd3.mdl m hmx
          obtain ⟨X, hX⟩ : ∃ X, X = xs[m]'hmx := ⟨_, rfl⟩
          have hXm : X ∈ xs := by rw [hX]; exact List.getElem_mem _
          obtain ⟨hm2, hm3⟩ := rd3.own X hXm
          have HX : Hid (X = xs[m]'hmx) := hX
          rw [← hX] at hm1
          clear hX
          obtain ⟨X1, Xv, Xf⟩ := X
          simp only at hm1 hm2 hm3
          have hXl : Xf.length ≤ 1800 := by
            have h := flat_le xs m Xf.length hmx
            rw [← HX.out] at h
            simp only [List.length_append, List.take_length] at h
            have := rd.len
            omega
          obtain ⟨ao, co, rfl⟩ := owns_form hm3
          obtain ⟨W0, rfl⟩ : ∃ W0, W0 = wr := ⟨_, rfl⟩
          go_wp2
          go_loopw [7, 51] (fun v i wr => ∃ q : Nat, ∃ a c, ∃ Gs : List Nat, q ≤ Xf.length ∧ i = .int .i64 q ∧ v = .slice a Gs.length c ∧ Hid (Gs = Fs ++ Xf.take q) ∧ J3 T wr (.slice a Gs.length c) Gs) (fun _ i _ => Xf.length - (intOf i).toNat)
          case atStart => exact ⟨0, a, c, Fs, by omega, rfl, rfl, by simp [Hid], Q3⟩
          case round =>
            obtain ⟨q, a2, c2, Gs, hq, rfl, rfl, HG, Q4⟩ := hrel
            by_cases hqn : q < Xf.length
            · have hm4 : wr.ownsRow (B + 1) 38 1 (.slice ao Xf.length co) Xf.length (Xf.map fp) := ((rd2.keep (Q4.bel.mono (by omega))).own _ hXm).2
              obtain ⟨g, rfl⟩ : ∃ g, ao = some ⟨g, 0, none⟩ := by
                rcases hm4.2 with ⟨e, e0⟩ | ⟨g, cap, cur, e, _⟩
                · omega
                · simp at e; exact ⟨g, e.1⟩
              have hcq : wr.cell? ⟨g, q, none⟩ = some (fp (Xf[q])) := by
                rw [hm4.cellAt q (by omega)]
                simp [hqn]
              obtain ⟨F, hF⟩ : ∃ F, F = Xf[q] := ⟨_, rfl⟩
              have HF2 : Hid (F = Xf[q]) := hF
              rw [← hF] at hcq
              clear hF hm4
              have hle : Gs.length ≤ 1800 := by
                have := flat_le xs m q hmx
                rw [← HX.out] at this
                rw [HG.out, HF.out]
                exact Nat.le_trans this rd.len
              have hTw := Q4.bel.size
              go_wp2_with (first | (at_builtin; refine wpList_append_sep _ rfl (.tmp 55) (.tmp 58) 31 rfl T.heap.size 37 i37 .nilIface 1 16 Yba.underlying31 hi37 hz37 hs37 hb37 rfl (by decide) _ _ _ rfl (Q4.row.alloc _) ⟨wr.heap.size, 0, none⟩ 1 1 [ifc F] rfl rfl (one_new _ _ _ _ (by simp)) (one_if _) (by unfold maxLen; omega) (by omega) (by simp; omega) ?_))
              intro v1 w2 hown1 hg1 hs1
              have Q5 := Q4.step hg1 hown1
              obtain ⟨a1, c1, rfl⟩ := owns_form hown1
              clear hown1 hg1 hs1
              go_wp2
              go_roundw
              case rel => exact ⟨q + 1, a1, c1, Gs ++ [F], by omega, by go_num, by simp, by rw [Hid, HG.out, List.take_succ_eq_append_getElem hqn, HF2.out]; simp, by simpa using Q5⟩
              case measure => simp [intOf]; omega
            · go_wp2
              go_roundw
              case rel => exact ⟨m + 1, a2, c2, Gs, by omega, by go_num, rfl, by rw [Hid, flat_take xs m hmx, ← HX.out, HG.out, HF.out, List.take_of_length_le (l := Xf) (i := q) (by omega)], Q4⟩
              case measure => simp [intOf]; omega
        · have hme : Fs = xs.flatMap (fun x => x.2.2) := by rw [HF.out, List.take_of_length_le (by omega)]
          have HE : Hid (Fs = xs.flatMap (fun x => x.2.2)) := hme
          clear hme
          have p := P.keep Q3.bel
          have F9 := P.called Q3
          go_wp2_with fail
          refine (clo2 _ _ _ _ _ _ _ _ p.c1 p.c3 (by omega)).mono ?_
          rintro e U ⟨rfl, rfl⟩
          go_wp2
          go_end0
          exact ⟨rfl, by rw [← HE.out]; exact F9⟩

end Go.Proofs.Ybulkztu
