import Derived.Test.YbulkztuSets
import Derived.Lib.Builder
namespace Go.Proofs.Ybulkztu
open Go Go.RowKit

theorem I1.rd {B n : Nat} {w w1 : World} {vw : Value} {xs : List (Nat × Value × List Nat)} {all : List Nat} (I : I1 B n w w1 vw xs all) (hxs : xs.length = n) (hn : n ≤ 256) : Rd B w1.heap.size w1 xs := by
  refine ⟨fun i hi => ?_, fun x hx => (I.dn x hx).safe.2.1, fun x hx => ⟨(I.dn x hx).blk, (I.dn x hx).own⟩, fun x hx g hg => ((I.dn x hx).safe2 g hg).2.1, I.lt, ?_, by omega⟩
  · rw [I.mod.cellAt i (by omega), List.getElem?_append_left (by simpa using hi)]
    simp [hi]
  · rw [← I.eq]; have := I.len; omega

/-- the law's own reads, behind WalkSets -/
structure Rl (B R n : Nat) (w w' : World) (vw : Value) (xs : List (Nat × Value × List Nat)) (all : List Nat) : Prop where
  bel : Below B w w'
  len : all.length ≤ 7 * 256
  mdl : ∀ i, (h : i < xs.length) → w'.cell? ⟨B, i, none⟩ = some (fp (xs[i]'h).1)
  wnt : w'.ownsRow (B + 1) 38 1 vw all.length (all.map fp)
  c1 : w'.cell? ⟨R + 1, 0, none⟩ = some (.int .i64 2)
  c2 : ∃ M, w'.cell? ⟨R + 1 + 1, 0, none⟩ = some (.slice (some ⟨M, 0, none⟩) n n) ∧ ∀ i, (h : i < xs.length) → i < n → w'.cell? ⟨M, i, none⟩ = some (im (xs[i]'h).1)
  c3 : ∃ a cp, w'.cell? ⟨R + 1 + 1 + 1, 0, none⟩ = some (.slice a all.length cp) ∧ w'.ownsRow (R + 1) 37 1 (.slice a all.length cp) all.length (all.map ifc)

theorem Fin.rl {B n : Nat} {w w1 W W' : World} {vw : Value} {xs : List (Nat × Value × List Nat)} {all : List Nat} (I : I1 B n w w1 vw xs all) (hxs : xs.length = n) (hn : n ≤ 256)
    (hW : Below w1.heap.size w1 W) (f : Fin w1.heap.size n W W' xs (xs.flatMap (fun x => x.2.2))) : Rl B w1.heap.size n w W' vw xs all := by
  have hb : Below w1.heap.size w1 W' := hW.trans (f.bel.mono (by omega))
  have hB := I.lt
  rw [← I.eq] at f
  refine ⟨I.bel.trans (hb.mono (by omega)), by have := I.len; omega, ((I.rd hxs hn).keep hb).mdl, ?_, f.c1, f.c2, f.c3⟩
  exact I.wnt.kept (row := none) ⟨hb.os, hb.tape, hb.output, hb.size, fun k hk _ => hb.block k hk⟩ (by cases h : vw.ownBlock <;> simp)

theorem assert34 (W : World) (v : Value) : (Instr.typeAssert (.iface 34 v) 37 34 true).run Yba.prog W = .ok (.tuple #[v, .bool true]) W := by kernel_rfl
theorem assert38 (W : World) (v : Value) : (Instr.typeAssert (.iface 38 v) 37 38 true).run Yba.prog W = .ok (.tuple #[v, .bool true]) W := by kernel_rfl

theorem info46 : (Yba.prog.info? 46).isSome = true := by kernel_rfl
theorem info50 : (Yba.prog.info? 50).isSome = true := by kernel_rfl
theorem neq34 (W : World) (a : Addr) : (binOp .neq 34 (.pointer (some a)) (.pointer (some a))).run Yba.prog W = .ok (.bool false) W := by
  obtain ⟨j, hj⟩ := Option.isSome_iff_exists.1 info46
  exact Lib.run_neq_ptr_same W a Yba.underlying34 hj
theorem neq38 (W : World) (a : Addr) : (binOp .neq 38 (.pointer (some a)) (.pointer (some a))).run Yba.prog W = .ok (.bool false) W := by
  obtain ⟨j, hj⟩ := Option.isSome_iff_exists.1 info50
  exact Lib.run_neq_ptr_same W a Yba.underlying38 hj

set_option maxRecDepth 10000 in
set_option maxHeartbeats 2000000 in
theorem law_any (a0 : Option Addr) (n cap : Nat) (w : World) (hn : n ≤ 256)
    (hrow : ∀ i, i < n → ∃ x c, a0 = some x ∧ w.cell? (x.add i) = some (.int .u8 c) ∧ 0 ≤ c ∧ c ≤ 255) :
    Calls Yba.prog 3 #[.slice a0 n cap] w fun e w' => e = .returned (.bool true) ∧ Below w.heap.size w w' := by
  go_enter Yba.func3, Yba.ntmps3
  go_wp2_with (first | (go_at_call 5; refine (build_any a0 n cap _ hn hrow).mono ?_; rintro e w1 ⟨av, cv, xs, all, hxs, rfl, I⟩))
  obtain ⟨W, hWd⟩ : ∃ W, W = (((w1.alloc (.cells #[.slice (some ⟨w.heap.size, 0, none⟩) n n, .map none] 30)).alloc (.cells #[.int .i64 0] 3)).alloc (.cells #[.slice none 0 0] 31)).alloc (.cells #[.slice none 0 0] 31) := ⟨_, rfl⟩
  have hW : Below w1.heap.size w1 W := by
    rw [hWd]; exact ((((Below.refl _ _).alloc (Nat.le_refl _) _).alloc (by rw [World.size_alloc]; omega) _).alloc (by rw [World.size_alloc, World.size_alloc]; omega) _).alloc (by rw [World.size_alloc, World.size_alloc, World.size_alloc]; omega) _
  have hR : W.cell? ⟨w1.heap.size, 0, none⟩ = some (.slice (some ⟨w.heap.size, 0, none⟩) n n) := by
    have hb : W.heap[w1.heap.size]? = some (.cells #[.slice (some ⟨w.heap.size, 0, none⟩) n n, .map none] 30 (0, 0)) := by
      rw [hWd, Below.heap_alloc _ _ _ (by simp; omega), Below.heap_alloc _ _ _ (by simp; omega), Below.heap_alloc _ _ _ (by simp)]
      exact heap_alloc_new _ _
    rw [blk_cell hb]; rfl
  have h0 : W.heap[w1.heap.size + 1]? = some (.cells #[.int .i64 0] 3 (0, 0)) := by
    rw [hWd, Below.heap_alloc _ _ _ (by simp), Below.heap_alloc _ _ _ (by simp)]
    have := heap_alloc_new (w1.alloc (.cells #[.slice (some ⟨w.heap.size, 0, none⟩) n n, .map none] 30)) (.cells #[.int .i64 0] 3)
    simpa using this
  have h1 : W.heap[w1.heap.size + 1 + 1]? = some (.cells #[.slice none 0 0] 31 (0, 0)) := by
    rw [hWd, Below.heap_alloc _ _ _ (by simp)]
    have := heap_alloc_new ((w1.alloc (.cells #[.slice (some ⟨w.heap.size, 0, none⟩) n n, .map none] 30)).alloc (.cells #[.int .i64 0] 3)) (.cells #[.slice none 0 0] 31)
    simpa using this
  have h2 : W.heap[w1.heap.size + 1 + 1 + 1]? = some (.cells #[.slice none 0 0] 31 (0, 0)) := by
    rw [hWd]
    have := heap_alloc_new (((w1.alloc (.cells #[.slice (some ⟨w.heap.size, 0, none⟩) n n, .map none] 30)).alloc (.cells #[.int .i64 0] 3)).alloc (.cells #[.slice none 0 0] 31)) (.cells #[.slice none 0 0] 31)
    simpa using this
  rw [← hWd]
  refine (sets_any w.heap.size w1.heap.size n W xs hxs ((I.rd hxs hn).keep hW) hR h0 h1 h2).mono ?_
  rintro e W' ⟨rfl, f⟩
  have rl := Fin.rl I hxs hn hW f
  clear hWd hW hR h0 h1 h2 f I
  obtain ⟨M, c2, c2'⟩ := rl.c2
  obtain ⟨aa, cs, c3, c3'⟩ := rl.c3
  have c1 := rl.c1
  have hal : all.length ≤ 1800 := by
    have := rl.len
    omega
  go_wp2
  go_loop [9] (fun i => ∃ k : Nat, k ≤ n ∧ i = .int .i64 k) (fun i => n - (intOf i).toNat)
  case atStart => exact ⟨0, by omega, rfl⟩
  case round =>
    obtain ⟨k, hk, rfl⟩ := hrel
    by_cases hkn : k < n
    · have hkx : k < xs.length := by omega
      have m1 := rl.mdl k hkx
      have m2 := c2' k hkx hkn
      obtain ⟨X, hX⟩ : ∃ X, X = (xs[k]'hkx).1 := ⟨_, rfl⟩
      rw [← hX] at m1 m2
      clear hX
      have as34 := assert34
      have ne34 := neq34
      clear c2'
      go_wp2
      go_round
      case rel => exact ⟨k + 1, by omega, by go_num⟩
      case measure => simp [intOf]; omega
    · go_wp2
      go_loop [12] (fun i => ∃ k : Nat, k ≤ all.length ∧ i = .int .i64 k) (fun i => all.length - (intOf i).toNat)
      case atStart => exact ⟨0, by omega, rfl⟩
      case round =>
        obtain ⟨q, hq, rfl⟩ := hrel
        by_cases hqn : q < all.length
        · have hw := rl.wnt
          obtain ⟨g, rfl⟩ : ∃ g, av = some ⟨g, 0, none⟩ := by
            rcases hw.2 with ⟨e, e0⟩ | ⟨g, cap, cur, e, _⟩
            · omega
            · simp at e; exact ⟨g, e.1⟩
          obtain ⟨g2, rfl⟩ : ∃ g, aa = some ⟨g, 0, none⟩ := by
            rcases c3'.2 with ⟨e, e0⟩ | ⟨g, cap, cur, e, _⟩
            · omega
            · simp at e; exact ⟨g, e.1⟩
          have m1 : W'.cell? ⟨g, q, none⟩ = some (fp (all[q])) := by
            rw [hw.cellAt q (by omega)]; simp [hqn]
          have m2 : W'.cell? ⟨g2, q, none⟩ = some (ifc (all[q])) := by
            rw [c3'.cellAt q (by omega)]; simp [hqn]
          obtain ⟨X, hX⟩ : ∃ X, X = all[q] := ⟨_, rfl⟩
          rw [← hX] at m1 m2
          clear hX hw
          have as38 := assert38
          have ne38 := neq38
          go_wp2
          go_round
          case rel => exact ⟨q + 1, by omega, by go_num⟩
          case measure => simp [intOf]; omega
        · go_wp2
          go_ret
          exact ⟨rfl, rl.bel⟩
end Go.Proofs.Ybulkztu
