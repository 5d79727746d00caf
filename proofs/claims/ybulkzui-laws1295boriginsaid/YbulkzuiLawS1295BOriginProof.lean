import Derived.Test.YbulkzuiOrigin
import Derived.WalkKit
import Derived.ProofKit
import Derived.OpenShut
import Derived.ShutString
import Derived.ChangeOld
import Derived.Below
import Derived.Deep.Slices
namespace Go.Proofs.Ybulkzui.lawS1295BOrigin
open Go.ChangeShapes Go.WideShapes Go.ChangeAt Go.RowKit
open Go.ChangeMaps (open_string shut_string)
set_option linter.unusedVariables false

theorem own : ownKnob Yba.prog.godebug = none := by kernel_rfl
theorem laidOut : laidOutB Yba.prog = true := by kernel_rfl
theorem cells95 : Yba.prog.cellsOf 95 = 6 := by kernel_rfl
theorem cells22 : Yba.prog.cellsOf 22 = 1 := by kernel_rfl
theorem cells2 : Yba.prog.cellsOf 2 = 1 := by kernel_rfl
theorem cells4 : Yba.prog.cellsOf 4 = 1 := by kernel_rfl

theorem six {cs : List Value} (h : cs.length = 6) : ∃ c0 c1 c2 c3 c4 c5, cs = [c0, c1, c2, c3, c4, c5] := by
  match cs, h with
  | [c0, c1, c2, c3, c4, c5], _ => exact ⟨c0, c1, c2, c3, c4, c5, rfl⟩
theorem some_of {α : Type} {xs : List α} {n i : Nat} (h : xs.length = n) (hi : i < n) : ∃ x, xs[i]? = some x := ⟨xs[i]'(by omega), List.getElem?_eq_getElem (by omega)⟩

theorem spot_of {W : World} {a : Addr} {cs : List Value} (hc : W.cells? 0 (a.add (0 * 6)) 6 = some cs) : a.spot = none := by
  obtain ⟨_, hlen, hcell⟩ := World.cells?_some hc
  obtain ⟨x, e⟩ := some_of (i := 0) hlen (by omega)
  have := World.cell?_spot ((hcell 0 (by omega)).trans e)
  simpa [Addr.add] using this

set_option maxRecDepth 10000 in
/-- one element of the slice, out of its reading -/
theorem elem_of {H : Type} {enc : TypeId × Value → H} {W : World} {spare : Nat → Bool} {held : Bool} {n : Nat} {a : Addr} {i : Nat} {cs : List Value} {x : DataW H × List MemPlace}
    (hsp : a.spot = none) (hc : W.cells? 0 (a.add (i * 6)) 6 = some cs) (ht : DataW.trod enc Yba.prog W 0 spare held n 95 cs = some x) :
    ∃ sc sh shown first seen un, Elem W (some a) i sc sh shown first seen un := by
  obtain ⟨xs, m, _, _, _, hxl, hf⟩ := DataW.trod_struct Yba.underlying95 ht
  obtain ⟨_, hlen, hcell⟩ := World.cells?_some hc
  obtain ⟨c0, c1, c2, c3, c4, c5, rfl⟩ := six hlen
  have hxl' : xs.length = 6 := hxl
  obtain ⟨x0, e0⟩ := some_of (i := 0) hxl' (by omega)
  obtain ⟨x1, e1⟩ := some_of (i := 1) hxl' (by omega)
  obtain ⟨x2, e2⟩ := some_of (i := 2) hxl' (by omega)
  obtain ⟨x3, e3⟩ := some_of (i := 3) hxl' (by omega)
  obtain ⟨x4, e4⟩ := some_of (i := 4) hxl' (by omega)
  obtain ⟨x5, e5⟩ := some_of (i := 5) hxl' (by omega)
  have g0 : DataW.trod enc Yba.prog W 0 spare held m 22 (List.take (Yba.prog.cellsOf 22) (List.drop 0 [c0, c1, c2, c3, c4, c5])) = some x0 := (hf 0 _ rfl).trans e0
  have g1 : DataW.trod enc Yba.prog W 0 spare held m 2 (List.take (Yba.prog.cellsOf 2) (List.drop 1 [c0, c1, c2, c3, c4, c5])) = some x1 := (hf 1 _ rfl).trans e1
  have g2 : DataW.trod enc Yba.prog W 0 spare held m 2 (List.take (Yba.prog.cellsOf 2) (List.drop 2 [c0, c1, c2, c3, c4, c5])) = some x2 := (hf 2 _ rfl).trans e2
  have g3 : DataW.trod enc Yba.prog W 0 spare held m 4 (List.take (Yba.prog.cellsOf 4) (List.drop 3 [c0, c1, c2, c3, c4, c5])) = some x3 := (hf 3 _ rfl).trans e3
  have g4 : DataW.trod enc Yba.prog W 0 spare held m 2 (List.take (Yba.prog.cellsOf 2) (List.drop 4 [c0, c1, c2, c3, c4, c5])) = some x4 := (hf 4 _ rfl).trans e4
  have g5 : DataW.trod enc Yba.prog W 0 spare held m 4 (List.take (Yba.prog.cellsOf 4) (List.drop 5 [c0, c1, c2, c3, c4, c5])) = some x5 := (hf 5 _ rfl).trans e5
  rw [cells22] at g0
  rw [cells2] at g1 g2 g4
  rw [cells4] at g3 g5
  obtain ⟨sc, q0, _, w0⟩ := DataW.trod_int Yba.underlying22 g0
  obtain ⟨sh, q1, _, w1⟩ := DataW.trod_int Yba.underlying2 g1
  obtain ⟨shown, q2, _, w2⟩ := DataW.trod_int Yba.underlying2 g2
  obtain ⟨seen, q3, _⟩ := DataW.trod_bool Yba.underlying4 g3
  obtain ⟨first, q4, _, w4⟩ := DataW.trod_int Yba.underlying2 g4
  obtain ⟨un, q5, _⟩ := DataW.trod_bool Yba.underlying4 g5
  simp only [List.drop_zero, List.drop_succ_cons, List.take_succ_cons, List.take_zero, List.cons.injEq, and_true] at q0 q1 q2 q3 q4 q5
  subst q0 q1 q2 q3 q4 q5
  have k0 := hcell 0 (by omega)
  have k1 := hcell 1 (by omega)
  have k2 := hcell 2 (by omega)
  have k3 := hcell 3 (by omega)
  have k4 := hcell 4 (by omega)
  have k5 := hcell 5 (by omega)
  simp only [Addr.add_add, List.getElem?_cons_zero, List.getElem?_cons_succ] at k0 k1 k2 k3 k4 k5
  obtain ⟨b, off, spot⟩ := a
  have hspot : spot = none := hsp
  subst hspot
  simp only [Addr.add_lit] at k0 k1 k2 k3 k4 k5
  have bs := bounds_u32 w0
  have bf := bounds_i64 w4
  exact ⟨sc, sh, shown, first, seen, un, ⟨b, off, rfl, k0, k1, k2, k3, k4, k5⟩, bs.1, by omega, bf.1, bf.2⟩

/-! ### THE WALK -/
set_option maxRecDepth 10000 in
theorem walk (a0 : Option Addr) (len0 cap0 : Nat) (o pre : Int) (w : World) (w1 : (Lit.int .u8 o).wf = true) (hm : len0 ≤ maxLen)
    (hrow : ∀ i, i < len0 → ∃ sc sh shown first seen un, Elem w a0 i sc sh shown first seen un) :
    Calls Yba.prog 5 #[.slice a0 len0 cap0, .int .u8 o, .int .i64 pre] w fun e w' => e = .returned (.bool true) ∧ Below w.heap.size w w' := by
  have ⟨h0, h1⟩ : 0 ≤ o ∧ o ≤ 255 := bounds_u8 w1
  by_cases hn : len0 ≤ 256
  · exact origin_any a0 len0 cap0 o pre w hn h0 h1 hrow
  · unfold maxLen at hm
    clear hrow w1
    have hn' : 256 < len0 := by omega
    go_enter Yba.func5, Yba.ntmps5
    go_wp2
    go_ret
    exact ⟨rfl, Below.refl _ _⟩

/-! ### THE ROW's STEP -/
set_option maxRecDepth 100000 in
theorem lifted (os : Os) (started : os.Started) (H : Type) (enc : TypeId × Value → H) :
    ReturnsInHanded {} Yba.checked os 5 .any (Rows.lawS1295BOriginSpec.pre6 enc Yba.prog Yba.f5 Rows.lawS1295BOriginRow.domain false) (Rows.lawS1295BOriginSpec.post enc Yba.prog Yba.f5 false true false false) := by
  refine returnsInHanded_of_change (C := Yba.checked) own started (by kernel_rfl) Yba.func5
    (ChangeSpec.witness6 (enc := enc) (C := Yba.checked) false ⟨#[], #[.slice none 0 0, .int .u8 0, .int .i64 0], []⟩ 8 (by kernel_rfl) (by kernel_rfl) (by kernel_rfl) (by kernel_rfl)) ?_
  intro W base args ds gs before hval0 hW hcnd _
  have hval : ∀ (j : Nat) t v, Yba.f5.params[j]? = some t → args[j]? = some v → Value.okWide Yba.prog W .any base t v := hval0
  have hW' := hW
  obtain ⟨p, q, hA0, hV, rfl, hfz, hnd⟩ := hW
  have hA : DataW.TrodAll enc Yba.prog W 0 (fun _ => true) true Yba.f5.params.toList args.toList ds p := hA0
  rw [Yba.params5] at hA hval
  obtain ⟨v0, vs0, d0, ds0, p0, q0, hargs, rfl, rfl, h0, r0⟩ := trodAll_cons hA
  obtain ⟨v1, vs1, d1, ds1, p1, q1, rfl, rfl, rfl, h1, r1⟩ := trodAll_cons r0
  obtain ⟨v2, vs2, d2, ds2, p2, q2, rfl, rfl, rfl, h2, r2⟩ := trodAll_cons r1
  obtain ⟨rfl, rfl, rfl⟩ := trodAll_nil r2
  obtain rfl : args = #[v0, v1, v2] := by cases args; simp_all
  obtain ⟨rfl, rfl⟩ := trodVars_none hV
  obtain ⟨a0, len0, cap0, rfl⟩ := okWide_slice Yba.underlying93 (hval 0 93 v0 rfl rfl)
  obtain ⟨a1, rfl, rfl, rfl, w1⟩ := open_int Yba.underlying5 (hval 1 5 v1 rfl rfl) h1
  obtain ⟨a2, rfl, rfl, rfl, w2⟩ := open_int Yba.underlying2 (hval 2 2 v2 rfl rfl) h2
  have k0 := h0
  have lt0 : ∀ x ∈ p0, x.block < W.heap.size := by obtain ⟨m, hm⟩ := k0; exact DataW.trod_lt m _ _ _ hm
  obtain ⟨hm, hrow⟩ : len0 ≤ maxLen ∧ ∀ i, i < len0 → ∃ sc sh shown first seen un, Elem W a0 i sc sh shown first seen un := by
    obtain ⟨fuel, hf⟩ := h0
    rcases Deep.open_slice Yba.underlying93 hf with ⟨hcs, _⟩ | ⟨x, l, c, m, nn, D, Pl, hcs, _, hl, hm, hmd, _, hel⟩
    · simp [Value.cells] at hcs
      obtain ⟨rfl, rfl, rfl⟩ := hcs
      exact ⟨Nat.zero_le _, fun i hi => absurd hi (Nat.not_lt_zero _)⟩
    · simp [Value.cells] at hcs
      obtain ⟨rfl, rfl, rfl⟩ := hcs
      refine ⟨Nat.le_trans hl hm, fun i hi => ?_⟩
      simp only [if_true] at hmd
      obtain ⟨cs0, hc0, _⟩ := hel 0 (by omega)
      obtain ⟨cs', hc, ht⟩ := hel i (by omega)
      rw [cells95] at hc hc0
      refine elem_of (spot_of hc0) hc ht
  clear hA0 hval0
  refine (walk a0 len0 cap0 a1 a2 W w1 hm hrow).mono fun e W' ⟨he, bel⟩ => ?_
  subst he
  exact ⟨_, rfl, _, _, _, [], _, [], hW', trodAll_mk1 (shut_bool Yba.underlying4 _), (trodAll_cons_mk (Below.trod laidOut (by kernel_rfl) (of_decide_eq_true (by kernel_rfl)) k0 bel lt0) (trodAll_cons_mk (shut_int Yba.underlying5 w1) (trodAll_cons_mk (shut_int Yba.underlying2 w2) trodAll_mk0))), rfl, bel.frame _, fun h => by cases h⟩

theorem over : Rows.lawS1295BOriginRow.holds Yba.pinned (OpenSpec.ofChange Rows.lawS1295BOriginSpec) :=
  OpenClaim.holds_of_wide 5 Yba.f5 rfl rfl rfl rfl rfl rfl rfl ⟨rfl, rfl, rfl, rfl, rfl⟩ rfl rfl rfl rfl rfl (by kernel_rfl) Yba.func5 (by kernel_rfl)
    (of_decide_eq_true (by kernel_rfl)) (by unfold Func.isWrapper; first | (rw [if_pos (by decide +kernel)]; kernel_rfl) | (rw [if_neg (by decide +kernel)]; exact ⟨rfl, rfl⟩))
    (fun os started H enc _ => lifted os started H enc)

/-- ████ THE STATEMENT ████ -/
theorem proved : Rows.LawS1295BOriginSaid := over
#print axioms proved
end Go.Proofs.Ybulkzui.lawS1295BOrigin
