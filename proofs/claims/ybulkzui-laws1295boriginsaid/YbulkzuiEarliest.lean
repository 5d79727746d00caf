import Derived.Test.YbulkzuiMp4
import Derived.LaidEqlPtr
set_option linter.unusedVariables false
namespace Go.Proofs.Ybulkzui
open Go Go.RowKit

/-- a track as the laws make it: its block and what of it is read -/
structure Trk where
  b : Nat
  sc : Int
  sh : Int
  shown : Int
  first : Int
  seen : Bool
  un : Bool

/-- the 45 cells of a track -/
abbrev trkCells (sc sh shown first : Int) (seen un : Bool) (dur : Int) : Array Value :=
  #[.int .u32 0, .int .u32 sc, .string ⟨#[]⟩, .string ⟨#[]⟩, .slice none 0 0, .nilIface, .int .i64 0, .int .i64 0, .bool false, .int .i64 sh, .int .i64 shown, .bool un,
    .int .u32 0, .int .u32 0, .nilIface, .int .i64 0, .int .i64 0, .nilIface, .int .i64 0, .int .i64 0, .bool false, .nilIface, .int .i64 0, .int .i64 0, .nilIface, .int .i64 0, .int .i64 0,
    .nilIface, .int .i64 0, .int .i64 0, .bool false, .int .i64 0, .int .u32 0, .int .i64 0, .int .i64 0, .int .i32 0, .int .u32 0, .int .u32 0, .int .i64 0,
    .bool seen, .int .i64 first, .int .u32 dur, .int .i64 0, .int .i64 0, .int .i32 0]

structure TrkOk (W : World) (t : Trk) : Prop where
  blk : W.heap[t.b]? = some (.cells (trkCells t.sc t.sh t.shown t.first t.seen t.un 0) 85 (0, 0))
  sc0 : 0 ≤ t.sc
  sc1 : t.sc < 4294967296
  f0 : -9223372036854775808 ≤ t.first
  f1 : t.first ≤ 9223372036854775807

theorem blk_cell {w : World} {b : Nat} {cs : Array Value} {t : TypeId} (h : w.heap[b]? = some (.cells cs t (0, 0))) (j : Nat) : w.cell? ⟨b, j, none⟩ = cs[j]? := by
  simp [World.cell?, h]

/-- the time of a track's first sample; its candidate; does it count -/
def Trk.time (t : Trk) : Int := timeD t.first t.sc t.sh t.un
def Trk.held (t : Trk) : Bool := timeB t.first t.sc t.sh t.un
def cd (own : Option Nat) (t : Trk) : Int := if own = some t.b then t.time else max t.time t.shown
def counts (t : Trk) : Bool := t.seen && t.held
def step (own : Option Nat) (a : Int × Bool) (t : Trk) : Int × Bool := if counts t = true ∧ (a.2 = false ∨ cd own t < a.1) then (cd own t, true) else a
def acc (own : Option Nat) (xs : List Trk) : Int × Bool := xs.foldl (step own) (0, false)
def ownV (own : Option Nat) : Value := .pointer (own.map fun b => ⟨b, 0, none⟩)

theorem acc_snoc (own : Option Nat) (xs : List Trk) (t : Trk) : acc own (xs ++ [t]) = step own (acc own xs) t := by simp [acc]
/-- the plain law: nothing counts: 0; else the least of the candidates -/
theorem acc_law (own : Option Nat) (xs : List Trk) :
    ((acc own xs).2 = false ∧ (acc own xs).1 = 0 ∧ (xs.filter counts).map (cd own) = []) ∨
    ((acc own xs).2 = true ∧ (acc own xs).1 ∈ (xs.filter counts).map (cd own) ∧ ∀ c ∈ (xs.filter counts).map (cd own), (acc own xs).1 ≤ c) := by
  have key : ∀ (ys zs : List Trk), zs ++ ys = xs →
      (((acc own zs).2 = false ∧ (acc own zs).1 = 0 ∧ (zs.filter counts).map (cd own) = []) ∨
      ((acc own zs).2 = true ∧ (acc own zs).1 ∈ (zs.filter counts).map (cd own) ∧ ∀ c ∈ (zs.filter counts).map (cd own), (acc own zs).1 ≤ c)) →
      (((acc own xs).2 = false ∧ (acc own xs).1 = 0 ∧ (xs.filter counts).map (cd own) = []) ∨
      ((acc own xs).2 = true ∧ (acc own xs).1 ∈ (xs.filter counts).map (cd own) ∧ ∀ c ∈ (xs.filter counts).map (cd own), (acc own xs).1 ≤ c)) := by
    intro ys
    induction ys with
    | nil => intro zs hz h; simp at hz; subst hz; exact h
    | cons t ys ih =>
      intro zs hz h
      refine ih (zs ++ [t]) (by simpa using hz) ?_
      rw [acc_snoc, List.filter_append, List.map_append]
      by_cases hc : counts t = true
      · have e1 : [t].filter counts = [t] := by simp [hc]
        rw [e1]
        simp only [List.map_cons, List.map_nil]
        right
        unfold step
        rcases h with ⟨h1, h2, h3⟩ | ⟨h1, h2, h3⟩
        · rw [if_pos ⟨hc, .inl h1⟩, h3]
          exact ⟨rfl, by simp, by simp⟩
        · by_cases hl : cd own t < (acc own zs).1
          · rw [if_pos ⟨hc, .inr hl⟩]
            refine ⟨rfl, by simp, ?_⟩
            intro c hcm
            rw [List.mem_append] at hcm
            rcases hcm with hcm | hcm
            · have := h3 c hcm; show cd own t ≤ c; omega
            · simp at hcm; subst hcm; exact Int.le_refl _
          · rw [if_neg (fun h => h.2.elim (fun h => by rw [h1] at h; cases h) hl)]
            refine ⟨h1, by rw [List.mem_append]; exact .inl h2, ?_⟩
            intro c hcm
            rw [List.mem_append] at hcm
            rcases hcm with hcm | hcm
            · exact h3 c hcm
            · simp at hcm; subst hcm; omega
      · have e1 : [t].filter counts = [] := by simp [hc]
        have e2 : step own (acc own zs) t = acc own zs := by unfold step; rw [if_neg (fun h => hc h.1)]
        rw [e1, e2]
        simpa using h
  exact key xs [] rfl (.inl ⟨rfl, rfl, rfl⟩)

theorem info85 : (Yba.prog.info? 85).map (fun i => i.size) = some 45 := by kernel_rfl
theorem neq_ptr_other (W : World) (a b : Nat) {ca cb : Array Value} {ta tb : TypeId} (hne : a ≠ b) (ha : W.heap[a]? = some (.cells ca ta (0, 0))) (hb : W.heap[b]? = some (.cells cb tb (0, 0))) :
    (binOp .neq 28 (.pointer (some ⟨a, 0, none⟩)) (.pointer (some ⟨b, 0, none⟩))).run Yba.prog W = .ok (.bool true) W := by
  obtain ⟨j, hj, hsz⟩ := Option.map_eq_some_iff.1 info85
  have hne' : (⟨a, 0, none⟩ : Addr) ≠ ⟨b, 0, none⟩ := by intro h; injection h with h1 _; exact hne h1
  have h : ∀ d : Nat, (Op.equalIn (d + 1) 28 (.pointer (some ⟨a, 0, none⟩)) (.pointer (some ⟨b, 0, none⟩))).run Yba.prog W = .ok false W := fun d => by
    simp [Op.equalIn, run_underlying Yba.underlying28, sizeOf, typeInfo, hj, hsz, run_sameAddr_other W hne' ha hb]
  simp only [binOp]
  simp [Op.equal, Op.maxDepth, h 9999]
theorem neq_ptr_nil (W : World) (a : Nat) :
    (binOp .neq 28 (.pointer (some ⟨a, 0, none⟩)) (.pointer none)).run Yba.prog W = .ok (.bool true) W := by
  obtain ⟨j, hj, hsz⟩ := Option.map_eq_some_iff.1 info85
  have h : ∀ d : Nat, (Op.equalIn (d + 1) 28 (.pointer (some ⟨a, 0, none⟩)) (.pointer none)).run Yba.prog W = .ok false W := fun d => by
    simp [Op.equalIn, run_underlying Yba.underlying28]
  simp only [binOp]
  simp [Op.equal, Op.maxDepth, h 9999]
theorem neq_ptr_same (W : World) (a : Nat) :
    (binOp .neq 28 (.pointer (some ⟨a, 0, none⟩)) (.pointer (some ⟨a, 0, none⟩))).run Yba.prog W = .ok (.bool false) W := by
  obtain ⟨j, hj, hsz⟩ := Option.map_eq_some_iff.1 info85
  have h : ∀ d : Nat, (Op.equalIn (d + 1) 28 (.pointer (some ⟨a, 0, none⟩)) (.pointer (some ⟨a, 0, none⟩))).run Yba.prog W = .ok true W := fun d => by
    simp [Op.equalIn, run_underlying Yba.underlying28, sizeOf, typeInfo, hj, run_sameAddr_same]
  simp only [binOp]
  simp [Op.equal, Op.maxDepth, h 9999]


/-- the slice of tracks at block g -/
structure Trks (g : Nat) (W : World) (own : Option Nat) (xs : List Trk) : Prop where
  row : ∀ i, (h : i < xs.length) → W.cell? ⟨g, i, none⟩ = some (.pointer (some ⟨(xs[i]'h).b, 0, none⟩))
  ok : ∀ t ∈ xs, TrkOk W t
  own : ∀ b, own = some b → ∃ t ∈ xs, t.b = b
  num : xs.length ≤ 256

theorem Trks.drewN {g : Nat} {W : World} {own : Option Nat} {xs : List Trk} (h : Trks g W own xs) (k : Nat) : Trks g (W.drewN k) own xs :=
  ⟨h.row, fun t ht => ⟨(h.ok t ht).blk, (h.ok t ht).sc0, (h.ok t ht).sc1, (h.ok t ht).f0, (h.ok t ht).f1⟩, h.own, h.num⟩

/-- 't != own' -/
theorem neq_own {W : World} {g : Nat} {own : Option Nat} {xs : List Trk} (h : Trks g W own xs) (t : Trk) (ht : t ∈ xs) :
    (binOp .neq 28 (.pointer (some ⟨t.b, 0, none⟩)) (ownV own)).run Yba.prog W = .ok (.bool (decide (own ≠ some t.b))) W := by
  cases own with
  | none =>
    exact neq_ptr_nil W t.b
  | some b =>
    by_cases e : t.b = b
    · subst e
      rw [show decide (some t.b ≠ some t.b) = false by simp]
      exact neq_ptr_same W t.b
    · obtain ⟨t2, ht2, rfl⟩ := h.own b rfl
      rw [show decide (some t2.b ≠ some t.b) = true by simp; omega]
      exact neq_ptr_other W t.b t2.b e (h.ok t ht).blk (h.ok t2 ht2).blk

theorem step_no (own : Option Nat) (A : Int × Bool) (t : Trk) (h : ¬ (counts t = true ∧ (A.2 = false ∨ cd own t < A.1))) : step own A t = A := by unfold step; rw [if_neg h]
theorem step_yes (own : Option Nat) (A : Int × Bool) (t : Trk) (h : counts t = true ∧ (A.2 = false ∨ cd own t < A.1)) : step own A t = (cd own t, true) := by unfold step; rw [if_pos h]

set_option maxRecDepth 10000 in
set_option maxHeartbeats 4000000 in
theorem earliest_any (R g n : Nat) (own : Option Nat) (xs : List Trk) (W : World) (hn : xs.length = n) (T : Trks g W own xs) (c0 : W.cell? ⟨R, 0, none⟩ = some (.slice (some ⟨g, 0, none⟩) n n)) :
    Calls Yba.prog 17 #[.pointer (some ⟨R, 0, none⟩), ownV own] W fun e w' => e = .returned (.tuple #[.int .i64 (acc own xs).1, .bool (acc own xs).2]) ∧ ∃ k, w' = W.drewN k := by
  have hnum := T.num
  rw [hn] at hnum
  obtain ⟨ov, hov⟩ : ∃ ov, ov = ownV own := ⟨_, rfl⟩
  rw [← hov]
  go_enter Yba.func17, Yba.ntmps17
  go_wp2
  go_loopw [6, 7, 9, 10, 11, 17] (fun v6 v7 _ _ _ i wr => ∃ j k : Nat, j ≤ n ∧ i = .int .i64 j ∧ v6 = .int .i64 (acc own (xs.take j)).1 ∧ v7 = .bool (acc own (xs.take j)).2 ∧ wr = W.drewN k) (fun _ _ _ _ _ i _ => n - (intOf i).toNat)
  case atStart => exact ⟨0, 0, by omega, rfl, rfl, rfl, rfl⟩
  case round =>
    obtain ⟨j, k, hj, rfl, rfl, rfl, rfl⟩ := hrel
    by_cases hjn : j < n
    · have hjx : j < xs.length := by omega
      obtain ⟨t, ht⟩ : ∃ t, t = xs[j]'hjx := ⟨_, rfl⟩
      have htm : t ∈ xs := by rw [ht]; exact List.getElem_mem _
      have hr := T.row j hjx
      rw [← ht] at hr
      have hsn : acc own (xs.take (j + 1)) = step own (acc own (xs.take j)) t := by
        rw [List.take_succ_eq_append_getElem hjx, acc_snoc, ht]
      have HS : Hid (acc own (xs.take (j + 1)) = step own (acc own (xs.take j)) t) := hsn
      have tk := T.ok t htm
      have b1 : W.cell? ⟨t.b, 1, none⟩ = some (.int .u32 t.sc) := by rw [blk_cell tk.blk]; rfl
      have b9 : W.cell? ⟨t.b, 9, none⟩ = some (.int .i64 t.sh) := by rw [blk_cell tk.blk]; rfl
      have b10 : W.cell? ⟨t.b, 10, none⟩ = some (.int .i64 t.shown) := by rw [blk_cell tk.blk]; rfl
      have b11 : W.cell? ⟨t.b, 11, none⟩ = some (.bool t.un) := by rw [blk_cell tk.blk]; rfl
      have b39 : W.cell? ⟨t.b, 39, none⟩ = some (.bool t.seen) := by rw [blk_cell tk.blk]; rfl
      have b40 : W.cell? ⟨t.b, 40, none⟩ = some (.int .i64 t.first) := by rw [blk_cell tk.blk]; rfl
      have nq := fun k => neq_own (T.drewN k) t htm
      rw [← hov] at nq
      obtain ⟨A, hA⟩ : ∃ A, A = acc own (xs.take j) := ⟨_, rfl⟩
      rw [← hA]
      have HA : Hid (A = acc own (xs.take j)) := hA
      obtain ⟨a1, a2⟩ := A
      clear hA hsn ht
      have TM := fun k => time_any t.b t.first t.sc t.sh t.un (W.drewN k) tk.f0 tk.f1 tk.sc0 tk.sc1 b1 b9 b11
      obtain ⟨tm, etm⟩ : ∃ x, x = t.time := ⟨_, rfl⟩
      obtain ⟨hd, ehd⟩ : ∃ x, x = t.held := ⟨_, rfl⟩
      obtain ⟨sn, esn⟩ : ∃ x, x = t.seen := ⟨_, rfl⟩
      obtain ⟨q, eq⟩ : ∃ x, x = decide (own ≠ some t.b) := ⟨_, rfl⟩
      obtain ⟨d, ed⟩ : ∃ x, x = cd own t := ⟨_, rfl⟩
      have e1 : timeD t.first t.sc t.sh t.un = tm := etm.symm
      have e2 : timeB t.first t.sc t.sh t.un = hd := ehd.symm
      simp only [e1, e2] at TM
      rw [← esn] at b39
      simp only [← eq] at nq
      have hcd : d = if q = true then max tm t.shown else tm := by
        rw [ed, eq, etm]; unfold cd
        by_cases h : own = some t.b <;> simp [h]
      have hct : counts t = (sn && hd) := by unfold counts; rw [esn, ehd]
      have HC : Hid (counts t = (sn && hd)) := hct
      have HD : Hid (d = cd own t) := ed
      clear e1 e2 etm ehd esn eq ed hct hov hn T tk
      have fin : ∀ (x : Int) (y : Bool), (x, y) = step own (a1, a2) t → (x = (acc own (xs.take (j + 1))).1 ∧ y = (acc own (xs.take (j + 1))).2) := by
        intro x y h
        rw [HS.out, ← HA.out, ← h]
        exact ⟨rfl, rfl⟩
      have HF : Hid (∀ (x : Int) (y : Bool), (x, y) = step own (a1, a2) t → (x = (acc own (xs.take (j + 1))).1 ∧ y = (acc own (xs.take (j + 1))).2)) := fin
      clear fin HS HA
      have no : ∀ (h : ¬ ((sn && hd) = true ∧ (a2 = false ∨ d < a1))), a1 = (acc own (xs.take (j + 1))).1 ∧ a2 = (acc own (xs.take (j + 1))).2 := by
        intro h
        refine HF.out a1 a2 (step_no own (a1, a2) t ?_).symm
        rw [HC.out, ← HD.out]
        exact h
      have yes : ∀ (h : (sn && hd) = true ∧ (a2 = false ∨ d < a1)), d = (acc own (xs.take (j + 1))).1 ∧ true = (acc own (xs.take (j + 1))).2 := by
        intro h
        refine HF.out d true ?_
        rw [HD.out]
        refine (step_yes own (a1, a2) t ?_).symm
        rw [HC.out, ← HD.out]
        exact h
      have NO : Hid _ := no
      have YES : Hid _ := yes
      clear no yes HF HC HD
      simp only
      cases q with
      | true =>
        have HE : Hid (d = max tm t.shown) := hcd
        clear hcd
        cases sn with
        | false =>
          have HR : Hid _ := NO.out (by simp)
          clear NO YES
          go_wp2_with (go_at_call 13; refine (TM _).mono ?_; rintro e w' ⟨rfl, k2, rfl⟩)
          go_roundw
          case rel => exact ⟨j + 1, _, by omega, by go_num, by rw [HR.out.1], by rw [HR.out.2], rfl⟩
          case measure => simp [intOf]; omega
        | true =>
          cases hd with
          | false =>
            have HR : Hid _ := NO.out (by simp)
            clear NO YES
            go_wp2_with (go_at_call 13; refine (TM _).mono ?_; rintro e w' ⟨rfl, k2, rfl⟩)
            go_roundw
            case rel => exact ⟨j + 1, _, by omega, by go_num, by rw [HR.out.1], by rw [HR.out.2], rfl⟩
            case measure => simp [intOf]; omega
          | true =>
            cases a2 with
            | false =>
              have HR : Hid _ := YES.out (by simp)
              clear NO YES
              go_wp2_with (go_at_call 13; refine (TM _).mono ?_; rintro e w' ⟨rfl, k2, rfl⟩)
              go_roundw
              case rel => exact ⟨j + 1, _, by omega, by go_num, by rw [← HR.out.1, HE.out], by rw [← HR.out.2], rfl⟩
              case measure => simp [intOf]; omega
            | true =>
              by_cases hl : d < a1
              · have HR : Hid _ := YES.out ⟨rfl, .inr hl⟩
                rw [HE.out] at hl
                clear NO YES
                go_wp2_with (go_at_call 13; refine (TM _).mono ?_; rintro e w' ⟨rfl, k2, rfl⟩)
                go_roundw
                case rel => exact ⟨j + 1, _, by omega, by go_num, by rw [← HR.out.1, HE.out], by rw [← HR.out.2], rfl⟩
                case measure => simp [intOf]; omega
              · have HR : Hid _ := NO.out (by simp; omega)
                rw [HE.out] at hl
                clear NO YES
                go_wp2_with (go_at_call 13; refine (TM _).mono ?_; rintro e w' ⟨rfl, k2, rfl⟩)
                go_roundw
                case rel => exact ⟨j + 1, _, by omega, by go_num, by rw [HR.out.1], by rw [HR.out.2], rfl⟩
                case measure => simp [intOf]; omega
      | false =>
        have HE : Hid (d = tm) := hcd
        clear hcd
        cases sn with
        | false =>
          have HR : Hid _ := NO.out (by simp)
          clear NO YES
          go_wp2_with (go_at_call 13; refine (TM _).mono ?_; rintro e w' ⟨rfl, k2, rfl⟩)
          go_roundw
          case rel => exact ⟨j + 1, _, by omega, by go_num, by rw [HR.out.1], by rw [HR.out.2], rfl⟩
          case measure => simp [intOf]; omega
        | true =>
          cases hd with
          | false =>
            have HR : Hid _ := NO.out (by simp)
            clear NO YES
            go_wp2_with (go_at_call 13; refine (TM _).mono ?_; rintro e w' ⟨rfl, k2, rfl⟩)
            go_roundw
            case rel => exact ⟨j + 1, _, by omega, by go_num, by rw [HR.out.1], by rw [HR.out.2], rfl⟩
            case measure => simp [intOf]; omega
          | true =>
            cases a2 with
            | false =>
              have HR : Hid _ := YES.out (by simp)
              clear NO YES
              go_wp2_with (go_at_call 13; refine (TM _).mono ?_; rintro e w' ⟨rfl, k2, rfl⟩)
              go_roundw
              case rel => exact ⟨j + 1, _, by omega, by go_num, by rw [← HR.out.1, HE.out], by rw [← HR.out.2], rfl⟩
              case measure => simp [intOf]; omega
            | true =>
              by_cases hl : d < a1
              · have HR : Hid _ := YES.out ⟨rfl, .inr hl⟩
                rw [HE.out] at hl
                clear NO YES
                go_wp2_with (go_at_call 13; refine (TM _).mono ?_; rintro e w' ⟨rfl, k2, rfl⟩)
                go_roundw
                case rel => exact ⟨j + 1, _, by omega, by go_num, by rw [← HR.out.1, HE.out], by rw [← HR.out.2], rfl⟩
                case measure => simp [intOf]; omega
              · have HR : Hid _ := NO.out (by simp; omega)
                rw [HE.out] at hl
                clear NO YES
                go_wp2_with (go_at_call 13; refine (TM _).mono ?_; rintro e w' ⟨rfl, k2, rfl⟩)
                go_roundw
                case rel => exact ⟨j + 1, _, by omega, by go_num, by rw [HR.out.1], by rw [HR.out.2], rfl⟩
                case measure => simp [intOf]; omega
    · go_wp2
      go_ret2
      exact ⟨ret_ib (by rw [List.take_of_length_le (by omega)]) (by rw [List.take_of_length_le (by omega)]), _, rfl⟩
end Go.Proofs.Ybulkzui
