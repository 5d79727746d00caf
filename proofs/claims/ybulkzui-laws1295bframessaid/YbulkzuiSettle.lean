import Derived.Test.YbulkzuiMp4
set_option linter.unusedVariables false
namespace Go.Proofs.Ybulkzui
open Go Go.RowKit

theorem grown_trans {a b c : World} {r s : Option Nat} (h : a.grownBy b r) (k : b.grownBy c s) (hs : ∀ g, s = some g → r = some g ∨ a.heap.size ≤ g) : a.grownBy c r :=
  ⟨k.os.trans h.os, k.tape.trans h.tape, k.output.trans h.output, Nat.le_trans h.size k.size,
   fun i hi hr => (k.block i (Nat.lt_of_lt_of_le hi h.size) (fun e => by
     rcases hs i e.symm with h1 | h1
     · exact hr h1.symm
     · omega)).trans (h.block i hi hr)⟩

/-- a row of values with one of them turned -/
def upd (f : Nat → Value) (j : Nat) (v : Value) : Nat → Value := fun i => if i = j then v else f i
theorem upd_same (f : Nat → Value) (j : Nat) (v : Value) : upd f j v j = v := by simp [upd]
theorem upd_ne (f : Nat → Value) (j i : Nat) (v : Value) (h : i ≠ j) : upd f j v i = f i := by simp [upd, h]

/-- block R of the world W bears the row f (160 cells), none of them frozen; but for it nothing of w has turned -/
structure St (R : Nat) (w W : World) (f : Nat → Value) : Prop where
  row : ∀ j, j < 160 → W.cell? ⟨R, j, none⟩ = some (f j)
  frz : ∀ j, W.frozen? ⟨R, j, none⟩ = false
  lt : R < W.heap.size
  grw : w.grownBy W (some R)

section
variable {R : Nat} {w W : World} {f : Nat → Value}
theorem St.set (h : St R w W f) (j : Nat) (hj : j < 160) (v : Value) : St R w (W.setCell ⟨R, j, none⟩ v) (upd f j v) := by
  refine ⟨fun i hi => ?_, fun i => by simp [h.frz i], by simpa using h.lt, ?_⟩
  · by_cases e : i = j
    · subst e
      rw [World.cell?_setCell_same W _ v (h.row i hi), upd_same]
    · have hne : (⟨R, j, none⟩ : Addr) ≠ ⟨R, i, none⟩ := by
        intro h
        injection h with _ h2
        exact e h2.symm
      rw [World.cell?_setCell_other _ _ _ _ hne, upd_ne _ _ _ _ e]
      exact h.row i hi
  · exact grown_trans h.grw ⟨rfl, rfl, rfl, by simp, fun k _ hk => Below.heap_setCell _ _ _ _ (fun e => hk (by rw [e]))⟩ (s := some R) (fun g e => .inl e)
theorem St.alloc (h : St R w W f) (o : Obj) : St R w (W.alloc o) f :=
  ⟨fun i hi => (World.cell?_alloc_lt _ _ _ h.lt).trans (h.row i hi), fun i => by rw [World.frozen?_of_block (w := W) (Below.heap_alloc _ _ _ h.lt)]; exact h.frz i, by have := h.lt; simp; omega, grown_trans h.grw (World.grownBy_alloc _ _ none) (by simp)⟩
theorem St.drew (h : St R w W f) : St R w W.drew f := ⟨h.row, h.frz, h.lt, ⟨h.grw.os, h.grw.tape, h.grw.output, h.grw.size, h.grw.block⟩⟩
theorem St.drewN (h : St R w W f) (n : Nat) : St R w (W.drewN n) f := ⟨h.row, h.frz, h.lt, ⟨h.grw.os, h.grw.tape, h.grw.output, h.grw.size, h.grw.block⟩⟩
end

/-- a walk goes on in whatever world of which so much is known -/
theorem wp_general {P : Program} {c : Code} {Q : Exit → Act → World → Prop} {a : Act} {W : World} (F : World → Prop) (hF : F W) (h : ∀ W', F W' → c.wp P Q a W') : c.wp P Q a W := h W hF

/-- what settle leaves in the block of the caption track: 'vn' ticks of 'vs' a second: the frame of the video; D: the origin -/
structure SetPost (R : Nat) (w w' : World) (f g : Nat → Value) (vn vs D : Int) : Prop where
  st : St R w w' g
  g45 : g 45 = .bool true
  g47 : g 47 = .int .i64 D
  g48 : g 48 = .int .i64 (IntKind.i64.wrap (vn * ppf (partD vn vs)))
  g49 : g 49 = .int .u32 vs
  g50 : g 50 = .int .i64 (fpp (partD vn vs))
  g51 : g 51 = .int .i64 vn
  g52 : g 52 = .int .u32 vs
  g53 : g 53 = .int .i64 1
  g156 : g 156 = .int .i64 D
  g159 : g 159 = .int .i64 D

set_option maxHeartbeats 4000000 in
theorem settle_nil (R : Nat) (w : World) (f : Nat → Value) (D : Int) (Bv : Bool) (st : St R w w f) (f45 : f 45 = .bool false)
    (HE : ∀ w2, w.grownBy w2 (some R) → w2.cell? ⟨R, 0, none⟩ = some (f 0) → Calls Yba.prog 17 #[.pointer (some ⟨R, 0, none⟩), f 3] w2 fun e w' => e = .returned (.tuple #[.int .i64 D, .bool Bv]) ∧ ∃ k, w' = w2.drewN k) (f4 : f 4 = .pointer none) :
    Calls Yba.prog 9 #[.pointer (some ⟨R, 0, none⟩)] w fun e w' => e = .returned (.tuple #[]) ∧ ∃ g, SetPost R w w' f g 1001 30000 D := by
  have hlt := st.lt
  have c45 : w.cell? ⟨R, 45, none⟩ = some (.bool false) := by rw [st.row 45 (by omega), f45]
  have c51 := st.row 51 (by omega)
  have c52 := st.row 52 (by omega)
  have c53 := st.row 53 (by omega)
  have hf := st.frz
  have c4 : w.cell? ⟨R, 4, none⟩ = some (.pointer none) := by rw [st.row 4 (by omega), f4]
  clear f4
  clear f45
  go_enter Yba.func9, Yba.ntmps9
  go_wp2_with (go_at_call 16; refine (span_any 1001 30000 _ (by omega) (by omega) (by omega) (by omega)).mono ?_; rintro e w' ⟨rfl, k, rfl⟩)
  refine wp_general (fun W => St R w W (upd (upd (upd (upd f 45 (.bool true)) 51 (.int .i64 1001)) 52 (.int .u32 30000)) 53 (.int .i64 1))) ((((((st.set 45 (by omega) _).set 51 (by omega) _).set 52 (by omega) _).set 53 (by omega) _).alloc _).drewN _) ?_
  clear c4 c45 c51 c52 c53 hf
  intro W sW
  have d51 : W.cell? ⟨R, 51, none⟩ = some (.int .i64 1001) := sW.row 51 (by omega)
  have d52 : W.cell? ⟨R, 52, none⟩ = some (.int .u32 30000) := sW.row 52 (by omega)
  have d48 : W.cell? ⟨R, 48, none⟩ = some (f 48) := sW.row 48 (by omega)
  have d49 : W.cell? ⟨R, 49, none⟩ = some (f 49) := sW.row 49 (by omega)
  have d50 : W.cell? ⟨R, 50, none⟩ = some (f 50) := sW.row 50 (by omega)
  have hf := sW.frz
  have pb := partD_bd 1001 30000
  go_region_held3 (fun w' => w'.cell? ⟨R, 51, none⟩ = some (.int .i64 1001) ∧ w'.cell? ⟨R, 52, none⟩ = some (.int .u32 30000)) (simp [go_sem, d51, d52])
    (first
      | (go_at_call 11; refine (ppf_any _ _ pb.1 pb.2).mono ?_; rintro e w' ⟨rfl, rfl⟩)
      | (go_at_call 12; refine (fpp_any _ _).mono ?_; rintro e w' ⟨rfl, rfl⟩))
  go_wp2
  refine wp_general (fun W => St R w W (upd (upd (upd (upd (upd (upd (upd f 45 (.bool true)) 51 (.int .i64 1001)) 52 (.int .u32 30000)) 53 (.int .i64 1)) 48 (.int .i64 (IntKind.i64.wrap (1001 * ppf (partD 1001 30000))))) 49 (.int .u32 30000)) 50 (.int .i64 (fpp (partD 1001 30000))))) ((((sW.set 48 (by omega) _).set 49 (by omega) _).set 50 (by omega) _).drew) ?_
  clear d51 d52 d48 d49 d50 hf sW
  intro W2 sW
  have d3 : W2.cell? ⟨R, 3, none⟩ = some (f 3) := sW.row 3 (by omega)
  have d47 : W2.cell? ⟨R, 47, none⟩ = some (f 47) := sW.row 47 (by omega)
  have hf := sW.frz
  have HE2 : ∀ k, Calls Yba.prog 17 #[.pointer (some ⟨R, 0, none⟩), f 3] (W2.drewN k) fun e w' => e = .returned (.tuple #[.int .i64 D, .bool Bv]) ∧ ∃ k, w' = W2.drewN k := by
    intro k
    refine (HE (W2.drewN k) (sW.drewN k).grw (sW.row 0 (by omega))).mono ?_
    rintro e w' ⟨rfl, k2, rfl⟩
    exact ⟨rfl, k + k2, by simp⟩
  clear HE
  go_region_held3 (fun w' => w'.cell? ⟨R, 3, none⟩ = some (f 3)) (simp [go_sem, d3])
    (first | (go_at_call 17; refine (HE2 1).mono ?_; rintro e w' ⟨rfl, k2, rfl⟩))
  go_wp2
  refine wp_general (fun W => St R w W (upd (upd (upd (upd (upd (upd (upd (upd f 45 (.bool true)) 51 (.int .i64 1001)) 52 (.int .u32 30000)) 53 (.int .i64 1)) 48 (.int .i64 (IntKind.i64.wrap (1001 * ppf (partD 1001 30000))))) 49 (.int .u32 30000)) 50 (.int .i64 (fpp (partD 1001 30000)))) 47 (.int .i64 D))) ((sW.drewN _).set 47 (by omega) _) ?_
  clear d3 d47 hf HE2 sW
  intro W3 sW
  have d47 : W3.cell? ⟨R, 47, none⟩ = some (.int .i64 D) := sW.row 47 (by omega)
  have d156 : W3.cell? ⟨R, 156, none⟩ = some (f 156) := sW.row 156 (by omega)
  have d159 : W3.cell? ⟨R, 159, none⟩ = some (f 159) := sW.row 159 (by omega)
  have hf := sW.frz
  go_region_held3 (fun w' => w'.cell? ⟨R, 47, none⟩ = some (.int .i64 D)) (simp [go_sem, d47]) (fail)
  go_wp2
  go_end0
  have sZ := (((sW.set 159 (by omega) (.int .i64 D)).set 156 (by omega) (.int .i64 D)).drew)
  exact ⟨rfl, _, ⟨sZ, rfl, rfl, rfl, rfl, rfl, rfl, rfl, rfl, rfl, rfl⟩⟩

set_option maxHeartbeats 4000000 in
theorem settle_unseen (R : Nat) (w : World) (f : Nat → Value) (D : Int) (Bv : Bool) (st : St R w w f) (f45 : f 45 = .bool false)
    (HE : ∀ w2, w.grownBy w2 (some R) → w2.cell? ⟨R, 0, none⟩ = some (f 0) → Calls Yba.prog 17 #[.pointer (some ⟨R, 0, none⟩), f 3] w2 fun e w' => e = .returned (.tuple #[.int .i64 D, .bool Bv]) ∧ ∃ k, w' = w2.drewN k) (V : Nat) (f4 : f 4 = .pointer (some ⟨V, 0, none⟩)) (hRV : ¬ R = V) (v39 : w.cell? ⟨V, 39, none⟩ = some (.bool false)) :
    Calls Yba.prog 9 #[.pointer (some ⟨R, 0, none⟩)] w fun e w' => e = .returned (.tuple #[]) ∧ ∃ g, SetPost R w w' f g 1001 30000 D := by
  have hlt := st.lt
  have c45 : w.cell? ⟨R, 45, none⟩ = some (.bool false) := by rw [st.row 45 (by omega), f45]
  have c51 := st.row 51 (by omega)
  have c52 := st.row 52 (by omega)
  have c53 := st.row 53 (by omega)
  have hf := st.frz
  have c4 : w.cell? ⟨R, 4, none⟩ = some (.pointer (some ⟨V, 0, none⟩)) := by rw [st.row 4 (by omega), f4]
  have hVR : ¬ V = R := fun e => hRV e.symm
  clear f4
  clear f45
  go_enter Yba.func9, Yba.ntmps9
  go_wp2_with (go_at_call 16; refine (span_any 1001 30000 _ (by omega) (by omega) (by omega) (by omega)).mono ?_; rintro e w' ⟨rfl, k, rfl⟩)
  refine wp_general (fun W => St R w W (upd (upd (upd (upd f 45 (.bool true)) 51 (.int .i64 1001)) 52 (.int .u32 30000)) 53 (.int .i64 1))) ((((((st.set 45 (by omega) _).set 51 (by omega) _).set 52 (by omega) _).set 53 (by omega) _).alloc _).drewN _) ?_
  clear c4 c45 c51 c52 c53 hf
  intro W sW
  have d51 : W.cell? ⟨R, 51, none⟩ = some (.int .i64 1001) := sW.row 51 (by omega)
  have d52 : W.cell? ⟨R, 52, none⟩ = some (.int .u32 30000) := sW.row 52 (by omega)
  have d48 : W.cell? ⟨R, 48, none⟩ = some (f 48) := sW.row 48 (by omega)
  have d49 : W.cell? ⟨R, 49, none⟩ = some (f 49) := sW.row 49 (by omega)
  have d50 : W.cell? ⟨R, 50, none⟩ = some (f 50) := sW.row 50 (by omega)
  have hf := sW.frz
  have pb := partD_bd 1001 30000
  go_region_held3 (fun w' => w'.cell? ⟨R, 51, none⟩ = some (.int .i64 1001) ∧ w'.cell? ⟨R, 52, none⟩ = some (.int .u32 30000)) (simp [go_sem, d51, d52])
    (first
      | (go_at_call 11; refine (ppf_any _ _ pb.1 pb.2).mono ?_; rintro e w' ⟨rfl, rfl⟩)
      | (go_at_call 12; refine (fpp_any _ _).mono ?_; rintro e w' ⟨rfl, rfl⟩))
  go_wp2
  refine wp_general (fun W => St R w W (upd (upd (upd (upd (upd (upd (upd f 45 (.bool true)) 51 (.int .i64 1001)) 52 (.int .u32 30000)) 53 (.int .i64 1)) 48 (.int .i64 (IntKind.i64.wrap (1001 * ppf (partD 1001 30000))))) 49 (.int .u32 30000)) 50 (.int .i64 (fpp (partD 1001 30000))))) ((((sW.set 48 (by omega) _).set 49 (by omega) _).set 50 (by omega) _).drew) ?_
  clear d51 d52 d48 d49 d50 hf sW
  intro W2 sW
  have d3 : W2.cell? ⟨R, 3, none⟩ = some (f 3) := sW.row 3 (by omega)
  have d47 : W2.cell? ⟨R, 47, none⟩ = some (f 47) := sW.row 47 (by omega)
  have hf := sW.frz
  have HE2 : ∀ k, Calls Yba.prog 17 #[.pointer (some ⟨R, 0, none⟩), f 3] (W2.drewN k) fun e w' => e = .returned (.tuple #[.int .i64 D, .bool Bv]) ∧ ∃ k, w' = W2.drewN k := by
    intro k
    refine (HE (W2.drewN k) (sW.drewN k).grw (sW.row 0 (by omega))).mono ?_
    rintro e w' ⟨rfl, k2, rfl⟩
    exact ⟨rfl, k + k2, by simp⟩
  clear HE
  go_region_held3 (fun w' => w'.cell? ⟨R, 3, none⟩ = some (f 3)) (simp [go_sem, d3])
    (first | (go_at_call 17; refine (HE2 1).mono ?_; rintro e w' ⟨rfl, k2, rfl⟩))
  go_wp2
  refine wp_general (fun W => St R w W (upd (upd (upd (upd (upd (upd (upd (upd f 45 (.bool true)) 51 (.int .i64 1001)) 52 (.int .u32 30000)) 53 (.int .i64 1)) 48 (.int .i64 (IntKind.i64.wrap (1001 * ppf (partD 1001 30000))))) 49 (.int .u32 30000)) 50 (.int .i64 (fpp (partD 1001 30000)))) 47 (.int .i64 D))) ((sW.drewN _).set 47 (by omega) _) ?_
  clear d3 d47 hf HE2 sW
  intro W3 sW
  have d47 : W3.cell? ⟨R, 47, none⟩ = some (.int .i64 D) := sW.row 47 (by omega)
  have d156 : W3.cell? ⟨R, 156, none⟩ = some (f 156) := sW.row 156 (by omega)
  have d159 : W3.cell? ⟨R, 159, none⟩ = some (f 159) := sW.row 159 (by omega)
  have hf := sW.frz
  go_region_held3 (fun w' => w'.cell? ⟨R, 47, none⟩ = some (.int .i64 D)) (simp [go_sem, d47]) (fail)
  go_wp2
  go_end0
  have sZ := (((sW.set 159 (by omega) (.int .i64 D)).set 156 (by omega) (.int .i64 D)).drew)
  exact ⟨rfl, _, ⟨sZ, rfl, rfl, rfl, rfl, rfl, rfl, rfl, rfl, rfl, rfl⟩⟩

set_option maxHeartbeats 4000000 in
theorem settle_zero (R : Nat) (w : World) (f : Nat → Value) (D : Int) (Bv : Bool) (st : St R w w f) (f45 : f 45 = .bool false)
    (HE : ∀ w2, w.grownBy w2 (some R) → w2.cell? ⟨R, 0, none⟩ = some (f 0) → Calls Yba.prog 17 #[.pointer (some ⟨R, 0, none⟩), f 3] w2 fun e w' => e = .returned (.tuple #[.int .i64 D, .bool Bv]) ∧ ∃ k, w' = w2.drewN k) (V : Nat) (f4 : f 4 = .pointer (some ⟨V, 0, none⟩)) (hRV : ¬ R = V) (v39 : w.cell? ⟨V, 39, none⟩ = some (.bool true)) (v41 : w.cell? ⟨V, 41, none⟩ = some (.int .u32 0)) :
    Calls Yba.prog 9 #[.pointer (some ⟨R, 0, none⟩)] w fun e w' => e = .returned (.tuple #[]) ∧ ∃ g, SetPost R w w' f g 1001 30000 D := by
  have hlt := st.lt
  have c45 : w.cell? ⟨R, 45, none⟩ = some (.bool false) := by rw [st.row 45 (by omega), f45]
  have c51 := st.row 51 (by omega)
  have c52 := st.row 52 (by omega)
  have c53 := st.row 53 (by omega)
  have hf := st.frz
  have c4 : w.cell? ⟨R, 4, none⟩ = some (.pointer (some ⟨V, 0, none⟩)) := by rw [st.row 4 (by omega), f4]
  have hVR : ¬ V = R := fun e => hRV e.symm
  clear f4
  clear f45
  go_enter Yba.func9, Yba.ntmps9
  go_wp2_with (go_at_call 16; refine (span_any 1001 30000 _ (by omega) (by omega) (by omega) (by omega)).mono ?_; rintro e w' ⟨rfl, k, rfl⟩)
  refine wp_general (fun W => St R w W (upd (upd (upd (upd f 45 (.bool true)) 51 (.int .i64 1001)) 52 (.int .u32 30000)) 53 (.int .i64 1))) ((((((st.set 45 (by omega) _).set 51 (by omega) _).set 52 (by omega) _).set 53 (by omega) _).alloc _).drewN _) ?_
  clear c4 c45 c51 c52 c53 hf
  intro W sW
  have d51 : W.cell? ⟨R, 51, none⟩ = some (.int .i64 1001) := sW.row 51 (by omega)
  have d52 : W.cell? ⟨R, 52, none⟩ = some (.int .u32 30000) := sW.row 52 (by omega)
  have d48 : W.cell? ⟨R, 48, none⟩ = some (f 48) := sW.row 48 (by omega)
  have d49 : W.cell? ⟨R, 49, none⟩ = some (f 49) := sW.row 49 (by omega)
  have d50 : W.cell? ⟨R, 50, none⟩ = some (f 50) := sW.row 50 (by omega)
  have hf := sW.frz
  have pb := partD_bd 1001 30000
  go_region_held3 (fun w' => w'.cell? ⟨R, 51, none⟩ = some (.int .i64 1001) ∧ w'.cell? ⟨R, 52, none⟩ = some (.int .u32 30000)) (simp [go_sem, d51, d52])
    (first
      | (go_at_call 11; refine (ppf_any _ _ pb.1 pb.2).mono ?_; rintro e w' ⟨rfl, rfl⟩)
      | (go_at_call 12; refine (fpp_any _ _).mono ?_; rintro e w' ⟨rfl, rfl⟩))
  go_wp2
  refine wp_general (fun W => St R w W (upd (upd (upd (upd (upd (upd (upd f 45 (.bool true)) 51 (.int .i64 1001)) 52 (.int .u32 30000)) 53 (.int .i64 1)) 48 (.int .i64 (IntKind.i64.wrap (1001 * ppf (partD 1001 30000))))) 49 (.int .u32 30000)) 50 (.int .i64 (fpp (partD 1001 30000))))) ((((sW.set 48 (by omega) _).set 49 (by omega) _).set 50 (by omega) _).drew) ?_
  clear d51 d52 d48 d49 d50 hf sW
  intro W2 sW
  have d3 : W2.cell? ⟨R, 3, none⟩ = some (f 3) := sW.row 3 (by omega)
  have d47 : W2.cell? ⟨R, 47, none⟩ = some (f 47) := sW.row 47 (by omega)
  have hf := sW.frz
  have HE2 : ∀ k, Calls Yba.prog 17 #[.pointer (some ⟨R, 0, none⟩), f 3] (W2.drewN k) fun e w' => e = .returned (.tuple #[.int .i64 D, .bool Bv]) ∧ ∃ k, w' = W2.drewN k := by
    intro k
    refine (HE (W2.drewN k) (sW.drewN k).grw (sW.row 0 (by omega))).mono ?_
    rintro e w' ⟨rfl, k2, rfl⟩
    exact ⟨rfl, k + k2, by simp⟩
  clear HE
  go_region_held3 (fun w' => w'.cell? ⟨R, 3, none⟩ = some (f 3)) (simp [go_sem, d3])
    (first | (go_at_call 17; refine (HE2 1).mono ?_; rintro e w' ⟨rfl, k2, rfl⟩))
  go_wp2
  refine wp_general (fun W => St R w W (upd (upd (upd (upd (upd (upd (upd (upd f 45 (.bool true)) 51 (.int .i64 1001)) 52 (.int .u32 30000)) 53 (.int .i64 1)) 48 (.int .i64 (IntKind.i64.wrap (1001 * ppf (partD 1001 30000))))) 49 (.int .u32 30000)) 50 (.int .i64 (fpp (partD 1001 30000)))) 47 (.int .i64 D))) ((sW.drewN _).set 47 (by omega) _) ?_
  clear d3 d47 hf HE2 sW
  intro W3 sW
  have d47 : W3.cell? ⟨R, 47, none⟩ = some (.int .i64 D) := sW.row 47 (by omega)
  have d156 : W3.cell? ⟨R, 156, none⟩ = some (f 156) := sW.row 156 (by omega)
  have d159 : W3.cell? ⟨R, 159, none⟩ = some (f 159) := sW.row 159 (by omega)
  have hf := sW.frz
  go_region_held3 (fun w' => w'.cell? ⟨R, 47, none⟩ = some (.int .i64 D)) (simp [go_sem, d47]) (fail)
  go_wp2
  go_end0
  have sZ := (((sW.set 159 (by omega) (.int .i64 D)).set 156 (by omega) (.int .i64 D)).drew)
  exact ⟨rfl, _, ⟨sZ, rfl, rfl, rfl, rfl, rfl, rfl, rfl, rfl, rfl, rfl⟩⟩

set_option maxHeartbeats 1000000 in
theorem settle_video (R : Nat) (w : World) (f : Nat → Value) (D : Int) (Bv : Bool) (st : St R w w f) (f45 : f 45 = .bool false)
    (HE : ∀ w2, w.grownBy w2 (some R) → w2.cell? ⟨R, 0, none⟩ = some (f 0) → Calls Yba.prog 17 #[.pointer (some ⟨R, 0, none⟩), f 3] w2 fun e w' => e = .returned (.tuple #[.int .i64 D, .bool Bv]) ∧ ∃ k, w' = w2.drewN k) (V : Nat) (f4 : f 4 = .pointer (some ⟨V, 0, none⟩)) (hRV : ¬ R = V) (dur sc : Int) (d0 : 0 < dur) (d1 : dur < 4294967296) (s0 : 0 ≤ sc) (s1 : sc < 4294967296) (v39 : w.cell? ⟨V, 39, none⟩ = some (.bool true)) (v41 : w.cell? ⟨V, 41, none⟩ = some (.int .u32 dur)) (v1 : w.cell? ⟨V, 1, none⟩ = some (.int .u32 sc)) :
    Calls Yba.prog 9 #[.pointer (some ⟨R, 0, none⟩)] w fun e w' => e = .returned (.tuple #[]) ∧ ∃ g, SetPost R w w' f g dur sc D := by
  have hlt := st.lt
  have c45 : w.cell? ⟨R, 45, none⟩ = some (.bool false) := by rw [st.row 45 (by omega), f45]
  have c51 := st.row 51 (by omega)
  have c52 := st.row 52 (by omega)
  have c53 := st.row 53 (by omega)
  have hf := st.frz
  have c4 : w.cell? ⟨R, 4, none⟩ = some (.pointer (some ⟨V, 0, none⟩)) := by rw [st.row 4 (by omega), f4]
  have hVR : ¬ V = R := fun e => hRV e.symm
  clear f4
  clear f45
  go_enter Yba.func9, Yba.ntmps9
  go_wp2
  refine wp_general (fun W => St R w W (upd (upd (upd (upd f 45 (.bool true)) 51 (.int .i64 1001)) 52 (.int .u32 30000)) 53 (.int .i64 1)) ∧ W.cell? ⟨V, 41, none⟩ = some (.int .u32 dur) ∧ W.cell? ⟨V, 1, none⟩ = some (.int .u32 sc)) ⟨((((st.set 45 (by omega) _).set 51 (by omega) _).set 52 (by omega) _).set 53 (by omega) _), by simp [go_sem, v41], by simp [go_sem, v1]⟩ ?_
  clear c4 c45 c51 c52 c53 hf v41 v1 v39
  rintro U ⟨sU, v41, v1⟩
  have c51 : U.cell? ⟨R, 51, none⟩ = some (.int .i64 1001) := sU.row 51 (by omega)
  have c52 : U.cell? ⟨R, 52, none⟩ = some (.int .u32 30000) := sU.row 52 (by omega)
  have c53 : U.cell? ⟨R, 53, none⟩ = some (.int .i64 1) := sU.row 53 (by omega)
  have hf := sU.frz
  have hltU := sU.lt
  go_region_held3 (fun w' => w'.cell? ⟨V, 41, none⟩ = some (.int .u32 dur) ∧ w'.cell? ⟨V, 1, none⟩ = some (.int .u32 sc)) (simp [go_sem, v41, v1]) (fail)
  go_wp2_with fail
  refine (span_any dur sc _ (by omega) (by omega) (by omega) (by omega)).mono ?_
  rintro e w' ⟨rfl, k, rfl⟩
  go_wp2
  refine wp_general (fun W => St R w W (upd (upd (upd (upd (upd (upd (upd f 45 (.bool true)) 51 (.int .i64 1001)) 52 (.int .u32 30000)) 53 (.int .i64 1)) 51 (.int .i64 dur)) 52 (.int .u32 sc)) 53 (.int .i64 1))) ((((((sU.set 51 (by omega) _).set 52 (by omega) _).set 53 (by omega) _).alloc _).drewN _)) ?_
  clear c51 c52 c53 hf
  intro W sW
  have d51 : W.cell? ⟨R, 51, none⟩ = some (.int .i64 dur) := sW.row 51 (by omega)
  have d52 : W.cell? ⟨R, 52, none⟩ = some (.int .u32 sc) := sW.row 52 (by omega)
  have d48 : W.cell? ⟨R, 48, none⟩ = some (f 48) := sW.row 48 (by omega)
  have d49 : W.cell? ⟨R, 49, none⟩ = some (f 49) := sW.row 49 (by omega)
  have d50 : W.cell? ⟨R, 50, none⟩ = some (f 50) := sW.row 50 (by omega)
  have hf := sW.frz
  have pb := partD_bd dur sc
  go_region_held3 (fun w' => w'.cell? ⟨R, 51, none⟩ = some (.int .i64 dur) ∧ w'.cell? ⟨R, 52, none⟩ = some (.int .u32 sc)) (simp [go_sem, d51, d52])
    (first
      | (go_at_call 11; refine (ppf_any _ _ pb.1 pb.2).mono ?_; rintro e w' ⟨rfl, rfl⟩)
      | (go_at_call 12; refine (fpp_any _ _).mono ?_; rintro e w' ⟨rfl, rfl⟩))
  go_wp2
  refine wp_general (fun W => St R w W (upd (upd (upd (upd (upd (upd (upd (upd (upd (upd f 45 (.bool true)) 51 (.int .i64 1001)) 52 (.int .u32 30000)) 53 (.int .i64 1)) 51 (.int .i64 dur)) 52 (.int .u32 sc)) 53 (.int .i64 1)) 48 (.int .i64 (IntKind.i64.wrap (dur * ppf (partD dur sc))))) 49 (.int .u32 sc)) 50 (.int .i64 (fpp (partD dur sc))))) ((((sW.set 48 (by omega) _).set 49 (by omega) _).set 50 (by omega) _).drew) ?_
  clear d51 d52 d48 d49 d50 hf sW
  intro W2 sW
  have d3 : W2.cell? ⟨R, 3, none⟩ = some (f 3) := sW.row 3 (by omega)
  have d47 : W2.cell? ⟨R, 47, none⟩ = some (f 47) := sW.row 47 (by omega)
  have hf := sW.frz
  have HE2 : ∀ k, Calls Yba.prog 17 #[.pointer (some ⟨R, 0, none⟩), f 3] (W2.drewN k) fun e w' => e = .returned (.tuple #[.int .i64 D, .bool Bv]) ∧ ∃ k, w' = W2.drewN k := by
    intro k
    refine (HE (W2.drewN k) (sW.drewN k).grw (sW.row 0 (by omega))).mono ?_
    rintro e w' ⟨rfl, k2, rfl⟩
    exact ⟨rfl, k + k2, by simp⟩
  clear HE
  go_region_held3 (fun w' => w'.cell? ⟨R, 3, none⟩ = some (f 3)) (simp [go_sem, d3])
    (first | (go_at_call 17; refine (HE2 1).mono ?_; rintro e w' ⟨rfl, k2, rfl⟩))
  go_wp2
  refine wp_general (fun W => St R w W (upd (upd (upd (upd (upd (upd (upd (upd (upd (upd (upd f 45 (.bool true)) 51 (.int .i64 1001)) 52 (.int .u32 30000)) 53 (.int .i64 1)) 51 (.int .i64 dur)) 52 (.int .u32 sc)) 53 (.int .i64 1)) 48 (.int .i64 (IntKind.i64.wrap (dur * ppf (partD dur sc))))) 49 (.int .u32 sc)) 50 (.int .i64 (fpp (partD dur sc)))) 47 (.int .i64 D))) ((sW.drewN _).set 47 (by omega) _) ?_
  clear d3 d47 hf HE2 sW
  intro W3 sW
  have d47 : W3.cell? ⟨R, 47, none⟩ = some (.int .i64 D) := sW.row 47 (by omega)
  have d156 : W3.cell? ⟨R, 156, none⟩ = some (f 156) := sW.row 156 (by omega)
  have d159 : W3.cell? ⟨R, 159, none⟩ = some (f 159) := sW.row 159 (by omega)
  have hf := sW.frz
  go_region_held3 (fun w' => w'.cell? ⟨R, 47, none⟩ = some (.int .i64 D)) (simp [go_sem, d47]) (fail)
  go_wp2
  go_end0
  have sZ := (((sW.set 159 (by omega) (.int .i64 D)).set 156 (by omega) (.int .i64 D)).drew)
  exact ⟨rfl, _, ⟨sZ, rfl, rfl, rfl, rfl, rfl, rfl, rfl, rfl, rfl, rfl⟩⟩

end Go.Proofs.Ybulkzui
