import Derived.Test.YbulkzuiWant
set_option linter.unusedVariables false
namespace Go.Proofs.Ybulkzui
open Go Go.RowKit

theorem runOrigins_cached (b : Nat) (s org : Int) (oh : Bool) (w : World)
    (c24 : w.cell? ⟨b, 24, none⟩ = some (.bool true)) (c25 : w.cell? ⟨b, 25, none⟩ = some (.int .i64 s)) (c26 : w.cell? ⟨b, 26, none⟩ = some (.int .i64 org)) (c27 : w.cell? ⟨b, 27, none⟩ = some (.bool oh)) :
    Calls Yba.prog 27 #[.pointer (some ⟨b, 0, none⟩), .int .i64 s] w fun e w' => e = .returned (.tuple #[.int .i64 org, .bool oh]) ∧ ∃ k, w' = w.drewN k := by
  go_enter Yba.func27, Yba.ntmps27
  go_wp2
  go_quiet (fail)
  go_wp2
  go_ret2
  exact ⟨rfl, _, rfl⟩

theorem iw (n : Int) : IntKind.i64.wrap n = wrap64 n := by rw [IntKind.wrap_i64]; unfold wrap64; rfl
theorem wp_gen {P : Program} {c : Code} {Q : Exit → Act → World → Prop} {a : Act} {w : World} (S : World → Prop) (h : S w) (k : ∀ W, S W → Code.wp P c Q a W) : Code.wp P c Q a w := k w h

set_option maxHeartbeats 2000000 in
theorem times_1 (b : Nat) (pts s lasts origin frame org : Int) (oh : Bool) (u2 u3 u4 u5 : Value) (w : World) (P : World → Prop)
    (hb : b < w.heap.size) (c2 : w.cell? ⟨b, 2, none⟩ = some (.int .u32 1000000000)) (c12 : w.cell? ⟨b, 12, none⟩ = some (.int .i64 origin)) (c17 : w.cell? ⟨b, 17, none⟩ = some (.int .i64 frame))
    (RO : ∀ k, Calls Yba.prog 27 #[.pointer (some ⟨b, 0, none⟩), .int .i64 s] ((w.alloc (.cells #[.int .i64 pts, .int .i64 s, u2, u3, u4, u5] 125)).drewN k) fun e w' => e = .returned (.tuple #[.int .i64 org, .bool oh]) ∧ P w')
    (hP : ∀ w k, P w → P (w.drewN k)) (p2 : ∀ w', P w' → w'.cell? ⟨b, 2, none⟩ = some (.int .u32 1000000000)) (p12 : ∀ w', P w' → w'.cell? ⟨b, 12, none⟩ = some (.int .i64 origin)) (pb : ∀ w', P w' → w'.cell? ⟨w.heap.size, 0, none⟩ = some (.int .i64 pts))  (g1 : subB pts origin = false) :
    Calls Yba.prog 14 #[.pointer (some ⟨b, 0, none⟩), .agg #[.int .i64 pts, .int .i64 s, u2, u3, u4, u5], .int .i64 lasts] w fun e w' => e = .returned (wTup pts lasts origin frame org oh) ∧ P w' := by
  have e : wTup pts lasts origin frame org oh = .tuple #[.int .i64 0, .int .i64 0, .int .i64 0, .bool false] := by
    unfold wTup wOk; simp [g1]
  rw [e]
  clear e
  obtain ⟨W, hW⟩ : ∃ W, W = w.alloc (.cells #[.int .i64 pts, .int .i64 s, u2, u3, u4, u5] 125) := ⟨_, rfl⟩
  have d2 : W.cell? ⟨b, 2, none⟩ = some (.int .u32 1000000000) := by rw [hW]; simp [go_sem, World.cell?_alloc_some, c2]
  have d12 : W.cell? ⟨b, 12, none⟩ = some (.int .i64 origin) := by rw [hW]; simp [go_sem, World.cell?_alloc_some, c12]
  have d17 : W.cell? ⟨b, 17, none⟩ = some (.int .i64 frame) := by rw [hW]; simp [go_sem, World.cell?_alloc_some, c17]
  have e0 : W.cell? ⟨w.heap.size, 0, none⟩ = some (.int .i64 pts) := by rw [hW]; simp [go_sem]
  have e1 : W.cell? ⟨w.heap.size, 1, none⟩ = some (.int .i64 s) := by rw [hW]; simp [go_sem]
  rw [← hW] at RO
  have T : ∀ k p o, Calls Yba.prog 26 #[.pointer (some ⟨b, 0, none⟩), .int .i64 p, .int .i64 o] (W.drewN k) fun e w' => e = .returned (.tuple #[.int .i64 (subD p o), .bool (subB p o)]) ∧ ∃ k, w' = W.drewN k := by
    intro k p o
    refine (tl_time b p o (W.drewN k) d2).mono ?_
    rintro e w' ⟨rfl, k2, rfl⟩
    exact ⟨rfl, k + k2, by simp⟩
  go_enter Yba.func14, Yba.ntmps14
  go_wp2
  refine wp_gen (fun U => U = W) hW.symm ?_
  rintro U rfl
  clear hW c2 c12 c17
  go_region_held3 (fun w' => w'.cell? ⟨w.heap.size, 0, none⟩ = some (.int .i64 pts) ∧ w'.cell? ⟨b, 12, none⟩ = some (.int .i64 origin)) (simp [go_sem, d12, e0])
    (first | (go_at_call 26; refine (T _ _ _).mono ?_; rintro e w' ⟨rfl, k1, rfl⟩))
  go_wp2
  go_region_held3 (fun w' => w'.cell? ⟨w.heap.size, 0, none⟩ = some (.int .i64 pts) ∧ w'.cell? ⟨b, 12, none⟩ = some (.int .i64 origin)) (simp [go_sem, d12, e0])
    (first | (go_at_call 26; refine (T _ _ _).mono ?_; rintro e w' ⟨rfl, k1, rfl⟩))
  go_wp2
  go_region_held3 (fun w' => w'.cell? ⟨w.heap.size, 0, none⟩ = some (.int .i64 pts) ∧ w'.cell? ⟨b, 12, none⟩ = some (.int .i64 origin) ∧ w'.cell? ⟨b, 17, none⟩ = some (.int .i64 frame)) (simp [go_sem, d12, d17, e0])
    (first | (go_at_call 26; refine (T _ _ _).mono ?_; rintro e w' ⟨rfl, k1, rfl⟩))
  go_wp2_with (first | (go_at_call 27; refine (RO _).mono ?_; rintro e w9 ⟨rfl, pW⟩) | (go_at_call 25; refine (sum_any _ _ _).mono ?_; rintro e w' ⟨rfl, rfl⟩))
  (try simp only [Exit.inBlock, Exit.then]); refine bodyPost_ret (results_tmp4 rfl _ _ _) rfl ?_
  exact ⟨rfl, pW⟩

set_option maxHeartbeats 2000000 in
theorem times_2 (b : Nat) (pts s lasts origin frame org : Int) (oh : Bool) (u2 u3 u4 u5 : Value) (w : World) (P : World → Prop)
    (hb : b < w.heap.size) (c2 : w.cell? ⟨b, 2, none⟩ = some (.int .u32 1000000000)) (c12 : w.cell? ⟨b, 12, none⟩ = some (.int .i64 origin)) (c17 : w.cell? ⟨b, 17, none⟩ = some (.int .i64 frame))
    (RO : ∀ k, Calls Yba.prog 27 #[.pointer (some ⟨b, 0, none⟩), .int .i64 s] ((w.alloc (.cells #[.int .i64 pts, .int .i64 s, u2, u3, u4, u5] 125)).drewN k) fun e w' => e = .returned (.tuple #[.int .i64 org, .bool oh]) ∧ P w')
    (hP : ∀ w k, P w → P (w.drewN k)) (p2 : ∀ w', P w' → w'.cell? ⟨b, 2, none⟩ = some (.int .u32 1000000000)) (p12 : ∀ w', P w' → w'.cell? ⟨b, 12, none⟩ = some (.int .i64 origin)) (pb : ∀ w', P w' → w'.cell? ⟨w.heap.size, 0, none⟩ = some (.int .i64 pts)) (g1 : subB pts origin = true) (g2 : subB (wrap64 (pts + lasts)) origin = false) :
    Calls Yba.prog 14 #[.pointer (some ⟨b, 0, none⟩), .agg #[.int .i64 pts, .int .i64 s, u2, u3, u4, u5], .int .i64 lasts] w fun e w' => e = .returned (wTup pts lasts origin frame org oh) ∧ P w' := by
  have e : wTup pts lasts origin frame org oh = .tuple #[.int .i64 0, .int .i64 0, .int .i64 0, .bool false] := by
    unfold wTup wOk; simp [g1, g2]
  rw [e]
  clear e
  have g2' : subB (IntKind.i64.wrap (pts + lasts)) origin = false := by rw [iw]; exact g2
  obtain ⟨W, hW⟩ : ∃ W, W = w.alloc (.cells #[.int .i64 pts, .int .i64 s, u2, u3, u4, u5] 125) := ⟨_, rfl⟩
  have d2 : W.cell? ⟨b, 2, none⟩ = some (.int .u32 1000000000) := by rw [hW]; simp [go_sem, World.cell?_alloc_some, c2]
  have d12 : W.cell? ⟨b, 12, none⟩ = some (.int .i64 origin) := by rw [hW]; simp [go_sem, World.cell?_alloc_some, c12]
  have d17 : W.cell? ⟨b, 17, none⟩ = some (.int .i64 frame) := by rw [hW]; simp [go_sem, World.cell?_alloc_some, c17]
  have e0 : W.cell? ⟨w.heap.size, 0, none⟩ = some (.int .i64 pts) := by rw [hW]; simp [go_sem]
  have e1 : W.cell? ⟨w.heap.size, 1, none⟩ = some (.int .i64 s) := by rw [hW]; simp [go_sem]
  rw [← hW] at RO
  have T : ∀ k p o, Calls Yba.prog 26 #[.pointer (some ⟨b, 0, none⟩), .int .i64 p, .int .i64 o] (W.drewN k) fun e w' => e = .returned (.tuple #[.int .i64 (subD p o), .bool (subB p o)]) ∧ ∃ k, w' = W.drewN k := by
    intro k p o
    refine (tl_time b p o (W.drewN k) d2).mono ?_
    rintro e w' ⟨rfl, k2, rfl⟩
    exact ⟨rfl, k + k2, by simp⟩
  go_enter Yba.func14, Yba.ntmps14
  go_wp2
  refine wp_gen (fun U => U = W) hW.symm ?_
  rintro U rfl
  clear hW c2 c12 c17
  go_region_held3 (fun w' => w'.cell? ⟨w.heap.size, 0, none⟩ = some (.int .i64 pts) ∧ w'.cell? ⟨b, 12, none⟩ = some (.int .i64 origin)) (simp [go_sem, d12, e0])
    (first | (go_at_call 26; refine (T _ _ _).mono ?_; rintro e w' ⟨rfl, k1, rfl⟩))
  go_wp2
  go_region_held3 (fun w' => w'.cell? ⟨w.heap.size, 0, none⟩ = some (.int .i64 pts) ∧ w'.cell? ⟨b, 12, none⟩ = some (.int .i64 origin)) (simp [go_sem, d12, e0])
    (first | (go_at_call 26; refine (T _ _ _).mono ?_; rintro e w' ⟨rfl, k1, rfl⟩))
  go_wp2
  go_region_held3 (fun w' => w'.cell? ⟨w.heap.size, 0, none⟩ = some (.int .i64 pts) ∧ w'.cell? ⟨b, 12, none⟩ = some (.int .i64 origin) ∧ w'.cell? ⟨b, 17, none⟩ = some (.int .i64 frame)) (simp [go_sem, d12, d17, e0])
    (first | (go_at_call 26; refine (T _ _ _).mono ?_; rintro e w' ⟨rfl, k1, rfl⟩))
  go_wp2_with (first | (go_at_call 27; refine (RO _).mono ?_; rintro e w9 ⟨rfl, pW⟩) | (go_at_call 25; refine (sum_any _ _ _).mono ?_; rintro e w' ⟨rfl, rfl⟩))
  (try simp only [Exit.inBlock, Exit.then]); refine bodyPost_ret (results_tmp4 rfl _ _ _) rfl ?_
  exact ⟨rfl, pW⟩

set_option maxHeartbeats 2000000 in
theorem times_3 (b : Nat) (pts s lasts origin frame org : Int) (oh : Bool) (u2 u3 u4 u5 : Value) (w : World) (P : World → Prop)
    (hb : b < w.heap.size) (c2 : w.cell? ⟨b, 2, none⟩ = some (.int .u32 1000000000)) (c12 : w.cell? ⟨b, 12, none⟩ = some (.int .i64 origin)) (c17 : w.cell? ⟨b, 17, none⟩ = some (.int .i64 frame))
    (RO : ∀ k, Calls Yba.prog 27 #[.pointer (some ⟨b, 0, none⟩), .int .i64 s] ((w.alloc (.cells #[.int .i64 pts, .int .i64 s, u2, u3, u4, u5] 125)).drewN k) fun e w' => e = .returned (.tuple #[.int .i64 org, .bool oh]) ∧ P w')
    (hP : ∀ w k, P w → P (w.drewN k)) (p2 : ∀ w', P w' → w'.cell? ⟨b, 2, none⟩ = some (.int .u32 1000000000)) (p12 : ∀ w', P w' → w'.cell? ⟨b, 12, none⟩ = some (.int .i64 origin)) (pb : ∀ w', P w' → w'.cell? ⟨w.heap.size, 0, none⟩ = some (.int .i64 pts)) (g1 : subB pts origin = true) (g2 : subB (wrap64 (pts + lasts)) origin = true) (g3 : subB (wrap64 (pts + frame)) origin = false) :
    Calls Yba.prog 14 #[.pointer (some ⟨b, 0, none⟩), .agg #[.int .i64 pts, .int .i64 s, u2, u3, u4, u5], .int .i64 lasts] w fun e w' => e = .returned (wTup pts lasts origin frame org oh) ∧ P w' := by
  have e : wTup pts lasts origin frame org oh = .tuple #[.int .i64 0, .int .i64 0, .int .i64 0, .bool false] := by
    unfold wTup wOk; simp [g1, g2, g3]
  rw [e]
  clear e
  have g2' : subB (IntKind.i64.wrap (pts + lasts)) origin = true := by rw [iw]; exact g2
  have g3' : subB (IntKind.i64.wrap (pts + frame)) origin = false := by rw [iw]; exact g3
  obtain ⟨W, hW⟩ : ∃ W, W = w.alloc (.cells #[.int .i64 pts, .int .i64 s, u2, u3, u4, u5] 125) := ⟨_, rfl⟩
  have d2 : W.cell? ⟨b, 2, none⟩ = some (.int .u32 1000000000) := by rw [hW]; simp [go_sem, World.cell?_alloc_some, c2]
  have d12 : W.cell? ⟨b, 12, none⟩ = some (.int .i64 origin) := by rw [hW]; simp [go_sem, World.cell?_alloc_some, c12]
  have d17 : W.cell? ⟨b, 17, none⟩ = some (.int .i64 frame) := by rw [hW]; simp [go_sem, World.cell?_alloc_some, c17]
  have e0 : W.cell? ⟨w.heap.size, 0, none⟩ = some (.int .i64 pts) := by rw [hW]; simp [go_sem]
  have e1 : W.cell? ⟨w.heap.size, 1, none⟩ = some (.int .i64 s) := by rw [hW]; simp [go_sem]
  rw [← hW] at RO
  have T : ∀ k p o, Calls Yba.prog 26 #[.pointer (some ⟨b, 0, none⟩), .int .i64 p, .int .i64 o] (W.drewN k) fun e w' => e = .returned (.tuple #[.int .i64 (subD p o), .bool (subB p o)]) ∧ ∃ k, w' = W.drewN k := by
    intro k p o
    refine (tl_time b p o (W.drewN k) d2).mono ?_
    rintro e w' ⟨rfl, k2, rfl⟩
    exact ⟨rfl, k + k2, by simp⟩
  go_enter Yba.func14, Yba.ntmps14
  go_wp2
  refine wp_gen (fun U => U = W) hW.symm ?_
  rintro U rfl
  clear hW c2 c12 c17
  go_region_held3 (fun w' => w'.cell? ⟨w.heap.size, 0, none⟩ = some (.int .i64 pts) ∧ w'.cell? ⟨b, 12, none⟩ = some (.int .i64 origin)) (simp [go_sem, d12, e0])
    (first | (go_at_call 26; refine (T _ _ _).mono ?_; rintro e w' ⟨rfl, k1, rfl⟩))
  go_wp2
  go_region_held3 (fun w' => w'.cell? ⟨w.heap.size, 0, none⟩ = some (.int .i64 pts) ∧ w'.cell? ⟨b, 12, none⟩ = some (.int .i64 origin)) (simp [go_sem, d12, e0])
    (first | (go_at_call 26; refine (T _ _ _).mono ?_; rintro e w' ⟨rfl, k1, rfl⟩))
  go_wp2
  go_region_held3 (fun w' => w'.cell? ⟨w.heap.size, 0, none⟩ = some (.int .i64 pts) ∧ w'.cell? ⟨b, 12, none⟩ = some (.int .i64 origin) ∧ w'.cell? ⟨b, 17, none⟩ = some (.int .i64 frame)) (simp [go_sem, d12, d17, e0])
    (first | (go_at_call 26; refine (T _ _ _).mono ?_; rintro e w' ⟨rfl, k1, rfl⟩))
  go_wp2_with (first | (go_at_call 27; refine (RO _).mono ?_; rintro e w9 ⟨rfl, pW⟩) | (go_at_call 25; refine (sum_any _ _ _).mono ?_; rintro e w' ⟨rfl, rfl⟩))
  (try simp only [Exit.inBlock, Exit.then]); refine bodyPost_ret (results_tmp4 rfl _ _ _) rfl ?_
  exact ⟨rfl, pW⟩

set_option maxHeartbeats 2000000 in
theorem times_4 (b : Nat) (pts s lasts origin frame org : Int) (oh : Bool) (u2 u3 u4 u5 : Value) (w : World) (P : World → Prop)
    (hb : b < w.heap.size) (c2 : w.cell? ⟨b, 2, none⟩ = some (.int .u32 1000000000)) (c12 : w.cell? ⟨b, 12, none⟩ = some (.int .i64 origin)) (c17 : w.cell? ⟨b, 17, none⟩ = some (.int .i64 frame))
    (RO : ∀ k, Calls Yba.prog 27 #[.pointer (some ⟨b, 0, none⟩), .int .i64 s] ((w.alloc (.cells #[.int .i64 pts, .int .i64 s, u2, u3, u4, u5] 125)).drewN k) fun e w' => e = .returned (.tuple #[.int .i64 org, .bool oh]) ∧ P w')
    (hP : ∀ w k, P w → P (w.drewN k)) (p2 : ∀ w', P w' → w'.cell? ⟨b, 2, none⟩ = some (.int .u32 1000000000)) (p12 : ∀ w', P w' → w'.cell? ⟨b, 12, none⟩ = some (.int .i64 origin)) (pb : ∀ w', P w' → w'.cell? ⟨w.heap.size, 0, none⟩ = some (.int .i64 pts)) (g1 : subB pts origin = true) (g2 : subB (wrap64 (pts + lasts)) origin = true) (g3 : subB (wrap64 (pts + frame)) origin = true) (g4 : oh = false) :
    Calls Yba.prog 14 #[.pointer (some ⟨b, 0, none⟩), .agg #[.int .i64 pts, .int .i64 s, u2, u3, u4, u5], .int .i64 lasts] w fun e w' => e = .returned (wTup pts lasts origin frame org oh) ∧ P w' := by
  have e : wTup pts lasts origin frame org oh = .tuple #[.int .i64 0, .int .i64 0, .int .i64 0, .bool false] := by
    unfold wTup wOk; simp [g1, g2, g3, g4]
  rw [e]
  clear e
  have g2' : subB (IntKind.i64.wrap (pts + lasts)) origin = true := by rw [iw]; exact g2
  have g3' : subB (IntKind.i64.wrap (pts + frame)) origin = true := by rw [iw]; exact g3
  obtain ⟨W, hW⟩ : ∃ W, W = w.alloc (.cells #[.int .i64 pts, .int .i64 s, u2, u3, u4, u5] 125) := ⟨_, rfl⟩
  have d2 : W.cell? ⟨b, 2, none⟩ = some (.int .u32 1000000000) := by rw [hW]; simp [go_sem, World.cell?_alloc_some, c2]
  have d12 : W.cell? ⟨b, 12, none⟩ = some (.int .i64 origin) := by rw [hW]; simp [go_sem, World.cell?_alloc_some, c12]
  have d17 : W.cell? ⟨b, 17, none⟩ = some (.int .i64 frame) := by rw [hW]; simp [go_sem, World.cell?_alloc_some, c17]
  have e0 : W.cell? ⟨w.heap.size, 0, none⟩ = some (.int .i64 pts) := by rw [hW]; simp [go_sem]
  have e1 : W.cell? ⟨w.heap.size, 1, none⟩ = some (.int .i64 s) := by rw [hW]; simp [go_sem]
  rw [← hW] at RO
  have T : ∀ k p o, Calls Yba.prog 26 #[.pointer (some ⟨b, 0, none⟩), .int .i64 p, .int .i64 o] (W.drewN k) fun e w' => e = .returned (.tuple #[.int .i64 (subD p o), .bool (subB p o)]) ∧ ∃ k, w' = W.drewN k := by
    intro k p o
    refine (tl_time b p o (W.drewN k) d2).mono ?_
    rintro e w' ⟨rfl, k2, rfl⟩
    exact ⟨rfl, k + k2, by simp⟩
  go_enter Yba.func14, Yba.ntmps14
  go_wp2
  refine wp_gen (fun U => U = W) hW.symm ?_
  rintro U rfl
  clear hW c2 c12 c17
  go_region_held3 (fun w' => w'.cell? ⟨w.heap.size, 0, none⟩ = some (.int .i64 pts) ∧ w'.cell? ⟨b, 12, none⟩ = some (.int .i64 origin)) (simp [go_sem, d12, e0])
    (first | (go_at_call 26; refine (T _ _ _).mono ?_; rintro e w' ⟨rfl, k1, rfl⟩))
  go_wp2
  go_region_held3 (fun w' => w'.cell? ⟨w.heap.size, 0, none⟩ = some (.int .i64 pts) ∧ w'.cell? ⟨b, 12, none⟩ = some (.int .i64 origin)) (simp [go_sem, d12, e0])
    (first | (go_at_call 26; refine (T _ _ _).mono ?_; rintro e w' ⟨rfl, k1, rfl⟩))
  go_wp2
  go_region_held3 (fun w' => w'.cell? ⟨w.heap.size, 0, none⟩ = some (.int .i64 pts) ∧ w'.cell? ⟨b, 12, none⟩ = some (.int .i64 origin) ∧ w'.cell? ⟨b, 17, none⟩ = some (.int .i64 frame)) (simp [go_sem, d12, d17, e0])
    (first | (go_at_call 26; refine (T _ _ _).mono ?_; rintro e w' ⟨rfl, k1, rfl⟩))
  go_wp2_with (first | (go_at_call 27; refine (RO _).mono ?_; rintro e w9 ⟨rfl, pW⟩) | (go_at_call 25; refine (sum_any _ _ _).mono ?_; rintro e w' ⟨rfl, rfl⟩))
  (try simp only [Exit.inBlock, Exit.then]); refine bodyPost_ret (results_tmp4 rfl _ _ _) rfl ?_
  exact ⟨rfl, pW⟩

set_option maxHeartbeats 2000000 in
theorem times_5 (b : Nat) (pts s lasts origin frame org : Int) (oh : Bool) (u2 u3 u4 u5 : Value) (w : World) (P : World → Prop)
    (hb : b < w.heap.size) (c2 : w.cell? ⟨b, 2, none⟩ = some (.int .u32 1000000000)) (c12 : w.cell? ⟨b, 12, none⟩ = some (.int .i64 origin)) (c17 : w.cell? ⟨b, 17, none⟩ = some (.int .i64 frame))
    (RO : ∀ k, Calls Yba.prog 27 #[.pointer (some ⟨b, 0, none⟩), .int .i64 s] ((w.alloc (.cells #[.int .i64 pts, .int .i64 s, u2, u3, u4, u5] 125)).drewN k) fun e w' => e = .returned (.tuple #[.int .i64 org, .bool oh]) ∧ P w')
    (hP : ∀ w k, P w → P (w.drewN k)) (p2 : ∀ w', P w' → w'.cell? ⟨b, 2, none⟩ = some (.int .u32 1000000000)) (p12 : ∀ w', P w' → w'.cell? ⟨b, 12, none⟩ = some (.int .i64 origin)) (pb : ∀ w', P w' → w'.cell? ⟨w.heap.size, 0, none⟩ = some (.int .i64 pts)) (g1 : subB pts origin = true) (g2 : subB (wrap64 (pts + lasts)) origin = true) (g3 : subB (wrap64 (pts + frame)) origin = true) (g4 : oh = true) (g5 : sumB org (subD (wrap64 (pts + lasts)) origin) = false) :
    Calls Yba.prog 14 #[.pointer (some ⟨b, 0, none⟩), .agg #[.int .i64 pts, .int .i64 s, u2, u3, u4, u5], .int .i64 lasts] w fun e w' => e = .returned (wTup pts lasts origin frame org oh) ∧ P w' := by
  have e : wTup pts lasts origin frame org oh = .tuple #[.int .i64 0, .int .i64 0, .int .i64 0, .bool false] := by
    unfold wTup wOk; simp [g1, g2, g3, g4, g5]
  rw [e]
  clear e
  have g2' : subB (IntKind.i64.wrap (pts + lasts)) origin = true := by rw [iw]; exact g2
  have g3' : subB (IntKind.i64.wrap (pts + frame)) origin = true := by rw [iw]; exact g3
  obtain ⟨W, hW⟩ : ∃ W, W = w.alloc (.cells #[.int .i64 pts, .int .i64 s, u2, u3, u4, u5] 125) := ⟨_, rfl⟩
  have d2 : W.cell? ⟨b, 2, none⟩ = some (.int .u32 1000000000) := by rw [hW]; simp [go_sem, World.cell?_alloc_some, c2]
  have d12 : W.cell? ⟨b, 12, none⟩ = some (.int .i64 origin) := by rw [hW]; simp [go_sem, World.cell?_alloc_some, c12]
  have d17 : W.cell? ⟨b, 17, none⟩ = some (.int .i64 frame) := by rw [hW]; simp [go_sem, World.cell?_alloc_some, c17]
  have e0 : W.cell? ⟨w.heap.size, 0, none⟩ = some (.int .i64 pts) := by rw [hW]; simp [go_sem]
  have e1 : W.cell? ⟨w.heap.size, 1, none⟩ = some (.int .i64 s) := by rw [hW]; simp [go_sem]
  rw [← hW] at RO
  have T : ∀ k p o, Calls Yba.prog 26 #[.pointer (some ⟨b, 0, none⟩), .int .i64 p, .int .i64 o] (W.drewN k) fun e w' => e = .returned (.tuple #[.int .i64 (subD p o), .bool (subB p o)]) ∧ ∃ k, w' = W.drewN k := by
    intro k p o
    refine (tl_time b p o (W.drewN k) d2).mono ?_
    rintro e w' ⟨rfl, k2, rfl⟩
    exact ⟨rfl, k + k2, by simp⟩
  go_enter Yba.func14, Yba.ntmps14
  go_wp2
  refine wp_gen (fun U => U = W) hW.symm ?_
  rintro U rfl
  clear hW c2 c12 c17
  go_region_held3 (fun w' => w'.cell? ⟨w.heap.size, 0, none⟩ = some (.int .i64 pts) ∧ w'.cell? ⟨b, 12, none⟩ = some (.int .i64 origin)) (simp [go_sem, d12, e0])
    (first | (go_at_call 26; refine (T _ _ _).mono ?_; rintro e w' ⟨rfl, k1, rfl⟩))
  go_wp2
  go_region_held3 (fun w' => w'.cell? ⟨w.heap.size, 0, none⟩ = some (.int .i64 pts) ∧ w'.cell? ⟨b, 12, none⟩ = some (.int .i64 origin)) (simp [go_sem, d12, e0])
    (first | (go_at_call 26; refine (T _ _ _).mono ?_; rintro e w' ⟨rfl, k1, rfl⟩))
  go_wp2
  go_region_held3 (fun w' => w'.cell? ⟨w.heap.size, 0, none⟩ = some (.int .i64 pts) ∧ w'.cell? ⟨b, 12, none⟩ = some (.int .i64 origin) ∧ w'.cell? ⟨b, 17, none⟩ = some (.int .i64 frame)) (simp [go_sem, d12, d17, e0])
    (first | (go_at_call 26; refine (T _ _ _).mono ?_; rintro e w' ⟨rfl, k1, rfl⟩))
  go_wp2_with (first | (go_at_call 27; refine (RO _).mono ?_; rintro e w9 ⟨rfl, pW⟩) | (go_at_call 25; refine (sum_any _ _ _).mono ?_; rintro e w' ⟨rfl, rfl⟩))
  (try simp only [Exit.inBlock, Exit.then]); refine bodyPost_ret (results_tmp4 rfl _ _ _) rfl ?_
  exact ⟨rfl, pW⟩

set_option maxHeartbeats 2000000 in
theorem times_6 (b : Nat) (pts s lasts origin frame org : Int) (oh : Bool) (u2 u3 u4 u5 : Value) (w : World) (P : World → Prop)
    (hb : b < w.heap.size) (c2 : w.cell? ⟨b, 2, none⟩ = some (.int .u32 1000000000)) (c12 : w.cell? ⟨b, 12, none⟩ = some (.int .i64 origin)) (c17 : w.cell? ⟨b, 17, none⟩ = some (.int .i64 frame))
    (RO : ∀ k, Calls Yba.prog 27 #[.pointer (some ⟨b, 0, none⟩), .int .i64 s] ((w.alloc (.cells #[.int .i64 pts, .int .i64 s, u2, u3, u4, u5] 125)).drewN k) fun e w' => e = .returned (.tuple #[.int .i64 org, .bool oh]) ∧ P w')
    (hP : ∀ w k, P w → P (w.drewN k)) (p2 : ∀ w', P w' → w'.cell? ⟨b, 2, none⟩ = some (.int .u32 1000000000)) (p12 : ∀ w', P w' → w'.cell? ⟨b, 12, none⟩ = some (.int .i64 origin)) (pb : ∀ w', P w' → w'.cell? ⟨w.heap.size, 0, none⟩ = some (.int .i64 pts)) (g1 : subB pts origin = true) (g2 : subB (wrap64 (pts + lasts)) origin = true) (g3 : subB (wrap64 (pts + frame)) origin = true) (g4 : oh = true) (g5 : sumB org (subD (wrap64 (pts + lasts)) origin) = true) :
    Calls Yba.prog 14 #[.pointer (some ⟨b, 0, none⟩), .agg #[.int .i64 pts, .int .i64 s, u2, u3, u4, u5], .int .i64 lasts] w fun e w' => e = .returned (wTup pts lasts origin frame org oh) ∧ P w' := by
  have e : wTup pts lasts origin frame org oh = .tuple #[.int .i64 (subD pts origin), .int .i64 (wDur pts lasts origin), .int .i64 (wF pts lasts origin), .bool (wB pts lasts origin)] := by
    unfold wTup wOk; simp [g1, g2, g3, g4, g5]
  rw [e]
  clear e
  have dd : wrap64 (subD (wrap64 (pts + lasts)) origin - subD pts origin) = wDur pts lasts origin := rfl
  have db : -9223372036854775808 ≤ wDur pts lasts origin ∧ wDur pts lasts origin ≤ 9223372036854775807 := wrap64_bd _
  unfold wB wF wEnd
  obtain ⟨d, ed⟩ : ∃ d, d = wDur pts lasts origin := ⟨_, rfl⟩
  rw [← ed] at dd db ⊢
  clear ed
  have g2' : subB (IntKind.i64.wrap (pts + lasts)) origin = true := by rw [iw]; exact g2
  have g3' : subB (IntKind.i64.wrap (pts + frame)) origin = true := by rw [iw]; exact g3
  obtain ⟨W, hW⟩ : ∃ W, W = w.alloc (.cells #[.int .i64 pts, .int .i64 s, u2, u3, u4, u5] 125) := ⟨_, rfl⟩
  have d2 : W.cell? ⟨b, 2, none⟩ = some (.int .u32 1000000000) := by rw [hW]; simp [go_sem, World.cell?_alloc_some, c2]
  have d12 : W.cell? ⟨b, 12, none⟩ = some (.int .i64 origin) := by rw [hW]; simp [go_sem, World.cell?_alloc_some, c12]
  have d17 : W.cell? ⟨b, 17, none⟩ = some (.int .i64 frame) := by rw [hW]; simp [go_sem, World.cell?_alloc_some, c17]
  have e0 : W.cell? ⟨w.heap.size, 0, none⟩ = some (.int .i64 pts) := by rw [hW]; simp [go_sem]
  have e1 : W.cell? ⟨w.heap.size, 1, none⟩ = some (.int .i64 s) := by rw [hW]; simp [go_sem]
  rw [← hW] at RO
  have T : ∀ k p o, Calls Yba.prog 26 #[.pointer (some ⟨b, 0, none⟩), .int .i64 p, .int .i64 o] (W.drewN k) fun e w' => e = .returned (.tuple #[.int .i64 (subD p o), .bool (subB p o)]) ∧ ∃ k, w' = W.drewN k := by
    intro k p o
    refine (tl_time b p o (W.drewN k) d2).mono ?_
    rintro e w' ⟨rfl, k2, rfl⟩
    exact ⟨rfl, k + k2, by simp⟩
  go_enter Yba.func14, Yba.ntmps14
  go_wp2
  refine wp_gen (fun U => U = W) hW.symm ?_
  rintro U rfl
  clear hW c2 c12 c17
  go_region_held3 (fun w' => w'.cell? ⟨w.heap.size, 0, none⟩ = some (.int .i64 pts) ∧ w'.cell? ⟨b, 12, none⟩ = some (.int .i64 origin)) (simp [go_sem, d12, e0])
    (first | (go_at_call 26; refine (T _ _ _).mono ?_; rintro e w' ⟨rfl, k1, rfl⟩))
  go_wp2
  go_region_held3 (fun w' => w'.cell? ⟨w.heap.size, 0, none⟩ = some (.int .i64 pts) ∧ w'.cell? ⟨b, 12, none⟩ = some (.int .i64 origin)) (simp [go_sem, d12, e0])
    (first | (go_at_call 26; refine (T _ _ _).mono ?_; rintro e w' ⟨rfl, k1, rfl⟩))
  go_wp2
  go_region_held3 (fun w' => w'.cell? ⟨w.heap.size, 0, none⟩ = some (.int .i64 pts) ∧ w'.cell? ⟨b, 12, none⟩ = some (.int .i64 origin) ∧ w'.cell? ⟨b, 17, none⟩ = some (.int .i64 frame)) (simp [go_sem, d12, d17, e0])
    (first | (go_at_call 26; refine (T _ _ _).mono ?_; rintro e w' ⟨rfl, k1, rfl⟩))
  go_wp2_with (first | (go_at_call 27; refine (RO _).mono ?_; rintro e w9 ⟨rfl, pW⟩) | (go_at_call 25; refine (sum_any _ _ _).mono ?_; rintro e w' ⟨rfl, rfl⟩))
  refine wp_gen (fun U9 => P U9) pW ?_
  clear pW
  intro w9 pW
  have q2 := p2 _ pW
  have q12 := p12 _ pW
  have qb := pb _ pW
  have T2 : ∀ k p o, Calls Yba.prog 26 #[.pointer (some ⟨b, 0, none⟩), .int .i64 p, .int .i64 o] (w9.drewN k) fun e w' => e = .returned (.tuple #[.int .i64 (subD p o), .bool (subB p o)]) ∧ ∃ k, w' = w9.drewN k := by
    intro k p o
    refine (tl_time b p o (w9.drewN k) q2).mono ?_
    rintro e w' ⟨rfl, k2, rfl⟩
    exact ⟨rfl, k + k2, by simp⟩
  go_region_held3 (fun w' => w'.cell? ⟨w.heap.size, 0, none⟩ = some (.int .i64 pts) ∧ w'.cell? ⟨b, 12, none⟩ = some (.int .i64 origin)) (simp [go_sem, q12, qb])
    (first | (go_at_call 11; refine (ppf_any _ _ db.1 db.2).mono ?_; rintro e w' ⟨rfl, rfl⟩) | (go_at_call 26; refine (T2 _ _ _).mono ?_; rintro e w' ⟨rfl, k1, rfl⟩))
  go_wp2
  (try simp only [Exit.inBlock, Exit.then]); refine bodyPost_ret (results_tmp4 rfl _ _ _) rfl ?_
  exact ⟨ret_t4 rfl rfl rfl (by simp only [iw]), hP _ _ pW⟩

theorem times_any (b : Nat) (pts s lasts origin frame org : Int) (oh : Bool) (u2 u3 u4 u5 : Value) (w : World) (P : World → Prop)
    (hb : b < w.heap.size) (c2 : w.cell? ⟨b, 2, none⟩ = some (.int .u32 1000000000)) (c12 : w.cell? ⟨b, 12, none⟩ = some (.int .i64 origin)) (c17 : w.cell? ⟨b, 17, none⟩ = some (.int .i64 frame))
    (RO : ∀ k, Calls Yba.prog 27 #[.pointer (some ⟨b, 0, none⟩), .int .i64 s] ((w.alloc (.cells #[.int .i64 pts, .int .i64 s, u2, u3, u4, u5] 125)).drewN k) fun e w' => e = .returned (.tuple #[.int .i64 org, .bool oh]) ∧ P w')
    (hP : ∀ w k, P w → P (w.drewN k)) (p2 : ∀ w', P w' → w'.cell? ⟨b, 2, none⟩ = some (.int .u32 1000000000)) (p12 : ∀ w', P w' → w'.cell? ⟨b, 12, none⟩ = some (.int .i64 origin)) (pb : ∀ w', P w' → w'.cell? ⟨w.heap.size, 0, none⟩ = some (.int .i64 pts)) :
    Calls Yba.prog 14 #[.pointer (some ⟨b, 0, none⟩), .agg #[.int .i64 pts, .int .i64 s, u2, u3, u4, u5], .int .i64 lasts] w fun e w' => e = .returned (wTup pts lasts origin frame org oh) ∧ P w' := by
  cases g1 : subB pts origin with
  | false => exact times_1 b pts s lasts origin frame org oh u2 u3 u4 u5 w P hb c2 c12 c17 RO hP p2 p12 pb g1
  | true =>
    cases g2 : subB (wrap64 (pts + lasts)) origin with
    | false => exact times_2 b pts s lasts origin frame org oh u2 u3 u4 u5 w P hb c2 c12 c17 RO hP p2 p12 pb g1 g2
    | true =>
      cases g3 : subB (wrap64 (pts + frame)) origin with
      | false => exact times_3 b pts s lasts origin frame org oh u2 u3 u4 u5 w P hb c2 c12 c17 RO hP p2 p12 pb g1 g2 g3
      | true =>
        cases oh with
        | false => exact times_4 b pts s lasts origin frame org _ u2 u3 u4 u5 w P hb c2 c12 c17 RO hP p2 p12 pb g1 g2 g3 rfl
        | true =>
          cases g5 : sumB org (subD (wrap64 (pts + lasts)) origin) with
          | false => exact times_5 b pts s lasts origin frame org _ u2 u3 u4 u5 w P hb c2 c12 c17 RO hP p2 p12 pb g1 g2 g3 rfl g5
          | true => exact times_6 b pts s lasts origin frame org _ u2 u3 u4 u5 w P hb c2 c12 c17 RO hP p2 p12 pb g1 g2 g3 rfl g5

end Go.Proofs.Ybulkzui
