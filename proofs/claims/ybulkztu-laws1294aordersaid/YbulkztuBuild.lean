import Derived.Test.YbulkztuRows
import Derived.Test.YbulkztuMem
import Derived.WalkKit
import Derived.ProofKit
import Derived.Outline
import Derived.WalkLawsBesides
import Derived.Deep.RegionLaw
namespace Go.Proofs.Ybulkztu
open Go Go.RowKit
theorem info34 : (Yba.prog.info? 34).map (fun i => (i.zero, i.size, i.bytes)) = some (some (.pointer none), 1, 8) := by kernel_rfl
theorem info38 : (Yba.prog.info? 38).map (fun i => (i.zero, i.size, i.bytes)) = some (some (.pointer none), 1, 8) := by kernel_rfl
theorem info37 : (Yba.prog.info? 37).map (fun i => (i.zero, i.size, i.bytes)) = some (some .nilIface, 1, 16) := by kernel_rfl

set_option maxRecDepth 10000 in
set_option maxHeartbeats 2000000 in
theorem build_any (a0 : Option Addr) (n cap : Nat) (w : World) (hn : n ≤ 256)
    (hrow : ∀ i, i < n → ∃ x c, a0 = some x ∧ w.cell? (x.add i) = some (.int .u8 c) ∧ 0 ≤ c ∧ c ≤ 255) :
    Calls Yba.prog 5 #[.slice a0 n cap] w fun e w' => ∃ av cv xs all, xs.length = n ∧ e = .returned (.tuple #[.slice (some ⟨w.heap.size, 0, none⟩) n n, .slice av all.length cv]) ∧ I1 w.heap.size n w w' (.slice av all.length cv) xs all := by
  obtain ⟨i34, hi34, hz34, hs34, hb34⟩ := info_parts info34
  go_enter Yba.func5, Yba.ntmps5
  go_wp2_with (refine wpList_make_full _ rfl (.tmp 14) (.tmp 14) 23 rfl w.heap.size 34 i34 (.pointer none) 1 Yba.underlying23 hi34 hz34 hs34 .i64 .i64 _ _ n rfl rfl rfl rfl (by rw [hb34]; omega) (by unfold maxLen; omega) (Nat.le_refl _) ?_; intro w1 hown hgrow)
  have I0 := I1.start hown hgrow
  clear hown hgrow hi34 hz34 hs34 hb34
  go_loopw [5, 18] (fun v i wr => ∃ av cv xs all, xs.length ≤ n ∧ i = .int .i64 xs.length ∧ v = .slice av all.length cv ∧ I1 w.heap.size n w wr (.slice av all.length cv) xs all) (fun _ i _ => n - (intOf i).toNat)
  case atStart => exact ⟨none, 0, [], [], by simp, rfl, rfl, I0⟩
  case round =>
    clear I0
    obtain ⟨av, cv, xs, all, hk, rfl, rfl, I⟩ := hrel
    obtain ⟨W0, rfl⟩ : ∃ W0, W0 = wr := ⟨_, rfl⟩
    have hal := I.len
    by_cases hkn : xs.length < n
    · obtain ⟨x, c, rfl, hcx0, hb1, hb2⟩ := hrow xs.length hkn
      have hcx : W0.cell? (x.add xs.length) = some (.int .u8 c) := (I.bel.cell (World.block_lt_of_cell? w _ hcx0)).trans hcx0
      clear hcx0
      go_wp2
      have J0 := I2.start I.wnt
      go_loopw [5, 10, 11] (fun v i _ ws => ∃ vo av2 cv2, ∃ fs al : List Nat, (fs.length : Int) ≤ c % 8 ∧ i = .int .i64 fs.length ∧ v = .slice av2 al.length cv2 ∧ I2 w.heap.size all (.slice av all.length cv) W0 ws vo (.slice av2 al.length cv2) fs al) (fun _ i _ _ => 8 - (intOf i).toNat)
      case atStart => exact ⟨_, av, cv, [], all, by simp; omega, rfl, rfl, J0⟩
      case round =>
        clear J0
        obtain ⟨vo, av2, cv2, fs, al, hfl, rfl, rfl, J⟩ := hrel
        obtain ⟨ao, co, rfl⟩ := owns_form J.own
        by_cases hj : (fs.length : Int) < c % 8
        · have hS := J.lt
          have hB := I.lt
          have c7 : wr.cell? ⟨W0.heap.size, 7, none⟩ = some (.slice ao fs.length co) := by rw [blk_cell J.blk]; rfl
          have f7 : wr.frozen? ⟨W0.heap.size, 7, none⟩ = false := blk_free J.blk 7
          obtain ⟨i38, hi38, hz38, hs38, hb38⟩ := info_parts info38
          have hal2 : al.length ≤ 1800 := by rw [J.eq]; simp; omega
          go_wp2_with (first | (at_builtin; refine wpList_append_sep _ rfl (.tmp 41) (.tmp 43) 24 rfl (W0.heap.size + 1) 38 i38 (.pointer none) 1 8 Yba.underlying24 hi38 hz38 hs38 hb38 rfl (by decide) _ _ _ rfl ((J.own.alloc _).alloc _) ⟨wr.heap.size + 1, 0, none⟩ 1 1 [fp wr.heap.size] rfl rfl (one_new _ _ _ _ (by simp)) (one_ptr _) (by unfold maxLen; omega) (by omega) (by simp; omega) ?_))
          intro v1 w2 hown1 hg1 hs1
          obtain ⟨a1, c1, rfl⟩ := owns_form hown1
          obtain ⟨hb2', hw2, _⟩ := J.mid hg1
          have M2 := J.mid2 hg1 (.slice a1 (fs.length + 1) c1)
          have hsz2 : wr.heap.size + 2 ≤ w2.heap.size := by have := hg1.size; simp at this; omega
          have c7' : w2.cell? ⟨W0.heap.size, 7, none⟩ = some (.slice ao fs.length co) := by rw [blk_cell hb2']; rfl
          have f7' : w2.frozen? ⟨W0.heap.size, 7, none⟩ = false := blk_free hb2' 7
          clear c7 f7 hb2' hw2
          go_wp2_with (first | (at_builtin; refine wpList_append_sep _ rfl (.tmp 47) (.tmp 49) 24 rfl (w.heap.size + 1) 38 i38 (.pointer none) 1 8 Yba.underlying24 hi38 hz38 hs38 hb38 rfl (by decide) _ _ _ rfl (M2.alloc _) ⟨w2.heap.size, 0, none⟩ 1 1 [fp wr.heap.size] rfl rfl (one_new _ _ _ _ (by simp)) (one_ptr _) (by unfold maxLen; omega) (by omega) (by simp; omega) ?_))
          intro v2 w4 hown2 hg2 hs2
          have J2 := J.step rfl hg1 hown1 hs1 hg2 hown2 hs2
          obtain ⟨a2, c2, rfl⟩ := owns_form hown2
          clear hown1 hg1 hs1 hown2 hg2 hs2 M2 c7' f7'
          go_wp2
          go_roundw
          case rel => exact ⟨_, a2, c2, fs ++ [wr.heap.size], al ++ [wr.heap.size], by simp; omega, by simp, by simp, by simpa using J2⟩
          case measure => simp [intOf]; omega
        · have HJ : Hid ((fs.length : Int) = c % 8) := by unfold Hid; omega
          have hf7 : fs.length ≤ 7 := by omega
          have hS := J.lt
          have hB := I.lt
          obtain ⟨W2, rfl⟩ : ∃ W2, W2 = wr := ⟨_, rfl⟩
          have K0 := I3.start J.blk
          go_wp2
          go_loopw [12] (fun i wt => ∃ j : Nat, ∃ af cf, j ≤ fs.length ∧ i = .int .i64 j ∧ I3 W0.heap.size W2 wt (.slice ao fs.length co) (.slice af j cf) j) (fun i _ => fs.length - (intOf i).toNat)
          case atStart => exact ⟨0, none, 0, by omega, rfl, K0⟩
          case round =>
            clear K0
            obtain ⟨j, af, cf, hjl, rfl, K⟩ := hrel
            have k2 : wr.cell? ⟨W0.heap.size, 2, none⟩ = some (.slice af j cf) := by rw [blk_cell K.blk]; rfl
            have k7 : wr.cell? ⟨W0.heap.size, 7, none⟩ = some (.slice ao fs.length co) := by rw [blk_cell K.blk]; rfl
            have hS3 := blk_lt K.blk
            have hW23 := K.grw.size
            obtain ⟨fl, hfo⟩ := K.fld
            obtain ⟨i38, hi38, hz38, hs38, hb38⟩ := info_parts info38
            by_cases hj3 : j < fs.length
            · have hr := K.row J.own (by omega)
              obtain ⟨g, rfl⟩ : ∃ g, ao = some ⟨g, 0, none⟩ := by
                rcases hr.2 with ⟨e, e0⟩ | ⟨g, cap, cur, e, _⟩
                · omega
                · simp at e; exact ⟨g, e.1⟩
              have hcj : wr.cell? ⟨g, j, none⟩ = some (fp (fs[j])) := by
                rw [hr.cellAt j (by omega)]
                simp [hj3]
              obtain ⟨F, hF⟩ : ∃ F, F = fs[j] := ⟨_, rfl⟩
              rw [← hF] at hcj
              clear hF
              go_wp2
              go_region_law (refine step_append_sep rfl (.tmp 64) (.tmp 72) 24 rfl W2.heap.size 38 i38 (.pointer none) 1 8 Yba.underlying24 hi38 hz38 hs38 hb38 rfl (by decide) _ _ _ rfl (by exact hfo.alloc _) ⟨wr.heap.size, 0, none⟩ 1 1 [fp F] rfl rfl (one_new _ _ _ _ rfl) (one_ptr _) (by unfold maxLen; omega) (by omega) (by simp; omega) ?_; intro v1 w2 hown1 hg1 hs1; have K2 := K.step (grown_trans (World.grownBy_alloc _ _ none) (grown_drew _ none) (by simp)) hg1 hown1; have hb9 := K.mid (grown_trans (World.grownBy_alloc _ _ none) (grown_drew _ none) (by simp)) hg1; have c9 : w2.cell? ⟨W0.heap.size, 2, none⟩ = some (.slice af j cf) := by { rw [blk_cell hb9]; rfl }; have f9 : w2.frozen? ⟨W0.heap.size, 2, none⟩ = false := blk_free hb9 2; obtain ⟨a1, c1, rfl⟩ := owns_form hown1; clear hb9 hown1 hg1 hs1)
              all_goals
                go_wp2
                go_roundw
                case rel => exact ⟨j + 1, a1, c1, by omega, by go_num, K2⟩
                case measure => simp [intOf]; omega
            · obtain ⟨hsp, hsf⟩ := I.spot J K hkn
              rcases (show c % 2 = 1 ∨ c % 2 = 0 by omega) with hodd | hodd
              · go_wp2_with (first | (at_builtin; refine wpList_append_sep _ rfl (.tmp 83) (.tmp 90) 24 rfl W2.heap.size 38 i38 (.pointer none) 1 8 Yba.underlying24 hi38 hz38 hs38 hb38 rfl (by decide) _ _ _ rfl (((hfo.alloc _).alloc _).alloc _) ⟨wr.heap.size + 2, 0, none⟩ 1 1 [fp (wr.heap.size + 1)] rfl rfl (one_new _ _ _ _ (by simp)) (one_ptr _) (by unfold maxLen; omega) (by omega) (by simp; omega) ?_))
                intro v1 w2 hown1 hg1 hs1
                have K2 := K.step (grown_trans (grown_trans (World.grownBy_alloc _ _ none) (World.grownBy_alloc _ _ none) (by simp)) (World.grownBy_alloc _ _ none) (by simp)) hg1 hown1
                have hb9 := K.mid (grown_trans (grown_trans (World.grownBy_alloc _ _ none) (World.grownBy_alloc _ _ none) (by simp)) (World.grownBy_alloc _ _ none) (by simp)) hg1
                have c9 : w2.cell? ⟨W0.heap.size, 2, none⟩ = some (.slice af j cf) := by rw [blk_cell hb9]; rfl
                have f9 : w2.frozen? ⟨W0.heap.size, 2, none⟩ = false := blk_free hb9 2
                obtain ⟨a1, c1, rfl⟩ := owns_form hown1
                obtain ⟨hsp2, hsf2⟩ := I.spot J K2 hkn
                have I9 := I.step J K2 hkn hf7
                clear hb9 hown1 hg1 hs1 hsp hsf k2 k7
                go_wp2
                go_roundw
                case rel => exact ⟨av2, cv2, xs ++ [(W0.heap.size, .slice ao fs.length co, fs)], al, by simp; omega, by simp, rfl, I9⟩
                case measure => simp [intOf]; omega
              · have I9 := I.step J K hkn hf7
                go_wp2
                go_roundw
                case rel => exact ⟨av2, cv2, xs ++ [(W0.heap.size, .slice ao fs.length co, fs)], al, by simp; omega, by simp, rfl, I9⟩
                case measure => simp [intOf]; omega
    · go_wp2
      go_ret2
      exact ⟨av, cv, xs, all, by omega, rfl, I⟩
end Go.Proofs.Ybulkztu
