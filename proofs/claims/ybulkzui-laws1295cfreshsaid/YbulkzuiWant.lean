import Derived.Test.YbulkzuiPts
set_option linter.unusedVariables false
namespace Go.Proofs.Ybulkzui
open Go Go.RowKit

def wOk (pts lasts origin frame org : Int) (oh : Bool) : Bool := subB pts origin && (subB (wrap64 (pts + lasts)) origin && (subB (wrap64 (pts + frame)) origin && (oh && sumB org (subD (wrap64 (pts + lasts)) origin))))
def wDur (pts lasts origin : Int) : Int := wrap64 (subD (wrap64 (pts + lasts)) origin - subD pts origin)
def wEnd (pts lasts origin : Int) : Int := wrap64 (pts + wrap64 (ppf (wDur pts lasts origin) * lasts))
def wF (pts lasts origin : Int) : Int := wrap64 (subD (wEnd pts lasts origin) origin - subD pts origin)
def wB (pts lasts origin : Int) : Bool := subB (wEnd pts lasts origin) origin
/-- what (*Timeline).times gives -/
def wTup (pts lasts origin frame org : Int) (oh : Bool) : Value :=
  if wOk pts lasts origin frame org oh = true then
    .tuple #[.int .i64 (subD pts origin), .int .i64 (wDur pts lasts origin), .int .i64 (wF pts lasts origin), .bool (wB pts lasts origin)]
  else .tuple #[.int .i64 0, .int .i64 0, .int .i64 0, .bool false]

theorem results_tmp4 {fn : Func} {t u v s : Tmp} (h : fn.results = #[.tmp t, .tmp u, .tmp v, .tmp s]) (tmps : Array Value) (P : Program) (w : World) :
    (results fn tmps).run P w = .ok (.tuple #[tmps.getD t undef, tmps.getD u undef, tmps.getD v undef, tmps.getD s undef]) w := by
  simp [results, h]

theorem ret_t4 {n d f n' d' f' : Int} {b b' : Bool} (h1 : n = n') (h2 : d = d') (h3 : f = f') (h4 : b = b') :
    Ending.returned (.tuple #[.int .i64 n, .int .i64 d, .int .i64 f, .bool b]) = .returned (.tuple #[.int .i64 n', .int .i64 d', .int .i64 f', .bool b']) := by rw [h1, h2, h3, h4]

theorem ppf_le {d : Int} (h : d ≤ 0) : ppf d = 1 := by unfold ppf; rw [if_pos h]
theorem ppf_gt {d : Int} (h : ¬ d ≤ 0) (h' : 1 < (33366666 + d / 2) / d) : ppf d = (33366666 + d / 2) / d := by unfold ppf; rw [if_neg h]; omega
theorem ppf_ge {d : Int} (h : ¬ d ≤ 0) (h' : ¬ 1 < (33366666 + d / 2) / d) : ppf d = 1 := by unfold ppf; rw [if_neg h]; omega
theorem quo_bd {p : Int} (hp : ¬ p ≤ 0) (hp1 : p ≤ 9223372036854775807) : 0 ≤ (33366666 + p / 2) / p ∧ (33366666 + p / 2) / p ≤ 33366667 := by
  refine ⟨Int.ediv_nonneg (by omega) (by omega), ?_⟩
  have : (33366666 + p / 2) / p < 33366667 + 1 := Int.ediv_lt_of_lt_mul (by omega) (by omega)
  omega

set_option maxHeartbeats 1000000 in
theorem want_1 (pts lasts origin frame org : Int) (oh : Bool) (w : World)  (g1 : subB pts origin = false) :
    Calls Yba.prog 15 #[.int .i64 pts, .int .i64 lasts, .int .i64 origin, .int .i64 frame, .int .i64 org, .bool oh] w fun e w' => e = .returned (wTup pts lasts origin frame org oh) ∧ w' = w := by
    have e : wTup pts lasts origin frame org oh = .tuple #[.int .i64 0, .int .i64 0, .int .i64 0, .bool false] := by
      unfold wTup wOk; simp [g1]
    rw [e]
    clear e
    go_enter Yba.func15, Yba.ntmps15
    go_wp2_with (go_at_call 28; refine (sub_any _ _ _).mono ?_; rintro e w' ⟨rfl, rfl⟩)
    (try simp only [Exit.inBlock, Exit.then]); refine bodyPost_ret (results_tmp4 rfl _ _ _) rfl ?_
    exact ⟨rfl, rfl⟩

set_option maxHeartbeats 1000000 in
theorem want_2 (pts lasts origin frame org : Int) (oh : Bool) (w : World) (g1 : subB pts origin = true) (g2 : subB (wrap64 (pts + lasts)) origin = false) :
    Calls Yba.prog 15 #[.int .i64 pts, .int .i64 lasts, .int .i64 origin, .int .i64 frame, .int .i64 org, .bool oh] w fun e w' => e = .returned (wTup pts lasts origin frame org oh) ∧ w' = w := by
    have e : wTup pts lasts origin frame org oh = .tuple #[.int .i64 0, .int .i64 0, .int .i64 0, .bool false] := by
      unfold wTup wOk; simp [g1, g2]
    rw [e]
    clear e
    go_enter Yba.func15, Yba.ntmps15
    go_wp2_with (go_at_call 28; refine (sub_any _ _ _).mono ?_; rintro e w' ⟨rfl, rfl⟩)
    (try simp only [Exit.inBlock, Exit.then]); refine bodyPost_ret (results_tmp4 rfl _ _ _) rfl ?_
    exact ⟨rfl, rfl⟩

set_option maxHeartbeats 1000000 in
theorem want_3 (pts lasts origin frame org : Int) (oh : Bool) (w : World) (g1 : subB pts origin = true) (g2 : subB (wrap64 (pts + lasts)) origin = true) (g3 : subB (wrap64 (pts + frame)) origin = false) :
    Calls Yba.prog 15 #[.int .i64 pts, .int .i64 lasts, .int .i64 origin, .int .i64 frame, .int .i64 org, .bool oh] w fun e w' => e = .returned (wTup pts lasts origin frame org oh) ∧ w' = w := by
    have e : wTup pts lasts origin frame org oh = .tuple #[.int .i64 0, .int .i64 0, .int .i64 0, .bool false] := by
      unfold wTup wOk; simp [g1, g2, g3]
    rw [e]
    clear e
    go_enter Yba.func15, Yba.ntmps15
    go_wp2_with (go_at_call 28; refine (sub_any _ _ _).mono ?_; rintro e w' ⟨rfl, rfl⟩)
    (try simp only [Exit.inBlock, Exit.then]); refine bodyPost_ret (results_tmp4 rfl _ _ _) rfl ?_
    exact ⟨rfl, rfl⟩

set_option maxHeartbeats 1000000 in
theorem want_4 (pts lasts origin frame org : Int) (oh : Bool) (w : World) (g1 : subB pts origin = true) (g2 : subB (wrap64 (pts + lasts)) origin = true) (g3 : subB (wrap64 (pts + frame)) origin = true) (g4 : oh = false) :
    Calls Yba.prog 15 #[.int .i64 pts, .int .i64 lasts, .int .i64 origin, .int .i64 frame, .int .i64 org, .bool oh] w fun e w' => e = .returned (wTup pts lasts origin frame org oh) ∧ w' = w := by
    have e : wTup pts lasts origin frame org oh = .tuple #[.int .i64 0, .int .i64 0, .int .i64 0, .bool false] := by
      unfold wTup wOk; simp [g1, g2, g3, g4]
    rw [e]
    clear e
    go_enter Yba.func15, Yba.ntmps15
    go_wp2_with (go_at_call 28; refine (sub_any _ _ _).mono ?_; rintro e w' ⟨rfl, rfl⟩)
    (try simp only [Exit.inBlock, Exit.then]); refine bodyPost_ret (results_tmp4 rfl _ _ _) rfl ?_
    exact ⟨rfl, rfl⟩

set_option maxHeartbeats 1000000 in
theorem want_5 (pts lasts origin frame org : Int) (oh : Bool) (w : World) (g1 : subB pts origin = true) (g2 : subB (wrap64 (pts + lasts)) origin = true) (g3 : subB (wrap64 (pts + frame)) origin = true) (g4 : oh = true) (g5 : sumB org (subD (wrap64 (pts + lasts)) origin) = false) :
    Calls Yba.prog 15 #[.int .i64 pts, .int .i64 lasts, .int .i64 origin, .int .i64 frame, .int .i64 org, .bool oh] w fun e w' => e = .returned (wTup pts lasts origin frame org oh) ∧ w' = w := by
    have e : wTup pts lasts origin frame org oh = .tuple #[.int .i64 0, .int .i64 0, .int .i64 0, .bool false] := by
      unfold wTup wOk; simp [g1, g2, g3, g4, g5]
    rw [e]
    clear e
    have g5' : (decide (wrap64 (org + subD (wrap64 (pts + lasts)) origin) < org) == decide (subD (wrap64 (pts + lasts)) origin < 0)) = false := by unfold sumB at g5; exact g5
    clear g5
    go_enter Yba.func15, Yba.ntmps15
    go_wp2_with (go_at_call 28; refine (sub_any _ _ _).mono ?_; rintro e w' ⟨rfl, rfl⟩)
    (try simp only [Exit.inBlock, Exit.then]); refine bodyPost_ret (results_tmp4 rfl _ _ _) rfl ?_
    exact ⟨rfl, rfl⟩

set_option maxHeartbeats 1000000 in
theorem want_6 (pts lasts origin frame org : Int) (oh : Bool) (w : World) (g1 : subB pts origin = true) (g2 : subB (wrap64 (pts + lasts)) origin = true) (g3 : subB (wrap64 (pts + frame)) origin = true) (g4 : oh = true) (g5 : sumB org (subD (wrap64 (pts + lasts)) origin) = true) :
    Calls Yba.prog 15 #[.int .i64 pts, .int .i64 lasts, .int .i64 origin, .int .i64 frame, .int .i64 org, .bool oh] w fun e w' => e = .returned (wTup pts lasts origin frame org oh) ∧ w' = w := by
    have e : wTup pts lasts origin frame org oh = .tuple #[.int .i64 (subD pts origin), .int .i64 (wDur pts lasts origin), .int .i64 (wF pts lasts origin), .bool (wB pts lasts origin)] := by
      unfold wTup wOk; simp [g1, g2, g3, g4, g5]
    rw [e]
    clear e
    have g5' : decide (wrap64 (org + subD (wrap64 (pts + lasts)) origin) < org) = decide (subD (wrap64 (pts + lasts)) origin < 0) := by unfold sumB at g5; simpa using g5
    clear g5
    have dd : wrap64 (subD (wrap64 (pts + lasts)) origin - subD pts origin) = wDur pts lasts origin := rfl
    have db : wDur pts lasts origin ≤ 9223372036854775807 := (wrap64_bd _).2
    unfold wB wF wEnd
    obtain ⟨d, ed⟩ : ∃ d, d = wDur pts lasts origin := ⟨_, rfl⟩
    rw [← ed] at dd db ⊢
    clear ed
    by_cases c : d ≤ 0
    · rw [ppf_le c, Int.one_mul]
      go_enter Yba.func15, Yba.ntmps15
      go_wp2_with (go_at_call 28; refine (sub_any _ _ _).mono ?_; rintro e w' ⟨rfl, rfl⟩)
      (try simp only [Exit.inBlock, Exit.then]); refine bodyPost_ret (results_tmp4 rfl _ _ _) rfl ?_
      exact ⟨rfl, rfl⟩
    · have qb := quo_bd c db
      by_cases c' : 1 < (33366666 + d / 2) / d
      · rw [ppf_gt c c']
        obtain ⟨q, eq⟩ : ∃ q, q = (33366666 + d / 2) / d := ⟨_, rfl⟩
        have HQ : (33366666 + d / 2) / d = q := eq.symm
        rw [HQ] at c' qb ⊢
        clear eq
        go_enter Yba.func15, Yba.ntmps15
        go_wp2_with (go_at_call 28; refine (sub_any _ _ _).mono ?_; rintro e w' ⟨rfl, rfl⟩)
        (try simp only [Exit.inBlock, Exit.then]); refine bodyPost_ret (results_tmp4 rfl _ _ _) rfl ?_
        exact ⟨rfl, rfl⟩
      · rw [ppf_ge c c', Int.one_mul]
        obtain ⟨q, eq⟩ : ∃ q, q = (33366666 + d / 2) / d := ⟨_, rfl⟩
        have HQ : (33366666 + d / 2) / d = q := eq.symm
        rw [HQ] at c' qb
        clear eq
        go_enter Yba.func15, Yba.ntmps15
        go_wp2_with (go_at_call 28; refine (sub_any _ _ _).mono ?_; rintro e w' ⟨rfl, rfl⟩)
        (try simp only [Exit.inBlock, Exit.then]); refine bodyPost_ret (results_tmp4 rfl _ _ _) rfl ?_
        exact ⟨rfl, rfl⟩

theorem want_any (pts lasts origin frame org : Int) (oh : Bool) (w : World) :
    Calls Yba.prog 15 #[.int .i64 pts, .int .i64 lasts, .int .i64 origin, .int .i64 frame, .int .i64 org, .bool oh] w fun e w' => e = .returned (wTup pts lasts origin frame org oh) ∧ w' = w := by
  cases g1 : subB pts origin with
  | false => exact want_1 _ _ _ _ _ _ w g1
  | true =>
    cases g2 : subB (wrap64 (pts + lasts)) origin with
    | false => exact want_2 _ _ _ _ _ _ w g1 g2
    | true =>
      cases g3 : subB (wrap64 (pts + frame)) origin with
      | false => exact want_3 _ _ _ _ _ _ w g1 g2 g3
      | true =>
        cases oh with
        | false => exact want_4 _ _ _ _ _ _ w g1 g2 g3 rfl
        | true =>
          cases g5 : sumB org (subD (wrap64 (pts + lasts)) origin) with
          | false => exact want_5 _ _ _ _ _ _ w g1 g2 g3 rfl g5
          | true => exact want_6 _ _ _ _ _ _ w g1 g2 g3 rfl g5
end Go.Proofs.Ybulkzui
