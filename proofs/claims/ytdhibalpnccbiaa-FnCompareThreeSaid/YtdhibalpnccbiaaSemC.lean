/- semver.Compare; ModCompare at every path. -/
import Derived.Test.YtdhibalpnccbiaaPreC
namespace Go.Proofs.Ytdhibalpnccbiaa
open Go.RowKit
set_option linter.unusedVariables false
def boxS (S : SV) : Obj := .cells #[.string (bs S.maj), .string (bs S.min), .string (bs S.pat), .string (bs S.short), .string (bs S.pre), .string (bs S.build)] 75
theorem optC_nn : optC cmpSV none none = 0 := rfl
theorem cmpV_nn {x y : Bytes} (hx : semP x = none) (hy : semP y = none) : cmpV x y = 0 := by unfold cmpV; rw [hx, hy]; rfl
theorem cmpV_ns {x y : Bytes} {T : SV} (hx : semP x = none) (hy : semP y = some T) : cmpV x y = -1 := by unfold cmpV; rw [hx, hy]; rfl
theorem cmpV_sn {x y : Bytes} {S : SV} (hx : semP x = some S) (hy : semP y = none) : cmpV x y = 1 := by unfold cmpV; rw [hx, hy]; rfl
theorem cmpV_ss {x y : Bytes} {S T : SV} (hx : semP x = some S) (hy : semP y = some T) : cmpV x y = thenC (cmpB S.maj T.maj) (thenC (cmpB S.min T.min) (thenC (cmpB S.pat T.pat) (cpR S.pre T.pre))) := by
  unfold cmpV; rw [hx, hy, cpR_pk (sem_dash hx) (sem_dash hy)]; rfl
theorem sem_pre_len {l : Bytes} {S : SV} (h : semP l = some S) : S.pre.length ≤ l.length := by
  cases l with
  | nil => cases h
  | cons c r =>
    unfold semP at h
    simp only at h
    split at h
    · cases h
    · rcases h1 : cutI r with _ | ⟨M, _ | ⟨d, x⟩⟩ <;> simp only [h1] at h
      · cases h
      · cases h; simp
      · have hl1 := cutI_len h1
        split at h
        · cases h
        · rcases h2 : cutI x with _ | ⟨m, _ | ⟨d2, y⟩⟩ <;> simp only [h2] at h
          · cases h
          · cases h; simp
          · have hl2 := cutI_len h2
            split at h
            · cases h
            · rcases h3 : cutI y with _ | ⟨p, z⟩ <;> simp only [h3] at h
              · cases h
              · have hl3 := cutI_len h3
                rcases h4 : tailP z with _ | ⟨a, b⟩ <;> simp only [h4] at h
                · cases h
                · cases h
                  have ha : a.length ≤ z.length := by
                    unfold tailP at h4
                    split at h4
                    · cases h4; simp
                    · split at h4
                      · split at h4
                        · cases h4
                        · split at h4
                          · cases h4
                          · cases h4; simp
                      · split at h4
                        · cases h4
                        · cases h4; simp
                  simp at hl1 hl2 ⊢
                  omega
set_option maxRecDepth 100000 in
set_option maxHeartbeats 1000000 in
theorem cmp82_nn (x y : Bytes) (w : World) (hx : x.length ≤ maxLen) (hy : y.length ≤ maxLen) (h1 : semP x = none) (h2 : semP y = none) :
    Calls Try.prog 82 #[.string (bs x), .string (bs y)] w fun e w' => e = .returned (.int .i64 (cmpV x y)) ∧ Below w.heap.size w w' := by
  have HX := Lib.hid hx
  have HY := Lib.hid hy
  have H1 := Lib.hid h1
  have H2 := Lib.hid h2
  have HV := Lib.hid (cmpV_nn h1 h2)
  clear hx hy h1 h2
  go_enter Try.func82, Try.ntmps82
  go_wp2_with fail
  refine (sem_no _ HX.out H1.out).mono ?_
  rintro e w1 ⟨⟨S, rfl⟩, hb⟩
  unfold sgv
  have hz := hb.size
  have HB := Lib.hid (hb.alloc hz (boxS S))
  unfold boxS at HB
  go_wp2_with fail
  refine (sem_no _ HY.out H2.out).mono ?_
  rintro e w2 ⟨⟨T, rfl⟩, hb2⟩
  unfold sgv
  have HB2 := Lib.hid ((below_next HB.out hb2).alloc (by have := hb.size; have := hb2.size; simp at this; omega) (boxS T))
  unfold boxS at HB2
  clear hb hb2
  go_wp2
  go_ret
  exact ⟨by rw [HV.out]; rfl, HB2.out⟩
set_option maxRecDepth 100000 in
set_option maxHeartbeats 1000000 in
theorem cmp82_ns (x y : Bytes) (w : World) (hx : x.length ≤ maxLen) (hy : y.length ≤ maxLen) (T : SV) (h1 : semP x = none) (h2 : semP y = some T) :
    Calls Try.prog 82 #[.string (bs x), .string (bs y)] w fun e w' => e = .returned (.int .i64 (cmpV x y)) ∧ Below w.heap.size w w' := by
  have HX := Lib.hid hx
  have HY := Lib.hid hy
  have H1 := Lib.hid h1
  have H2 := Lib.hid h2
  have HV := Lib.hid (cmpV_ns h1 h2)
  clear hx hy h1 h2
  go_enter Try.func82, Try.ntmps82
  go_wp2_with fail
  refine (sem_no _ HX.out H1.out).mono ?_
  rintro e w1 ⟨⟨S, rfl⟩, hb⟩
  unfold sgv
  have hz := hb.size
  have HB := Lib.hid (hb.alloc hz (boxS S))
  unfold boxS at HB
  go_wp2_with fail
  refine (sem_ok _ HY.out H2.out).mono ?_
  rintro e w2 ⟨rfl, hb2⟩
  unfold sgv
  have HB2 := Lib.hid ((below_next HB.out hb2).alloc (by have := hb.size; have := hb2.size; simp at this; omega) (boxS T))
  unfold boxS at HB2
  clear hb hb2
  go_wp2
  go_ret
  exact ⟨by rw [HV.out]; rfl, HB2.out⟩
set_option maxRecDepth 100000 in
set_option maxHeartbeats 1000000 in
theorem cmp82_sn (x y : Bytes) (w : World) (hx : x.length ≤ maxLen) (hy : y.length ≤ maxLen) (S : SV) (h1 : semP x = some S) (h2 : semP y = none) :
    Calls Try.prog 82 #[.string (bs x), .string (bs y)] w fun e w' => e = .returned (.int .i64 (cmpV x y)) ∧ Below w.heap.size w w' := by
  have HX := Lib.hid hx
  have HY := Lib.hid hy
  have H1 := Lib.hid h1
  have H2 := Lib.hid h2
  have HV := Lib.hid (cmpV_sn h1 h2)
  clear hx hy h1 h2
  go_enter Try.func82, Try.ntmps82
  go_wp2_with fail
  refine (sem_ok _ HX.out H1.out).mono ?_
  rintro e w1 ⟨rfl, hb⟩
  unfold sgv
  have hz := hb.size
  have HB := Lib.hid (hb.alloc hz (boxS S))
  unfold boxS at HB
  go_wp2_with fail
  refine (sem_no _ HY.out H2.out).mono ?_
  rintro e w2 ⟨⟨T, rfl⟩, hb2⟩
  unfold sgv
  have HB2 := Lib.hid ((below_next HB.out hb2).alloc (by have := hb.size; have := hb2.size; simp at this; omega) (boxS T))
  unfold boxS at HB2
  clear hb hb2
  go_wp2
  go_ret
  exact ⟨by rw [HV.out]; rfl, HB2.out⟩
theorem thenC_1 {a b : Int} (h : a ≠ 0) : thenC a b = a := if_pos h
theorem thenC_0 {a b : Int} (h : a = 0) : thenC a b = b := if_neg (by simp [h])
set_option maxRecDepth 100000 in
set_option maxHeartbeats 1000000 in
theorem cmp82_ss (x y : Bytes) (w : World) (hx : x.length ≤ maxLen) (hy : y.length ≤ maxLen) (S T : SV) (h1 : semP x = some S) (h2 : semP y = some T) :
    Calls Try.prog 82 #[.string (bs x), .string (bs y)] w fun e w' => e = .returned (.int .i64 (cmpV x y)) ∧ Below w.heap.size w w' := by
  have HX := Lib.hid hx
  have HY := Lib.hid hy
  have H1 := Lib.hid h1
  have H2 := Lib.hid h2
  have hv := cmpV_ss h1 h2
  have HL1 : Hid (S.pre.length ≤ maxLen) := Lib.hid (Nat.le_trans (sem_pre_len h1) hx)
  have HL2 : Hid (T.pre.length ≤ maxLen) := Lib.hid (Nat.le_trans (sem_pre_len h2) hy)
  clear hx hy h1 h2
  obtain ⟨M, m, p, s, q, u⟩ := S
  obtain ⟨M', m', p', s', q', u'⟩ := T
  simp only at hv HL1 HL2
  have HV := Lib.hid hv
  clear hv
  go_enter Try.func82, Try.ntmps82
  go_wp2_with fail
  refine (sem_ok _ HX.out H1.out).mono ?_
  rintro e w1 ⟨rfl, hb⟩
  unfold sgv
  have hz := hb.size
  have HB := Lib.hid (hb.alloc hz (boxS ⟨M, m, p, s, q, u⟩))
  unfold boxS at HB
  go_wp2_with fail
  refine (sem_ok _ HY.out H2.out).mono ?_
  rintro e w2 ⟨rfl, hb2⟩
  unfold sgv
  have c0 := cell_later hb2 (a := ⟨w1.heap.size, 0, none⟩) (v := .string (bs M)) (by simp)
  have c1 := cell_later hb2 (a := ⟨w1.heap.size, 1, none⟩) (v := .string (bs m)) (by simp)
  have c2 := cell_later hb2 (a := ⟨w1.heap.size, 2, none⟩) (v := .string (bs p)) (by simp)
  have c4 := cell_later hb2 (a := ⟨w1.heap.size, 4, none⟩) (v := .string (bs q)) (by simp)
  have hz2 : w1.heap.size < w2.heap.size := by have := hb2.size; simp at this; omega
  have HB2 := Lib.hid ((below_next HB.out hb2).alloc (by have := hb.size; omega) (boxS ⟨M', m', p', s', q', u'⟩))
  unfold boxS at HB2
  clear hb hb2
  go_wp2_with fail
  refine (semInt_any M M' _).mono ?_
  rintro e w' ⟨rfl, rfl⟩
  by_cases n0 : cmpB M M' = 0
  · have e0 : (cmpB M M' != 0) = false := by simp [n0]
    have HN0 := Lib.hid n0
    clear n0
    go_wp2_with fail
    refine (semInt_any m m' _).mono ?_
    rintro e w' ⟨rfl, rfl⟩
    by_cases n1 : cmpB m m' = 0
    · have e1 : (cmpB m m' != 0) = false := by simp [n1]
      have HN1 := Lib.hid n1
      clear n1
      go_wp2_with fail
      refine (semInt_any p p' _).mono ?_
      rintro e w' ⟨rfl, rfl⟩
      by_cases n2 : cmpB p p' = 0
      · have e2 : (cmpB p p' != 0) = false := by simp [n2]
        have HN2 := Lib.hid n2
        clear n2
        go_wp2_with fail
        refine (cmpPre_any q q' _ HL1.out HL2.out).mono ?_
        rintro e w' ⟨rfl, n, rfl⟩
        go_wp2
        go_ret
        exact ⟨by rw [HV.out, thenC_0 HN0.out, thenC_0 HN1.out, thenC_0 HN2.out]; rfl, below_drewN HB2.out n⟩
      · have e2 : (cmpB p p' != 0) = true := by simp [n2]
        have HN2 := Lib.hid n2
        clear n2
        go_wp2
        go_ret
        exact ⟨by rw [HV.out, thenC_0 HN0.out, thenC_0 HN1.out, thenC_1 HN2.out]; rfl, HB2.out⟩
    · have e1 : (cmpB m m' != 0) = true := by simp [n1]
      have HN1 := Lib.hid n1
      clear n1
      go_wp2
      go_ret
      exact ⟨by rw [HV.out, thenC_0 HN0.out, thenC_1 HN1.out]; rfl, HB2.out⟩
  · have e0 : (cmpB M M' != 0) = true := by simp [n0]
    have HN0 := Lib.hid n0
    clear n0
    go_wp2
    go_ret
    exact ⟨by rw [HV.out, thenC_1 HN0.out]; rfl, HB2.out⟩
theorem cmp82 (x y : Bytes) (w : World) (hx : x.length ≤ maxLen) (hy : y.length ≤ maxLen) :
    Calls Try.prog 82 #[.string (bs x), .string (bs y)] w fun e w' => e = .returned (.int .i64 (cmpV x y)) ∧ Below w.heap.size w w' := by
  cases h1 : semP x with
  | none =>
    cases h2 : semP y with
    | none => exact cmp82_nn x y w hx hy h1 h2
    | some T => exact cmp82_ns x y w hx hy T h1 h2
  | some S =>
    cases h2 : semP y with
    | none => exact cmp82_sn x y w hx hy S h1 h2
    | some T => exact cmp82_ss x y w hx hy S T h1 h2
theorem mc_other (path x y : Bytes) (w : World) (hx : x.length ≤ maxLen) (hy : y.length ≤ maxLen) (hg : path ≠ tGo) (ht : path ≠ tToolchain) :
    Calls Try.prog 61 #[.string (bs path), .string (bs x), .string (bs y)] w fun e w' => e = .returned (.int .i64 (cmpV x y)) ∧ Below w.heap.size w w' := by
  have HX := Lib.hid hx
  have HY := Lib.hid hy
  have e1 : (path == [103, 111]) = false := by simpa [tGo] using hg
  have e2 : (path == [116, 111, 111, 108, 99, 104, 97, 105, 110]) = false := by simpa [tToolchain] using ht
  clear hx hy hg ht
  go_enter Try.func61, Try.ntmps61
  go_wp2_with fail
  refine (cmp82 _ _ _ HX.out HY.out).mono ?_
  rintro e w' ⟨rfl, hb⟩
  go_wp2
  go_ret
  exact ⟨rfl, hb⟩
/-- impl.ModCompare, at every path. -/
theorem mc_any (path x y : Bytes) (w : World) (hx : x.length ≤ maxLen) (hy : y.length ≤ maxLen) :
    Calls Try.prog 40 #[.string (bs path), .string (bs x), .string (bs y)] w fun e w' => e = .returned (.int .i64 (modC path x y)) ∧ Below w.heap.size w w' := by
  unfold modC
  by_cases h1 : path = tGo
  · subst h1
    rw [if_pos rfl]
    exact mc40 (mc_go x y w hx hy)
  · by_cases h2 : path = tToolchain
    · subst h2
      rw [if_neg h1, if_pos rfl]
      exact mc40 (mc_tool x y w hx hy)
    · rw [if_neg h1, if_neg h2]
      exact mc40 (mc_other path x y w hx hy h1 h2)
end Go.Proofs.Ytdhibalpnccbiaa
