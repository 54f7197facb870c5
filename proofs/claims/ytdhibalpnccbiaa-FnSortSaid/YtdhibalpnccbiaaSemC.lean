/- semver.comparePrerelease. -/
import Derived.Test.YtdhibalpnccbiaaOrd2
namespace Go.Proofs.Ytdhibalpnccbiaa
open Go.RowKit
set_option linter.unusedVariables false
def lenOf : Value → Nat
  | .string s => s.size
  | _ => 0
theorem lenOf_bs (l : Bytes) : lenOf (.string (bs l)) = l.length := bs_size l
theorem tk_len (p : UInt8 → Bool) (l : Bytes) : (l.takeWhile p).length ≤ l.length := (List.takeWhile_sublist p).length_le
theorem dw_len (p : UInt8 → Bool) (l : Bytes) : (l.dropWhile p).length ≤ l.length := (List.dropWhile_sublist p).length_le
theorem draws_next {w wr w' : World} (h : Draws w wr) (h2 : Draws wr w') : Draws w w' := by
  obtain ⟨n, rfl⟩ := h
  obtain ⟨m, rfl⟩ := h2
  exact ⟨n + m, by rw [World.drewN_drewN]⟩
theorem loopC_nil (B : List Bytes) : loopC [] B = -1 := rfl
theorem loopC_cons (a : Bytes) (A : List Bytes) : loopC (a :: A) [] = 1 := rfl
theorem loopC_eq {a b : Bytes} (h : a = b) (A B : List Bytes) : loopC (a :: A) (b :: B) = loopC A B := if_pos h
theorem loopC_ne {a b : Bytes} (h : ¬ a = b) (A B : List Bytes) : loopC (a :: A) (b :: B) = identC a b := if_neg h

set_option maxRecDepth 100000 in
set_option maxHeartbeats 2000000 in
theorem preLoop_any (x y : Bytes) (w : World) (hx : x.length ≤ maxLen) (hy : y.length ≤ maxLen) (hne : x ≠ y) (hx0 : x ≠ []) (hy0 : y ≠ []) :
    Calls Try.prog 94 #[.string (bs x), .string (bs y)] w fun e w' => e = .returned (.int .i64 (loopC (idt x) (idt y))) ∧ Draws w w' := by
  obtain ⟨res, hres⟩ : ∃ res, loopC (idt x) (idt y) = res := ⟨_, rfl⟩
  have HRES := Lib.hid hres
  have e1 : (x == y) = false := by simpa using hne
  have e2 : (x == []) = false := by simpa using hx0
  have e3 : (y == []) = false := by simpa using hy0
  have e2' : x.isEmpty = false := by simpa using hx0
  have e3' : y.isEmpty = false := by simpa using hy0
  have HX := Lib.hid hx
  have HY := Lib.hid hy
  clear hne hx0 hy0 hx hy
  rw [hres]
  clear hres
  go_enter Try.func94, Try.ntmps94
  go_wp2
  go_loopw [0, 1] (fun a b wr => ∃ X Y : Bytes, Hid (X.length ≤ maxLen) ∧ Hid (Y.length ≤ maxLen) ∧ Hid (loopC (idt X) (idt Y) = res) ∧ a = .string (bs X) ∧ b = .string (bs Y) ∧ Hid (Draws w wr)) (fun a _ _ => lenOf a)
  case atStart => exact ⟨x, y, HX, HY, HRES, rfl, rfl, Lib.hid ⟨0, rfl⟩⟩
  case round =>
    obtain ⟨X, Y, HXL, HYL, HR, rfl, rfl, HD⟩ := hrel
    clear HRES HX HY e1 e2 e3 e2' e3'
    cases X with
    | nil =>
      have HF : Hid (res = -1) := Lib.hid HR.out.symm
      go_wp2
      go_ret
      exact ⟨by rw [HF.out]; rfl, HD.out⟩
    | cons c X =>
      cases Y with
      | nil =>
        have HF : Hid (res = 1) := Lib.hid (by rw [← HR.out, idt_next]; rfl)
        go_wp2
        go_ret
        exact ⟨by rw [HF.out]; rfl, HD.out⟩
      | cons d Y =>
        have HX1 : Hid (X.length ≤ maxLen) := Lib.hid (by have := HXL.out; simp at this; omega)
        have HY1 : Hid (Y.length ≤ maxLen) := Lib.hid (by have := HYL.out; simp at this; omega)
        have hxy := HR.out
        rw [idt_next, idt_next] at hxy
        have HT1 : Hid ((X.takeWhile notDot).length ≤ maxLen) := Lib.hid (Nat.le_trans (tk_len _ _) HX1.out)
        have HT2 : Hid ((Y.takeWhile notDot).length ≤ maxLen) := Lib.hid (Nat.le_trans (tk_len _ _) HY1.out)
        have HD1 : Hid ((X.dropWhile notDot).length ≤ X.length) := Lib.hid (dw_len _ _)
        have HD2 : Hid ((Y.dropWhile notDot).length ≤ Y.length) := Lib.hid (dw_len _ _)
        have hnx := fun W => next_any X W HX1.out
        have hny := fun W => next_any Y W HY1.out
        have HNX := Lib.hid hnx
        have HNY := Lib.hid hny
        clear hnx hny
        generalize X.takeWhile notDot = dx at *
        generalize Y.takeWhile notDot = dy at *
        generalize X.dropWhile notDot = rx at *
        generalize Y.dropWhile notDot = ry at *
        by_cases he : dx = dy
        · have HF := Lib.hid ((loopC_eq he (idt rx) (idt ry)).symm.trans hxy)
          subst he
          have f1 : (dx != dx) = false := by simp
          clear hxy HR
          go_wp2_with fail
          refine (HNX.out _).mono ?_
          rintro e w' ⟨rfl, n1, rfl⟩
          go_wp2_with fail
          refine (HNY.out _).mono ?_
          rintro e w' ⟨rfl, n2, rfl⟩
          go_wp2
          go_roundw
          case rel => exact ⟨rx, ry, Lib.hid (Nat.le_trans HD1.out HX1.out), Lib.hid (Nat.le_trans HD2.out HY1.out), HF, rfl, rfl, Lib.hid (draws_next HD.out ⟨_, rfl⟩)⟩
          case measure => rw [lenOf_bs, lenOf_bs]; have := HD1.out; simp; omega
        · have hid := (loopC_ne he (idt rx) (idt ry)).symm.trans hxy
          have f1 : (dx != dy) = true := by simpa using he
          have f2 : (dx == dy) = false := by simpa using he
          unfold identC at hid
          rw [if_neg he] at hid
          clear hxy HR he
          cases hdx : dx.all isD <;> cases hdy : dy.all isD <;> simp only [hdx, hdy, if_true, if_false, Bool.false_eq_true] at hid
          · have HI := Lib.hid hid
            have HA := Lib.hid hdx
            have HB := Lib.hid hdy
            clear hid hdx hdy
            cases hl : Op.bytesLess dx dy
            · have HS := Lib.hid (cmpS_more f2 hl)
              go_wp2_with fail
              refine (HNX.out _).mono ?_
              rintro e w' ⟨rfl, n1, rfl⟩
              go_wp2_with fail
              refine (HNY.out _).mono ?_
              rintro e w' ⟨rfl, n2, rfl⟩
              go_wp2_with fail
              refine (isNum_any dx _ HT1.out).mono ?_
              rintro e w' ⟨rfl, rfl⟩
              rw [HA.out]
              go_wp2_with fail
              refine (isNum_any dy _ HT2.out).mono ?_
              rintro e w' ⟨rfl, rfl⟩
              rw [HB.out]
              go_wp2
              go_ret
              exact ⟨by rw [← HI.out, ← HS.out]; rfl, draws_next HD.out ⟨_, rfl⟩⟩
            · have HS := Lib.hid (cmpS_less f2 hl)
              go_wp2_with fail
              refine (HNX.out _).mono ?_
              rintro e w' ⟨rfl, n1, rfl⟩
              go_wp2_with fail
              refine (HNY.out _).mono ?_
              rintro e w' ⟨rfl, n2, rfl⟩
              go_wp2_with fail
              refine (isNum_any dx _ HT1.out).mono ?_
              rintro e w' ⟨rfl, rfl⟩
              rw [HA.out]
              go_wp2_with fail
              refine (isNum_any dy _ HT2.out).mono ?_
              rintro e w' ⟨rfl, rfl⟩
              rw [HB.out]
              go_wp2
              go_ret
              exact ⟨by rw [← HI.out, ← HS.out]; rfl, draws_next HD.out ⟨_, rfl⟩⟩
          · have HI := Lib.hid hid
            have HA := Lib.hid hdx
            have HB := Lib.hid hdy
            clear hid hdx hdy
            go_wp2_with fail
            refine (HNX.out _).mono ?_
            rintro e w' ⟨rfl, n1, rfl⟩
            go_wp2_with fail
            refine (HNY.out _).mono ?_
            rintro e w' ⟨rfl, n2, rfl⟩
            go_wp2_with fail
            refine (isNum_any dx _ HT1.out).mono ?_
            rintro e w' ⟨rfl, rfl⟩
            rw [HA.out]
            go_wp2_with fail
            refine (isNum_any dy _ HT2.out).mono ?_
            rintro e w' ⟨rfl, rfl⟩
            rw [HB.out]
            go_wp2
            go_ret
            exact ⟨by rw [← HI.out]; rfl, draws_next HD.out ⟨_, rfl⟩⟩
          · have HI := Lib.hid hid
            have HA := Lib.hid hdx
            have HB := Lib.hid hdy
            clear hid hdx hdy
            go_wp2_with fail
            refine (HNX.out _).mono ?_
            rintro e w' ⟨rfl, n1, rfl⟩
            go_wp2_with fail
            refine (HNY.out _).mono ?_
            rintro e w' ⟨rfl, n2, rfl⟩
            go_wp2_with fail
            refine (isNum_any dx _ HT1.out).mono ?_
            rintro e w' ⟨rfl, rfl⟩
            rw [HA.out]
            go_wp2_with fail
            refine (isNum_any dy _ HT2.out).mono ?_
            rintro e w' ⟨rfl, rfl⟩
            rw [HB.out]
            go_wp2
            go_ret
            exact ⟨by rw [← HI.out]; rfl, draws_next HD.out ⟨_, rfl⟩⟩
          · have HI := Lib.hid hid
            have HA := Lib.hid hdx
            have HB := Lib.hid hdy
            clear hid hdx hdy
            have u1 := HT1.out
            have u2 := HT2.out
            unfold maxLen at u1 u2
            rcases cmpB_cases dx dy with h | ⟨h, h1⟩ | ⟨h, h1⟩ | ⟨h, h1, h2⟩ | ⟨h, h1, h2⟩
            · rw [f2] at h; cases h
            all_goals
              have HS := Lib.hid (show cmpB dx dy = _ from by first | exact (cmpB_lt h h1).symm | exact (cmpB_gt h h1).symm | exact (cmpB_less h h1 h2).symm | exact (cmpB_more h h1 h2).symm)
              clear h
              go_wp2_with fail
              refine (HNX.out _).mono ?_
              rintro e w' ⟨rfl, n1, rfl⟩
              go_wp2_with fail
              refine (HNY.out _).mono ?_
              rintro e w' ⟨rfl, n2, rfl⟩
              go_wp2_with fail
              refine (isNum_any dx _ HT1.out).mono ?_
              rintro e w' ⟨rfl, rfl⟩
              rw [HA.out]
              go_wp2_with fail
              refine (isNum_any dy _ HT2.out).mono ?_
              rintro e w' ⟨rfl, rfl⟩
              rw [HB.out]
              go_wp2
              go_ret
              exact ⟨by rw [← HI.out, HS.out]; rfl, draws_next HD.out ⟨_, rfl⟩⟩
theorem cmpPre_any (x y : Bytes) (w : World) (hx : x.length ≤ maxLen) (hy : y.length ≤ maxLen) :
    Calls Try.prog 94 #[.string (bs x), .string (bs y)] w fun e w' => e = .returned (.int .i64 (cpR x y)) ∧ Draws w w' := by
  by_cases h : x = y
  · have HF : Hid (cpR x y = 0) := Lib.hid (if_pos h)
    have e1 : (x == y) = true := by simpa using h
    clear h
    go_enter Try.func94, Try.ntmps94
    go_wp2
    go_ret
    exact ⟨by rw [HF.out]; rfl, 0, rfl⟩
  by_cases h1 : x = []
  · have HF : Hid (cpR x y = 1) := Lib.hid (by unfold cpR; rw [if_neg h, if_pos h1])
    have e1 : (x == y) = false := by simpa using h
    have e2 : (x == []) = true := by simpa using h1
    have e2' : x.isEmpty = true := by simpa using h1
    clear h h1
    go_enter Try.func94, Try.ntmps94
    go_wp2
    go_ret
    exact ⟨by rw [HF.out]; rfl, 0, rfl⟩
  by_cases h2 : y = []
  · have HF : Hid (cpR x y = -1) := Lib.hid (by unfold cpR; rw [if_neg h, if_neg h1, if_pos h2])
    have e1 : (x == y) = false := by simpa using h
    have e2 : (x == []) = false := by simpa using h1
    have e2' : x.isEmpty = false := by simpa using h1
    have e3 : (y == []) = true := by simpa using h2
    have e3' : y.isEmpty = true := by simpa using h2
    clear h h1 h2
    go_enter Try.func94, Try.ntmps94
    go_wp2
    go_ret
    exact ⟨by rw [HF.out]; rfl, 0, rfl⟩
  · have hc : cpR x y = loopC (idt x) (idt y) := by unfold cpR; rw [if_neg h, if_neg h1, if_neg h2]
    rw [hc]
    exact preLoop_any x y w hx hy h h1 h2
end Go.Proofs.Ytdhibalpnccbiaa

namespace Go.Proofs.Ytdhibalpnccbiaa
open Go.RowKit
set_option linter.unusedVariables false
def boxS (S : SV) : Obj := .cells #[.string (bs S.maj), .string (bs S.min), .string (bs S.pat), .string (bs S.short), .string (bs S.pre), .string (bs S.build)] 75
theorem optC_nn : optC cmpSV none none = 0 := rfl
theorem cmpV_nn {x y : Bytes} (hx : semP x = none) (hy : semP y = none) : cmpV x y = 0 := by unfold cmpV; rw [hx, hy]; rfl
theorem cmpV_ns {x y : Bytes} {T : SV} (hx : semP x = none) (hy : semP y = some T) : cmpV x y = -1 := by unfold cmpV; rw [hx, hy]; rfl
theorem cmpV_sn {x y : Bytes} {S : SV} (hx : semP x = some S) (hy : semP y = none) : cmpV x y = 1 := by unfold cmpV; rw [hx, hy]; rfl
theorem cmpV_ss {x y : Bytes} {S T : SV} (hx : semP x = some S) (hy : semP y = some T) : cmpV x y = thenC (cmpB S.maj T.maj) (thenC (cmpB S.min T.min) (thenC (cmpB S.pat T.pat) (cpR S.pre T.pre))) := by
  unfold cmpV; rw [hx, hy, cpR_pk (sem_dash hx) (sem_dash hy)]; rfl
theorem sem_pre_len {l : Bytes} {S : SV} (h : semP l = some S) : S.pre.length ≤ l.length := by
  cases l with
  | nil => cases h
  | cons c r =>
    unfold semP at h
    simp only at h
    split at h
    · cases h
    · rcases h1 : cutI r with _ | ⟨M, _ | ⟨d, x⟩⟩ <;> simp only [h1] at h
      · cases h
      · cases h; simp
      · have hl1 := cutI_len h1
        split at h
        · cases h
        · rcases h2 : cutI x with _ | ⟨m, _ | ⟨d2, y⟩⟩ <;> simp only [h2] at h
          · cases h
          · cases h; simp
          · have hl2 := cutI_len h2
            split at h
            · cases h
            · rcases h3 : cutI y with _ | ⟨p, z⟩ <;> simp only [h3] at h
              · cases h
              · have hl3 := cutI_len h3
                rcases h4 : tailP z with _ | ⟨a, b⟩ <;> simp only [h4] at h
                · cases h
                · cases h
                  have ha : a.length ≤ z.length := by
                    unfold tailP at h4
                    split at h4
                    · cases h4; simp
                    · split at h4
                      · split at h4
                        · cases h4
                        · split at h4
                          · cases h4
                          · cases h4; simp
                      · split at h4
                        · cases h4
                        · cases h4; simp
                  simp at hl1 hl2 ⊢
                  omega
set_option maxRecDepth 100000 in
set_option maxHeartbeats 1000000 in
theorem cmp82_nn (x y : Bytes) (w : World) (hx : x.length ≤ maxLen) (hy : y.length ≤ maxLen) (h1 : semP x = none) (h2 : semP y = none) :
    Calls Try.prog 82 #[.string (bs x), .string (bs y)] w fun e w' => e = .returned (.int .i64 (cmpV x y)) ∧ Below w.heap.size w w' := by
  have HX := Lib.hid hx
  have HY := Lib.hid hy
  have H1 := Lib.hid h1
  have H2 := Lib.hid h2
  have HV := Lib.hid (cmpV_nn h1 h2)
  clear hx hy h1 h2
  go_enter Try.func82, Try.ntmps82
  go_wp2_with fail
  refine (sem_no _ HX.out H1.out).mono ?_
  rintro e w1 ⟨⟨S, rfl⟩, hb⟩
  unfold sgv
  have hz := hb.size
  have HB := Lib.hid (hb.alloc hz (boxS S))
  unfold boxS at HB
  go_wp2_with fail
  refine (sem_no _ HY.out H2.out).mono ?_
  rintro e w2 ⟨⟨T, rfl⟩, hb2⟩
  unfold sgv
  have HB2 := Lib.hid ((below_next HB.out hb2).alloc (by have := hb.size; have := hb2.size; simp at this; omega) (boxS T))
  unfold boxS at HB2
  clear hb hb2
  go_wp2
  go_ret
  exact ⟨by rw [HV.out]; rfl, HB2.out⟩
set_option maxRecDepth 100000 in
set_option maxHeartbeats 1000000 in
theorem cmp82_ns (x y : Bytes) (w : World) (hx : x.length ≤ maxLen) (hy : y.length ≤ maxLen) (T : SV) (h1 : semP x = none) (h2 : semP y = some T) :
    Calls Try.prog 82 #[.string (bs x), .string (bs y)] w fun e w' => e = .returned (.int .i64 (cmpV x y)) ∧ Below w.heap.size w w' := by
  have HX := Lib.hid hx
  have HY := Lib.hid hy
  have H1 := Lib.hid h1
  have H2 := Lib.hid h2
  have HV := Lib.hid (cmpV_ns h1 h2)
  clear hx hy h1 h2
  go_enter Try.func82, Try.ntmps82
  go_wp2_with fail
  refine (sem_no _ HX.out H1.out).mono ?_
  rintro e w1 ⟨⟨S, rfl⟩, hb⟩
  unfold sgv
  have hz := hb.size
  have HB := Lib.hid (hb.alloc hz (boxS S))
  unfold boxS at HB
  go_wp2_with fail
  refine (sem_ok _ HY.out H2.out).mono ?_
  rintro e w2 ⟨rfl, hb2⟩
  unfold sgv
  have HB2 := Lib.hid ((below_next HB.out hb2).alloc (by have := hb.size; have := hb2.size; simp at this; omega) (boxS T))
  unfold boxS at HB2
  clear hb hb2
  go_wp2
  go_ret
  exact ⟨by rw [HV.out]; rfl, HB2.out⟩
set_option maxRecDepth 100000 in
set_option maxHeartbeats 1000000 in
theorem cmp82_sn (x y : Bytes) (w : World) (hx : x.length ≤ maxLen) (hy : y.length ≤ maxLen) (S : SV) (h1 : semP x = some S) (h2 : semP y = none) :
    Calls Try.prog 82 #[.string (bs x), .string (bs y)] w fun e w' => e = .returned (.int .i64 (cmpV x y)) ∧ Below w.heap.size w w' := by
  have HX := Lib.hid hx
  have HY := Lib.hid hy
  have H1 := Lib.hid h1
  have H2 := Lib.hid h2
  have HV := Lib.hid (cmpV_sn h1 h2)
  clear hx hy h1 h2
  go_enter Try.func82, Try.ntmps82
  go_wp2_with fail
  refine (sem_ok _ HX.out H1.out).mono ?_
  rintro e w1 ⟨rfl, hb⟩
  unfold sgv
  have hz := hb.size
  have HB := Lib.hid (hb.alloc hz (boxS S))
  unfold boxS at HB
  go_wp2_with fail
  refine (sem_no _ HY.out H2.out).mono ?_
  rintro e w2 ⟨⟨T, rfl⟩, hb2⟩
  unfold sgv
  have HB2 := Lib.hid ((below_next HB.out hb2).alloc (by have := hb.size; have := hb2.size; simp at this; omega) (boxS T))
  unfold boxS at HB2
  clear hb hb2
  go_wp2
  go_ret
  exact ⟨by rw [HV.out]; rfl, HB2.out⟩
theorem thenC_1 {a b : Int} (h : a ≠ 0) : thenC a b = a := if_pos h
theorem thenC_0 {a b : Int} (h : a = 0) : thenC a b = b := if_neg (by simp [h])
set_option maxRecDepth 100000 in
set_option maxHeartbeats 1000000 in
theorem cmp82_ss (x y : Bytes) (w : World) (hx : x.length ≤ maxLen) (hy : y.length ≤ maxLen) (S T : SV) (h1 : semP x = some S) (h2 : semP y = some T) :
    Calls Try.prog 82 #[.string (bs x), .string (bs y)] w fun e w' => e = .returned (.int .i64 (cmpV x y)) ∧ Below w.heap.size w w' := by
  have HX := Lib.hid hx
  have HY := Lib.hid hy
  have H1 := Lib.hid h1
  have H2 := Lib.hid h2
  have hv := cmpV_ss h1 h2
  have HL1 : Hid (S.pre.length ≤ maxLen) := Lib.hid (Nat.le_trans (sem_pre_len h1) hx)
  have HL2 : Hid (T.pre.length ≤ maxLen) := Lib.hid (Nat.le_trans (sem_pre_len h2) hy)
  clear hx hy h1 h2
  obtain ⟨M, m, p, s, q, u⟩ := S
  obtain ⟨M', m', p', s', q', u'⟩ := T
  simp only at hv HL1 HL2
  have HV := Lib.hid hv
  clear hv
  go_enter Try.func82, Try.ntmps82
  go_wp2_with fail
  refine (sem_ok _ HX.out H1.out).mono ?_
  rintro e w1 ⟨rfl, hb⟩
  unfold sgv
  have hz := hb.size
  have HB := Lib.hid (hb.alloc hz (boxS ⟨M, m, p, s, q, u⟩))
  unfold boxS at HB
  go_wp2_with fail
  refine (sem_ok _ HY.out H2.out).mono ?_
  rintro e w2 ⟨rfl, hb2⟩
  unfold sgv
  have c0 := cell_later hb2 (a := ⟨w1.heap.size, 0, none⟩) (v := .string (bs M)) (by simp)
  have c1 := cell_later hb2 (a := ⟨w1.heap.size, 1, none⟩) (v := .string (bs m)) (by simp)
  have c2 := cell_later hb2 (a := ⟨w1.heap.size, 2, none⟩) (v := .string (bs p)) (by simp)
  have c4 := cell_later hb2 (a := ⟨w1.heap.size, 4, none⟩) (v := .string (bs q)) (by simp)
  have hz2 : w1.heap.size < w2.heap.size := by have := hb2.size; simp at this; omega
  have HB2 := Lib.hid ((below_next HB.out hb2).alloc (by have := hb.size; omega) (boxS ⟨M', m', p', s', q', u'⟩))
  unfold boxS at HB2
  clear hb hb2
  go_wp2_with fail
  refine (semInt_any M M' _).mono ?_
  rintro e w' ⟨rfl, rfl⟩
  by_cases n0 : cmpB M M' = 0
  · have e0 : (cmpB M M' != 0) = false := by simp [n0]
    have HN0 := Lib.hid n0
    clear n0
    go_wp2_with fail
    refine (semInt_any m m' _).mono ?_
    rintro e w' ⟨rfl, rfl⟩
    by_cases n1 : cmpB m m' = 0
    · have e1 : (cmpB m m' != 0) = false := by simp [n1]
      have HN1 := Lib.hid n1
      clear n1
      go_wp2_with fail
      refine (semInt_any p p' _).mono ?_
      rintro e w' ⟨rfl, rfl⟩
      by_cases n2 : cmpB p p' = 0
      · have e2 : (cmpB p p' != 0) = false := by simp [n2]
        have HN2 := Lib.hid n2
        clear n2
        go_wp2_with fail
        refine (cmpPre_any q q' _ HL1.out HL2.out).mono ?_
        rintro e w' ⟨rfl, n, rfl⟩
        go_wp2
        go_ret
        exact ⟨by rw [HV.out, thenC_0 HN0.out, thenC_0 HN1.out, thenC_0 HN2.out]; rfl, below_drewN HB2.out n⟩
      · have e2 : (cmpB p p' != 0) = true := by simp [n2]
        have HN2 := Lib.hid n2
        clear n2
        go_wp2
        go_ret
        exact ⟨by rw [HV.out, thenC_0 HN0.out, thenC_0 HN1.out, thenC_1 HN2.out]; rfl, HB2.out⟩
    · have e1 : (cmpB m m' != 0) = true := by simp [n1]
      have HN1 := Lib.hid n1
      clear n1
      go_wp2
      go_ret
      exact ⟨by rw [HV.out, thenC_0 HN0.out, thenC_1 HN1.out]; rfl, HB2.out⟩
  · have e0 : (cmpB M M' != 0) = true := by simp [n0]
    have HN0 := Lib.hid n0
    clear n0
    go_wp2
    go_ret
    exact ⟨by rw [HV.out, thenC_1 HN0.out]; rfl, HB2.out⟩
theorem cmp82 (x y : Bytes) (w : World) (hx : x.length ≤ maxLen) (hy : y.length ≤ maxLen) :
    Calls Try.prog 82 #[.string (bs x), .string (bs y)] w fun e w' => e = .returned (.int .i64 (cmpV x y)) ∧ Below w.heap.size w w' := by
  cases h1 : semP x with
  | none =>
    cases h2 : semP y with
    | none => exact cmp82_nn x y w hx hy h1 h2
    | some T => exact cmp82_ns x y w hx hy T h1 h2
  | some S =>
    cases h2 : semP y with
    | none => exact cmp82_sn x y w hx hy S h1 h2
    | some T => exact cmp82_ss x y w hx hy S T h1 h2
theorem mc_other (path x y : Bytes) (w : World) (hx : x.length ≤ maxLen) (hy : y.length ≤ maxLen) (hg : path ≠ tGo) (ht : path ≠ tToolchain) :
    Calls Try.prog 61 #[.string (bs path), .string (bs x), .string (bs y)] w fun e w' => e = .returned (.int .i64 (cmpV x y)) ∧ Below w.heap.size w w' := by
  have HX := Lib.hid hx
  have HY := Lib.hid hy
  have e1 : (path == [103, 111]) = false := by simpa [tGo] using hg
  have e2 : (path == [116, 111, 111, 108, 99, 104, 97, 105, 110]) = false := by simpa [tToolchain] using ht
  clear hx hy hg ht
  go_enter Try.func61, Try.ntmps61
  go_wp2_with fail
  refine (cmp82 _ _ _ HX.out HY.out).mono ?_
  rintro e w' ⟨rfl, hb⟩
  go_wp2
  go_ret
  exact ⟨rfl, hb⟩
/-- impl.ModCompare, at every path. -/
theorem mc_any (path x y : Bytes) (w : World) (hx : x.length ≤ maxLen) (hy : y.length ≤ maxLen) :
    Calls Try.prog 40 #[.string (bs path), .string (bs x), .string (bs y)] w fun e w' => e = .returned (.int .i64 (modC path x y)) ∧ Below w.heap.size w w' := by
  unfold modC
  by_cases h1 : path = tGo
  · subst h1
    rw [if_pos rfl]
    exact mc40 (mc_go x y w hx hy)
  · by_cases h2 : path = tToolchain
    · subst h2
      rw [if_neg h1, if_pos rfl]
      exact mc40 (mc_tool x y w hx hy)
    · rw [if_neg h1, if_neg h2]
      exact mc40 (mc_other path x y w hx hy h1 h2)
end Go.Proofs.Ytdhibalpnccbiaa
