/- semver.comparePrerelease. -/
import Derived.Test.YtdhibalpnccbiaaOrd2
namespace Go.Proofs.Ytdhibalpnccbiaa
open Go.RowKit
set_option linter.unusedVariables false
def lenOf : Value → Nat
  | .string s => s.size
  | _ => 0
theorem lenOf_bs (l : Bytes) : lenOf (.string (bs l)) = l.length := bs_size l
theorem tk_len (p : UInt8 → Bool) (l : Bytes) : (l.takeWhile p).length ≤ l.length := (List.takeWhile_sublist p).length_le
theorem dw_len (p : UInt8 → Bool) (l : Bytes) : (l.dropWhile p).length ≤ l.length := (List.dropWhile_sublist p).length_le
theorem draws_next {w wr w' : World} (h : Draws w wr) (h2 : Draws wr w') : Draws w w' := by
  obtain ⟨n, rfl⟩ := h
  obtain ⟨m, rfl⟩ := h2
  exact ⟨n + m, by rw [World.drewN_drewN]⟩
theorem loopC_nil (B : List Bytes) : loopC [] B = -1 := rfl
theorem loopC_cons (a : Bytes) (A : List Bytes) : loopC (a :: A) [] = 1 := rfl
theorem loopC_eq {a b : Bytes} (h : a = b) (A B : List Bytes) : loopC (a :: A) (b :: B) = loopC A B := if_pos h
theorem loopC_ne {a b : Bytes} (h : ¬ a = b) (A B : List Bytes) : loopC (a :: A) (b :: B) = identC a b := if_neg h

set_option maxRecDepth 100000 in
set_option maxHeartbeats 2000000 in
theorem preLoop_any (x y : Bytes) (w : World) (hx : x.length ≤ maxLen) (hy : y.length ≤ maxLen) (hne : x ≠ y) (hx0 : x ≠ []) (hy0 : y ≠ []) :
    Calls Try.prog 94 #[.string (bs x), .string (bs y)] w fun e w' => e = .returned (.int .i64 (loopC (idt x) (idt y))) ∧ Draws w w' := by
  obtain ⟨res, hres⟩ : ∃ res, loopC (idt x) (idt y) = res := ⟨_, rfl⟩
  have HRES := Lib.hid hres
  have e1 : (x == y) = false := by simpa using hne
  have e2 : (x == []) = false := by simpa using hx0
  have e3 : (y == []) = false := by simpa using hy0
  have e2' : x.isEmpty = false := by simpa using hx0
  have e3' : y.isEmpty = false := by simpa using hy0
  have HX := Lib.hid hx
  have HY := Lib.hid hy
  clear hne hx0 hy0 hx hy
  rw [hres]
  clear hres
  go_enter Try.func94, Try.ntmps94
  go_wp2
  go_loopw [0, 1] (fun a b wr => ∃ X Y : Bytes, Hid (X.length ≤ maxLen) ∧ Hid (Y.length ≤ maxLen) ∧ Hid (loopC (idt X) (idt Y) = res) ∧ a = .string (bs X) ∧ b = .string (bs Y) ∧ Hid (Draws w wr)) (fun a _ _ => lenOf a)
  case atStart => exact ⟨x, y, HX, HY, HRES, rfl, rfl, Lib.hid ⟨0, rfl⟩⟩
  case round =>
    obtain ⟨X, Y, HXL, HYL, HR, rfl, rfl, HD⟩ := hrel
    clear HRES HX HY e1 e2 e3 e2' e3'
    cases X with
    | nil =>
      have HF : Hid (res = -1) := Lib.hid HR.out.symm
      go_wp2
      go_ret
      exact ⟨by rw [HF.out]; rfl, HD.out⟩
    | cons c X =>
      cases Y with
      | nil =>
        have HF : Hid (res = 1) := Lib.hid (by rw [← HR.out, idt_next]; rfl)
        go_wp2
        go_ret
        exact ⟨by rw [HF.out]; rfl, HD.out⟩
      | cons d Y =>
        have HX1 : Hid (X.length ≤ maxLen) := Lib.hid (by have := HXL.out; simp at this; omega)
        have HY1 : Hid (Y.length ≤ maxLen) := Lib.hid (by have := HYL.out; simp at this; omega)
        have hxy := HR.out
        rw [idt_next, idt_next] at hxy
        have HT1 : Hid ((X.takeWhile notDot).length ≤ maxLen) := Lib.hid (Nat.le_trans (tk_len _ _) HX1.out)
        have HT2 : Hid ((Y.takeWhile notDot).length ≤ maxLen) := Lib.hid (Nat.le_trans (tk_len _ _) HY1.out)
        have HD1 : Hid ((X.dropWhile notDot).length ≤ X.length) := Lib.hid (dw_len _ _)
        have HD2 : Hid ((Y.dropWhile notDot).length ≤ Y.length) := Lib.hid (dw_len _ _)
        have hnx := fun W => next_any X W HX1.out
        have hny := fun W => next_any Y W HY1.out
        have HNX := Lib.hid hnx
        have HNY := Lib.hid hny
        clear hnx hny
        generalize X.takeWhile notDot = dx at *
        generalize Y.takeWhile notDot = dy at *
        generalize X.dropWhile notDot = rx at *
        generalize Y.dropWhile notDot = ry at *
        by_cases he : dx = dy
        · have HF := Lib.hid ((loopC_eq he (idt rx) (idt ry)).symm.trans hxy)
          subst he
          have f1 : (dx != dx) = false := by simp
          clear hxy HR
          go_wp2_with fail
          refine (HNX.out _).mono ?_
          rintro e w' ⟨rfl, n1, rfl⟩
          go_wp2_with fail
          refine (HNY.out _).mono ?_
          rintro e w' ⟨rfl, n2, rfl⟩
          go_wp2
          go_roundw
          case rel => exact ⟨rx, ry, Lib.hid (Nat.le_trans HD1.out HX1.out), Lib.hid (Nat.le_trans HD2.out HY1.out), HF, rfl, rfl, Lib.hid (draws_next HD.out ⟨_, rfl⟩)⟩
          case measure => rw [lenOf_bs, lenOf_bs]; have := HD1.out; simp; omega
        · have hid := (loopC_ne he (idt rx) (idt ry)).symm.trans hxy
          have f1 : (dx != dy) = true := by simpa using he
          have f2 : (dx == dy) = false := by simpa using he
          unfold identC at hid
          rw [if_neg he] at hid
          clear hxy HR he
          cases hdx : dx.all isD <;> cases hdy : dy.all isD <;> simp only [hdx, hdy, if_true, if_false, Bool.false_eq_true] at hid
          · have HI := Lib.hid hid
            have HA := Lib.hid hdx
            have HB := Lib.hid hdy
            clear hid hdx hdy
            cases hl : Op.bytesLess dx dy
            · have HS := Lib.hid (cmpS_more f2 hl)
              go_wp2_with fail
              refine (HNX.out _).mono ?_
              rintro e w' ⟨rfl, n1, rfl⟩
              go_wp2_with fail
              refine (HNY.out _).mono ?_
              rintro e w' ⟨rfl, n2, rfl⟩
              go_wp2_with fail
              refine (isNum_any dx _ HT1.out).mono ?_
              rintro e w' ⟨rfl, rfl⟩
              rw [HA.out]
              go_wp2_with fail
              refine (isNum_any dy _ HT2.out).mono ?_
              rintro e w' ⟨rfl, rfl⟩
              rw [HB.out]
              go_wp2
              go_ret
              exact ⟨by rw [← HI.out, ← HS.out]; rfl, draws_next HD.out ⟨_, rfl⟩⟩
            · have HS := Lib.hid (cmpS_less f2 hl)
              go_wp2_with fail
              refine (HNX.out _).mono ?_
              rintro e w' ⟨rfl, n1, rfl⟩
              go_wp2_with fail
              refine (HNY.out _).mono ?_
              rintro e w' ⟨rfl, n2, rfl⟩
              go_wp2_with fail
              refine (isNum_any dx _ HT1.out).mono ?_
              rintro e w' ⟨rfl, rfl⟩
              rw [HA.out]
              go_wp2_with fail
              refine (isNum_any dy _ HT2.out).mono ?_
              rintro e w' ⟨rfl, rfl⟩
              rw [HB.out]
              go_wp2
              go_ret
              exact ⟨by rw [← HI.out, ← HS.out]; rfl, draws_next HD.out ⟨_, rfl⟩⟩
          · have HI := Lib.hid hid
            have HA := Lib.hid hdx
            have HB := Lib.hid hdy
            clear hid hdx hdy
            go_wp2_with fail
            refine (HNX.out _).mono ?_
            rintro e w' ⟨rfl, n1, rfl⟩
            go_wp2_with fail
            refine (HNY.out _).mono ?_
            rintro e w' ⟨rfl, n2, rfl⟩
            go_wp2_with fail
            refine (isNum_any dx _ HT1.out).mono ?_
            rintro e w' ⟨rfl, rfl⟩
            rw [HA.out]
            go_wp2_with fail
            refine (isNum_any dy _ HT2.out).mono ?_
            rintro e w' ⟨rfl, rfl⟩
            rw [HB.out]
            go_wp2
            go_ret
            exact ⟨by rw [← HI.out]; rfl, draws_next HD.out ⟨_, rfl⟩⟩
          · have HI := Lib.hid hid
            have HA := Lib.hid hdx
            have HB := Lib.hid hdy
            clear hid hdx hdy
            go_wp2_with fail
            refine (HNX.out _).mono ?_
            rintro e w' ⟨rfl, n1, rfl⟩
            go_wp2_with fail
            refine (HNY.out _).mono ?_
            rintro e w' ⟨rfl, n2, rfl⟩
            go_wp2_with fail
            refine (isNum_any dx _ HT1.out).mono ?_
            rintro e w' ⟨rfl, rfl⟩
            rw [HA.out]
            go_wp2_with fail
            refine (isNum_any dy _ HT2.out).mono ?_
            rintro e w' ⟨rfl, rfl⟩
            rw [HB.out]
            go_wp2
            go_ret
            exact ⟨by rw [← HI.out]; rfl, draws_next HD.out ⟨_, rfl⟩⟩
          · have HI := Lib.hid hid
            have HA := Lib.hid hdx
            have HB := Lib.hid hdy
            clear hid hdx hdy
            have u1 := HT1.out
            have u2 := HT2.out
            unfold maxLen at u1 u2
            rcases cmpB_cases dx dy with h | ⟨h, h1⟩ | ⟨h, h1⟩ | ⟨h, h1, h2⟩ | ⟨h, h1, h2⟩
            · rw [f2] at h; cases h
            all_goals
              have HS := Lib.hid (show cmpB dx dy = _ from by first | exact (cmpB_lt h h1).symm | exact (cmpB_gt h h1).symm | exact (cmpB_less h h1 h2).symm | exact (cmpB_more h h1 h2).symm)
              clear h
              go_wp2_with fail
              refine (HNX.out _).mono ?_
              rintro e w' ⟨rfl, n1, rfl⟩
              go_wp2_with fail
              refine (HNY.out _).mono ?_
              rintro e w' ⟨rfl, n2, rfl⟩
              go_wp2_with fail
              refine (isNum_any dx _ HT1.out).mono ?_
              rintro e w' ⟨rfl, rfl⟩
              rw [HA.out]
              go_wp2_with fail
              refine (isNum_any dy _ HT2.out).mono ?_
              rintro e w' ⟨rfl, rfl⟩
              rw [HB.out]
              go_wp2
              go_ret
              exact ⟨by rw [← HI.out, HS.out]; rfl, draws_next HD.out ⟨_, rfl⟩⟩
theorem cmpPre_any (x y : Bytes) (w : World) (hx : x.length ≤ maxLen) (hy : y.length ≤ maxLen) :
    Calls Try.prog 94 #[.string (bs x), .string (bs y)] w fun e w' => e = .returned (.int .i64 (cpR x y)) ∧ Draws w w' := by
  by_cases h : x = y
  · have HF : Hid (cpR x y = 0) := Lib.hid (if_pos h)
    have e1 : (x == y) = true := by simpa using h
    clear h
    go_enter Try.func94, Try.ntmps94
    go_wp2
    go_ret
    exact ⟨by rw [HF.out]; rfl, 0, rfl⟩
  by_cases h1 : x = []
  · have HF : Hid (cpR x y = 1) := Lib.hid (by unfold cpR; rw [if_neg h, if_pos h1])
    have e1 : (x == y) = false := by simpa using h
    have e2 : (x == []) = true := by simpa using h1
    have e2' : x.isEmpty = true := by simpa using h1
    clear h h1
    go_enter Try.func94, Try.ntmps94
    go_wp2
    go_ret
    exact ⟨by rw [HF.out]; rfl, 0, rfl⟩
  by_cases h2 : y = []
  · have HF : Hid (cpR x y = -1) := Lib.hid (by unfold cpR; rw [if_neg h, if_neg h1, if_pos h2])
    have e1 : (x == y) = false := by simpa using h
    have e2 : (x == []) = false := by simpa using h1
    have e2' : x.isEmpty = false := by simpa using h1
    have e3 : (y == []) = true := by simpa using h2
    have e3' : y.isEmpty = true := by simpa using h2
    clear h h1 h2
    go_enter Try.func94, Try.ntmps94
    go_wp2
    go_ret
    exact ⟨by rw [HF.out]; rfl, 0, rfl⟩
  · have hc : cpR x y = loopC (idt x) (idt y) := by unfold cpR; rw [if_neg h, if_neg h1, if_neg h2]
    rw [hc]
    exact preLoop_any x y w hx hy h h1 h2
end Go.Proofs.Ytdhibalpnccbiaa
