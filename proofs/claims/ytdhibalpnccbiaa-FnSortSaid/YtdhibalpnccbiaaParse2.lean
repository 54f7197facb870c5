/- gover.Parse: what comes ahead of a release. -/
import Derived.Test.YtdhibalpnccbiaaParse
namespace Go.Proofs.Ytdhibalpnccbiaa
open Go.RowKit
set_option linter.unusedVariables false

theorem isL_bl (l : Bytes) (k : Nat) (h : k < l.length) : isL l[k] = (decide (97 ≤ bl l k) && decide (bl l k ≤ 122)) := by
  rw [bl_get l k h]; rfl
theorem notD_bl (l : Bytes) (k : Nat) (h : k < l.length) : notD l[k] = !(decide (48 ≤ bl l k) && decide (bl l k ≤ 57)) := by
  unfold notD; rw [isD_bl l k h]

set_option maxRecDepth 100000 in
set_option maxHeartbeats 1000000 in
theorem parse_bad (l M x m Y : Bytes) (w : World) (hs : l.length ≤ maxLen) (h : cutI l = some (M, 46 :: x)) (h2 : cutI x = some (m, Y)) (hY : 0 < Y.length) (hb : bl Y 0 ≠ 46) (h3 : (Y.takeWhile notD).all isL = false) :
    Calls Try.prog 66 #[.string (bs l)] w fun e w' => e = .returned (gv zero) ∧ Below w.heap.size w w' := by
  have HS := Lib.hid hs
  have HL := Lib.hid (cutI_len h)
  have HX : Hid (x.length ≤ maxLen) := by have := HL.out; simp at this; show _ ≤ _; omega
  have hy : Y.length ≤ maxLen := by have := cutI_len h2; have := HX.out; omega
  have H := Lib.hid h
  have H2 := Lib.hid h2
  have H3 := Lib.hid h3
  have hne : (Y == []) = false := by cases Y <;> simp_all
  have hne2 : Y.isEmpty = false := by cases Y <;> simp_all
  have hb2 : ((bl Y 0 : Int) == 46) = false := by simp; omega
  clear h h2 h3 hb
  unfold maxLen at hs hy
  go_enter Try.func66, Try.ntmps66
  go_wp2_with fail
  refine (cut_some _ HS.out H.out).mono ?_
  rintro e w' ⟨rfl, n, rfl⟩
  go_wp2_with fail
  refine (cut_some _ HX.out H2.out).mono ?_
  rintro e w' ⟨rfl, n2, rfl⟩
  go_wp2
  go_loop [5] (fun i => ∃ k : Nat, k ≤ Y.length ∧ k ≤ tw notD Y ∧ (Y.take k).all isL = true ∧ i = .int .i64 k) (fun i => Y.length - (intOf i).toNat)
  case atStart => exact ⟨0, Nat.zero_le _, Nat.zero_le _, rfl, rfl⟩
  case round =>
    obtain ⟨k, hk, hkt, hka, rfl⟩ := hrel
    by_cases hgo : ∃ h : k < Y.length, notD Y[k] = true
    · obtain ⟨hlt, hd⟩ := hgo
      have hn : k + 1 ≤ tw notD Y := tw_step notD Y k hlt hkt hd
      have hb := notD_bl Y k hlt
      rw [hd] at hb
      by_cases hl : isL Y[k] = true
      · have ha := all_take_succ isL Y k hlt hka hl
        have hc := isL_bl Y k hlt
        rw [hl] at hc
        simp at hc
        obtain ⟨h1, h2⟩ := hc
        have h5 : 48 ≤ bl Y k := by omega
        have h6 : 57 < bl Y k := by omega
        have HA := Lib.hid ha
        clear hb hd hl hka ha
        go_wp2
        go_round
        case rel => exact ⟨k + 1, by omega, by omega, HA.out, by go_num⟩
        case measure => simp [intOf]; omega
      · have hc := isL_bl Y k hlt
        rw [show isL Y[k] = false by simpa using hl] at hc
        have hw : bl Y k < 48 ∨ (48 ≤ bl Y k ∧ 57 < bl Y k ∧ bl Y k < 97) ∨ (48 ≤ bl Y k ∧ 57 < bl Y k ∧ 97 ≤ bl Y k ∧ 122 < bl Y k) := by
          simp at hb hc; omega
        clear hb hd hl hka hc hn
        rcases hw with hw | ⟨hw, hw2, hw3⟩ | ⟨hw, hw2, hw3, hw4⟩
        all_goals
          go_wp2
          refine bodyPost_ret (v := gv zero) (by simp [results, Try.results66, go_sem]; try rfl) rfl ⟨rfl, ?_⟩
          repeat' (first | exact Below.refl _ _ | refine below_drewN ?_ _ | refine Below.drew ?_ | refine Below.alloc ?_ ?_ _ | refine Below.setCell ?_ ?_ _ | go_size)
    · have hkk : k = tw notD Y := by
        by_cases hlt : k < Y.length
        · exact tw_stop notD Y k hlt hkt (by simpa using fun h => hgo ⟨hlt, h⟩)
        · exact tw_end notD Y k (by omega) hkt
      have := all_exit isL notD Y k hkk hka
      rw [H3.out] at this
      cases this
end Go.Proofs.Ytdhibalpnccbiaa
