/- spec: In, All, figures, number. -/
import Derived.Test.YtdhibalpnccbiaaSem3
namespace Go.Proofs.Ytdhibalpnccbiaa
open Go.RowKit
set_option linter.unusedVariables false

def isNot (n : Nat) (c : UInt8) : Bool := decide (c.toNat ≠ n)
def inB (l : Bytes) (n : Nat) : Bool := !(l.all (isNot n))
theorem isNot_bl (n : Nat) (l : Bytes) (k : Nat) (h : k < l.length) : isNot n l[k] = decide (bl l k ≠ n) := by
  rw [bl_get l k h]; rfl
theorem tw_exit (p : UInt8 → Bool) (l : Bytes) (k : Nat) (hkt : k ≤ tw p l) (hgo : ¬ ∃ h : k < l.length, p l[k] = true) : k = tw p l := by
  by_cases hlt : k < l.length
  · exact tw_stop p l k hlt hkt (by simpa using fun h => hgo ⟨hlt, h⟩)
  · exact tw_end p l k (by omega) hkt
set_option maxHeartbeats 400000 in
theorem in_any (l : Bytes) (n : Nat) (w : World) (hs : l.length ≤ maxLen) (hn : n < 256) :
    Calls Try.prog 44 #[.string (bs l), .int .u8 n] w fun e w' => e = .returned (.bool (inB l n)) ∧ w' = w := by
  unfold maxLen at hs
  go_enter Try.func44, Try.ntmps44
  go_wp2
  go_loop [8] (fun i => ∃ k : Nat, k ≤ l.length ∧ k ≤ tw (isNot n) l ∧ i = .int .i64 k) (fun i => l.length - (intOf i).toNat)
  case atStart => exact ⟨0, Nat.zero_le _, Nat.zero_le _, rfl⟩
  case round =>
    obtain ⟨k, hk, hkt, rfl⟩ := hrel
    by_cases hgo : ∃ h : k < l.length, isNot n l[k] = true
    · obtain ⟨hlt, hd⟩ := hgo
      have hn : k + 1 ≤ tw (isNot n) l := tw_step _ l k hlt hkt hd
      have hb := isNot_bl n l k hlt
      rw [hd] at hb
      have hb2 : ((bl l k : Int) == (n : Int)) = false := by simp at hb ⊢; omega
      clear hd hb
      go_wp2
      go_round
      case rel => exact ⟨k + 1, by omega, by omega, by go_num⟩
      case measure => simp [intOf]; omega
    · have hkk := tw_exit _ l k hkt hgo
      have HG : Hid (inB l n = decide (k < l.length)) := by
        show inB l n = _
        unfold inB
        rw [all_tw, ← hkk, Bool.eq_iff_iff]
        simp
        omega
      by_cases hlt : k < l.length
      · have hb2 : ((bl l k : Int) == (n : Int)) = true := by
          have hd : isNot n l[k] = false := by simpa using fun h => hgo ⟨hlt, h⟩
          rw [isNot_bl n l k hlt] at hd
          simp at hd ⊢; omega
        have HX : Hid (inB l n = true) := by rw [show inB l n = _ from HG.out]; show _ = _; simpa using hlt
        clear hgo hkk hkt
        go_wp2
        go_ret
        exact ⟨by rw [HX.out]; rfl, rfl⟩
      · have HX : Hid (inB l n = false) := by rw [show inB l n = _ from HG.out]; show _ = _; simpa using hlt
        clear hgo hkk hkt
        go_wp2
        go_ret
        exact ⟨by rw [HX.out]; rfl, rfl⟩
theorem isId_bl (l : Bytes) (k : Nat) (h : k < l.length) : isId l[k] = isIdN (bl l k) := by
  rw [bl_get l k h]; rfl
theorem dash45 : inB [45] 45 = true := by decide
theorem inB_dash (n : Nat) (h : inB [45] n = true) : n = 45 := by
  simp [inB, isNot] at h; omega
set_option maxRecDepth 100000 in
set_option maxHeartbeats 1000000 in
theorem allD_any (l : Bytes) (w : World) (hs : l.length ≤ maxLen) :
    Calls Try.prog 74 #[.string (bs l), .bool false, .bool false, .string (bs [])] w fun e w' => e = .returned (.bool (l.all isD)) ∧ w' = w := by
  unfold maxLen at hs
  go_enter Try.func74, Try.ntmps74
  go_wp2
  go_loop [13] (fun i => ∃ k : Nat, k ≤ l.length ∧ k ≤ tw isD l ∧ i = .int .i64 k) (fun i => l.length - (intOf i).toNat)
  case atStart => exact ⟨0, Nat.zero_le _, Nat.zero_le _, rfl⟩
  case round =>
    obtain ⟨k, hk, hkt, rfl⟩ := hrel
    by_cases hgo : ∃ h : k < l.length, isD l[k] = true
    · obtain ⟨hlt, hd⟩ := hgo
      have hn : k + 1 ≤ tw isD l := tw_step isD l k hlt hkt hd
      have hb := isD_bl l k hlt
      rw [hd] at hb
      simp at hb
      obtain ⟨h1, h2⟩ := hb
      clear hd
      go_wp2
      go_round
      case rel => exact ⟨k + 1, by omega, by omega, by go_num⟩
      case measure => simp [intOf]; omega
    · obtain ⟨hkk, hstop⟩ := scan_stop l k hk hkt hgo
      have HG : Hid (l.all isD = decide (k = l.length)) := by
        show l.all isD = _
        rw [all_tw, ← hkk]
      clear hgo hkk hkt
      have hb255 : bl l k < 256 := by have := bl_le l k; omega
      rcases hstop with h | ⟨h, h' | h'⟩
      · have HX : Hid (l.all isD = true) := by rw [show l.all isD = _ from HG.out]; show _ = _; simp; omega
        go_wp2
        go_ret
        exact ⟨by rw [HX.out]; rfl, rfl⟩
      · have HX : Hid (l.all isD = false) := by rw [show l.all isD = _ from HG.out]; show _ = _; simp; omega
        have HI : Hid (inB [] (bl l k) = false) := Lib.hid rfl
        go_wp2_with fail
        refine (in_any [] (bl l k) _ (Nat.zero_le _) hb255).mono ?_
        rintro e w' ⟨rfl, rfl⟩
        rw [HI.out]
        go_wp2
        go_ret
        exact ⟨by rw [HX.out]; rfl, rfl⟩
      · have HX : Hid (l.all isD = false) := by rw [show l.all isD = _ from HG.out]; show _ = _; simp; omega
        have HI : Hid (inB [] (bl l k) = false) := Lib.hid rfl
        have e57 : decide ((bl l k : Int) ≤ 57) = false := by simp; omega
        have e48 : 48 ≤ bl l k := by omega
        go_wp2_with fail
        refine (in_any [] (bl l k) _ (Nat.zero_le _) hb255).mono ?_
        rintro e w' ⟨rfl, rfl⟩
        rw [HI.out]
        go_wp2
        go_ret
        exact ⟨by rw [HX.out]; rfl, rfl⟩
set_option maxRecDepth 100000 in
set_option maxHeartbeats 1000000 in
theorem allI_any (l : Bytes) (w : World) (hs : l.length ≤ maxLen) :
    Calls Try.prog 74 #[.string (bs l), .bool true, .bool true, .string (bs [45])] w fun e w' => e = .returned (.bool (l.all isId)) ∧ w' = w := by
  unfold maxLen at hs
  go_enter Try.func74, Try.ntmps74
  go_wp2
  go_loop [13] (fun i => ∃ k : Nat, k ≤ l.length ∧ k ≤ tw isId l ∧ i = .int .i64 k) (fun i => l.length - (intOf i).toNat)
  case atStart => exact ⟨0, Nat.zero_le _, Nat.zero_le _, rfl⟩
  case round =>
    obtain ⟨k, hk, hkt, rfl⟩ := hrel
    by_cases hlt : k < l.length
    · have hb255 : bl l k < 256 := by have := bl_le l k; omega
      have hv : isId l[k] = decide (bl l k = 45 ∨ (48 ≤ bl l k ∧ bl l k ≤ 57) ∨ (65 ≤ bl l k ∧ bl l k ≤ 90) ∨ (97 ≤ bl l k ∧ bl l k ≤ 122)) := by
        rw [isId_bl l k hlt]
        unfold isIdN
        rw [Bool.eq_iff_iff]
        simp only [Bool.or_eq_true, Bool.and_eq_true, decide_eq_true_eq]
        omega
      by_cases h45 : bl l k = 45
      · have HI : Hid (inB [45] (bl l k) = true) := by rw [h45]; exact Lib.hid dash45
        have f48 : bl l k < 48 := by omega
        have f65 : bl l k < 65 := by omega
        have f97 : bl l k < 97 := by omega
        have hd : isId l[k] = true := hv.trans (decide_eq_true (by omega))
        have hn : k + 1 ≤ tw isId l := tw_step isId l k hlt hkt hd
        clear hv hd h45
        go_wp2_with fail
        refine (in_any [45] (bl l k) _ (by simp [maxLen]) hb255).mono ?_
        rintro e w' ⟨rfl, rfl⟩
        rw [HI.out]
        go_wp2
        go_round
        case rel => exact ⟨k + 1, by omega, by omega, by go_num⟩
        case measure => simp [intOf]; omega
      have hc : (48 ≤ bl l k ∧ bl l k ≤ 57) ∨ (65 ≤ bl l k ∧ bl l k ≤ 90) ∨ (97 ≤ bl l k ∧ bl l k ≤ 122) ∨ bl l k < 48 ∨ (57 < bl l k ∧ bl l k < 65) ∨ (90 < bl l k ∧ bl l k < 97) ∨ 122 < bl l k := by omega
      rcases hc with h | h | h | h | h | h | h
      · skip
        have f48 : 48 ≤ bl l k := by omega
        have f65 : bl l k < 65 := by omega
        have f97 : bl l k < 97 := by omega
        have f57 : bl l k ≤ 57 := by omega
        have f90 : bl l k ≤ 90 := by omega
        have f122 : bl l k ≤ 122 := by omega
        have hd : isId l[k] = true := hv.trans (decide_eq_true (by omega))
        have hn : k + 1 ≤ tw isId l := tw_step isId l k hlt hkt hd
        clear hv hd
        clear h
        go_wp2
        go_round
        case rel => exact ⟨k + 1, by omega, by omega, by go_num⟩
        case measure => simp [intOf]; omega
      · skip
        have f48 : 48 ≤ bl l k := by omega
        have f65 : 65 ≤ bl l k := by omega
        have f97 : bl l k < 97 := by omega
        have f57 : 57 < bl l k := by omega
        have f90 : bl l k ≤ 90 := by omega
        have f122 : bl l k ≤ 122 := by omega
        have hd : isId l[k] = true := hv.trans (decide_eq_true (by omega))
        have hn : k + 1 ≤ tw isId l := tw_step isId l k hlt hkt hd
        clear hv hd
        clear h
        go_wp2
        go_round
        case rel => exact ⟨k + 1, by omega, by omega, by go_num⟩
        case measure => simp [intOf]; omega
      · skip
        have f48 : 48 ≤ bl l k := by omega
        have f65 : 65 ≤ bl l k := by omega
        have f97 : 97 ≤ bl l k := by omega
        have f57 : 57 < bl l k := by omega
        have f90 : 90 < bl l k := by omega
        have f122 : bl l k ≤ 122 := by omega
        have hd : isId l[k] = true := hv.trans (decide_eq_true (by omega))
        have hn : k + 1 ≤ tw isId l := tw_step isId l k hlt hkt hd
        clear hv hd
        clear h
        go_wp2
        go_round
        case rel => exact ⟨k + 1, by omega, by omega, by go_num⟩
        case measure => simp [intOf]; omega
      · skip
        have f48 : bl l k < 48 := by omega
        have f65 : bl l k < 65 := by omega
        have f97 : bl l k < 97 := by omega
        have f57 : bl l k ≤ 57 := by omega
        have f90 : bl l k ≤ 90 := by omega
        have f122 : bl l k ≤ 122 := by omega
        have hd : isId l[k] = false := hv.trans (decide_eq_false (by omega))
        have hkk := tw_stop isId l k hlt hkt hd
        have HX : Hid (l.all isId = false) := by show _ = _; rw [all_tw, ← hkk]; simp; omega
        have HI : Hid (inB [45] (bl l k) = false) := by show _ = _; simp [inB, isNot]; omega
        clear hv hd hkk hkt h h45
        go_wp2_with fail
        refine (in_any [45] (bl l k) _ (by simp [maxLen]) hb255).mono ?_
        rintro e w' ⟨rfl, rfl⟩
        rw [HI.out]
        go_wp2
        go_ret
        exact ⟨by rw [HX.out]; rfl, rfl⟩
      · skip
        have f48 : 48 ≤ bl l k := by omega
        have f65 : bl l k < 65 := by omega
        have f97 : bl l k < 97 := by omega
        have f57 : 57 < bl l k := by omega
        have g57 : decide ((bl l k : Int) ≤ 57) = false := by simp; omega
        have f90 : bl l k ≤ 90 := by omega
        have f122 : bl l k ≤ 122 := by omega
        have hd : isId l[k] = false := hv.trans (decide_eq_false (by omega))
        have hkk := tw_stop isId l k hlt hkt hd
        have HX : Hid (l.all isId = false) := by show _ = _; rw [all_tw, ← hkk]; simp; omega
        have HI : Hid (inB [45] (bl l k) = false) := by show _ = _; simp [inB, isNot]; omega
        clear hv hd hkk hkt h h45
        go_wp2_with fail
        refine (in_any [45] (bl l k) _ (by simp [maxLen]) hb255).mono ?_
        rintro e w' ⟨rfl, rfl⟩
        rw [HI.out]
        go_wp2
        go_ret
        exact ⟨by rw [HX.out]; rfl, rfl⟩
      · skip
        have f48 : 48 ≤ bl l k := by omega
        have f65 : 65 ≤ bl l k := by omega
        have f97 : bl l k < 97 := by omega
        have f57 : 57 < bl l k := by omega
        have g57 : decide ((bl l k : Int) ≤ 57) = false := by simp; omega
        have f90 : 90 < bl l k := by omega
        have g90 : decide ((bl l k : Int) ≤ 90) = false := by simp; omega
        have f122 : bl l k ≤ 122 := by omega
        have hd : isId l[k] = false := hv.trans (decide_eq_false (by omega))
        have hkk := tw_stop isId l k hlt hkt hd
        have HX : Hid (l.all isId = false) := by show _ = _; rw [all_tw, ← hkk]; simp; omega
        have HI : Hid (inB [45] (bl l k) = false) := by show _ = _; simp [inB, isNot]; omega
        clear hv hd hkk hkt h h45
        go_wp2_with fail
        refine (in_any [45] (bl l k) _ (by simp [maxLen]) hb255).mono ?_
        rintro e w' ⟨rfl, rfl⟩
        rw [HI.out]
        go_wp2
        go_ret
        exact ⟨by rw [HX.out]; rfl, rfl⟩
      · skip
        have f48 : 48 ≤ bl l k := by omega
        have f65 : 65 ≤ bl l k := by omega
        have f97 : 97 ≤ bl l k := by omega
        have f57 : 57 < bl l k := by omega
        have g57 : decide ((bl l k : Int) ≤ 57) = false := by simp; omega
        have f90 : 90 < bl l k := by omega
        have g90 : decide ((bl l k : Int) ≤ 90) = false := by simp; omega
        have f122 : 122 < bl l k := by omega
        have g122 : decide ((bl l k : Int) ≤ 122) = false := by simp; omega
        have hd : isId l[k] = false := hv.trans (decide_eq_false (by omega))
        have hkk := tw_stop isId l k hlt hkt hd
        have HX : Hid (l.all isId = false) := by show _ = _; rw [all_tw, ← hkk]; simp; omega
        have HI : Hid (inB [45] (bl l k) = false) := by show _ = _; simp [inB, isNot]; omega
        clear hv hd hkk hkt h h45
        go_wp2_with fail
        refine (in_any [45] (bl l k) _ (by simp [maxLen]) hb255).mono ?_
        rintro e w' ⟨rfl, rfl⟩
        rw [HI.out]
        go_wp2
        go_ret
        exact ⟨by rw [HX.out]; rfl, rfl⟩
    · have hkk := tw_end isId l k (by omega) hkt
      have HX : Hid (l.all isId = true) := by show _ = _; rw [all_tw, ← hkk]; simp; omega
      clear hkk hkt
      go_wp2
      go_ret
      exact ⟨by rw [HX.out]; rfl, rfl⟩
theorem fig_any (l : Bytes) (w : World) (hs : l.length ≤ maxLen) :
    Calls Try.prog 75 #[.string (bs l)] w fun e w' => e = .returned (.bool (decide (0 < l.length) && l.all isD)) ∧ w' = w := by
  have HS := Lib.hid hs
  unfold maxLen at hs
  by_cases h : 0 < l.length
  · have HX : Hid ((decide (0 < l.length) && l.all isD) = l.all isD) := by show _ = _; simp [h]
    go_enter Try.func75, Try.ntmps75
    go_wp2_with fail
    refine (allD_any l _ HS.out).mono ?_
    rintro e w' ⟨rfl, rfl⟩
    go_wp2
    go_ret
    exact ⟨by rw [HX.out]; rfl, rfl⟩
  · have HX : Hid ((decide (0 < l.length) && l.all isD) = false) := by show _ = _; simp [h]
    go_enter Try.func75, Try.ntmps75
    go_wp2
    go_ret
    exact ⟨by rw [HX.out]; rfl, rfl⟩
def figs (l : Bytes) : Bool := decide (0 < l.length) && l.all isD
def numOk (l : Bytes) : Bool := figs l && (decide (l.length = 1) || decide (bl l 0 ≠ 48))
theorem number_any (l : Bytes) (w : World) (hs : l.length ≤ maxLen) :
    Calls Try.prog 55 #[.string (bs l)] w fun e w' => e = .returned (.bool (numOk l)) ∧ w' = w := by
  have HS := Lib.hid hs
  unfold maxLen at hs
  by_cases h : figs l = true
  · have hl : 0 < l.length := by unfold figs at h; simp at h; exact h.1
    have HF : Hid ((decide (0 < l.length) && l.all isD) = true) := Lib.hid h
    by_cases h1 : l.length = 1
    · have HX : Hid (numOk l = true) := by show _ = _; simp [numOk, h, h1]
      have e1 : ((l.length : Int) == 1) = true := by simp; omega
      clear h
      go_enter Try.func55, Try.ntmps55
      go_wp2_with fail
      refine (fig_any l _ HS.out).mono ?_
      rintro e w' ⟨rfl, rfl⟩
      rw [HF.out]
      go_wp2
      go_ret
      exact ⟨by rw [HX.out]; rfl, rfl⟩
    · have HX : Hid (numOk l = ((bl l 0 : Int) != 48)) := by
        show _ = _
        rw [Bool.eq_iff_iff]
        simp [numOk, h, h1]
        omega
      have e1 : ((l.length : Int) == 1) = false := by simp; omega
      clear h
      go_enter Try.func55, Try.ntmps55
      go_wp2_with fail
      refine (fig_any l _ HS.out).mono ?_
      rintro e w' ⟨rfl, rfl⟩
      rw [HF.out]
      go_wp2
      go_ret
      exact ⟨by rw [HX.out]; rfl, rfl⟩
  · have HF : Hid ((decide (0 < l.length) && l.all isD) = false) := Lib.hid (by unfold figs at h; simpa using h)
    have HX : Hid (numOk l = false) := by show _ = _; simp [numOk, h]
    clear h
    go_enter Try.func55, Try.ntmps55
    go_wp2_with fail
    refine (fig_any l _ HS.out).mono ?_
    rintro e w' ⟨rfl, rfl⟩
    rw [HF.out]
    go_wp2
    go_ret
    exact ⟨by rw [HX.out]; rfl, rfl⟩
end Go.Proofs.Ytdhibalpnccbiaa
