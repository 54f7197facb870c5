/- semver: the letters of an identifier, numbers in identifiers, the next identifier. -/
import Derived.Test.YtdhibalpnccbiaaPlain6
import Derived.Test.YtdhibalpnccbiaaL5
namespace Go.Proofs.Ytdhibalpnccbiaa
open Go.RowKit
set_option linter.unusedVariables false

def isIdN (n : Nat) : Bool := (decide (65 ≤ n) && decide (n ≤ 90)) || (decide (97 ≤ n) && decide (n ≤ 122)) || (decide (48 ≤ n) && decide (n ≤ 57)) || decide (n = 45)
def isId (c : UInt8) : Bool := isIdN c.toNat
def notDot (c : UInt8) : Bool := decide (c.toNat ≠ 46)
def badNum (v : Bytes) : Bool := v.all isD && decide (1 < v.length) && decide (bl v 0 = 48)

set_option maxHeartbeats 400000 in
theorem isId_any (n : Nat) (w : World) (hn : n < 256) :
    Calls Try.prog 125 #[.int .u8 n] w fun e w' => e = .returned (.bool (isIdN n)) ∧ w' = w := by
  have hc : n < 45 ∨ n = 45 ∨ (45 < n ∧ n < 48) ∨ (48 ≤ n ∧ n ≤ 57) ∨ (57 < n ∧ n < 65) ∨ (65 ≤ n ∧ n ≤ 90) ∨ (90 < n ∧ n < 97) ∨ (97 ≤ n ∧ n ≤ 122) ∨ 122 < n := by omega
  have hv : isIdN n = decide (n = 45 ∨ (48 ≤ n ∧ n ≤ 57) ∨ (65 ≤ n ∧ n ≤ 90) ∨ (97 ≤ n ∧ n ≤ 122)) := by
    unfold isIdN
    rw [Bool.eq_iff_iff]
    simp only [Bool.or_eq_true, Bool.and_eq_true, decide_eq_true_eq]
    omega
  rw [hv]
  rcases hc with h | h | h | h | h | h | h | h | h
  all_goals
    first
      | (have HV := Lib.hid (show decide (n = 45 ∨ (48 ≤ n ∧ n ≤ 57) ∨ (65 ≤ n ∧ n ≤ 90) ∨ (97 ≤ n ∧ n ≤ 122)) = true from decide_eq_true (by omega)))
      | (have HV := Lib.hid (show decide (n = 45 ∨ (48 ≤ n ∧ n ≤ 57) ∨ (65 ≤ n ∧ n ≤ 90) ∨ (97 ≤ n ∧ n ≤ 122)) = false from decide_eq_false (by omega)))
    first
      | (have e45 : ((n : Int) == 45) = true := by simp; omega)
      | (have e45 : ((n : Int) == 45) = false := by simp; omega)
    rw [HV.out]
    clear HV hv

    first | have f65 : 65 ≤ n := by omega | have f65 : n < 65 := by omega
    first | have f97 : 97 ≤ n := by omega | have f97 : n < 97 := by omega
    first | have f48 : 48 ≤ n := by omega | have f48 : n < 48 := by omega
    first | have f90 : n ≤ 90 := by omega | have f90 : 90 < n := by omega
    first | have f122 : n ≤ 122 := by omega | have f122 : 122 < n := by omega
    first | have f57 : n ≤ 57 := by omega | have f57 : 57 < n := by omega


    go_enter Try.func125, Try.ntmps125
    go_wp2
    go_ret
    first | exact ⟨rfl, rfl⟩ | exact ⟨by simp; omega, rfl⟩ | exact ⟨by simp, rfl⟩

theorem all_tw (p : UInt8 → Bool) : ∀ l : Bytes, l.all p = decide (tw p l = l.length)
  | [] => by simp [tw]
  | c :: l => by
    unfold tw
    rw [List.takeWhile_cons, List.all_cons]
    by_cases hc : p c = true
    · rw [if_pos hc, hc, all_tw p l]
      show decide ((l.takeWhile p).length = l.length) = _
      simp
    · rw [if_neg hc]
      simp [hc]
set_option maxHeartbeats 400000 in
theorem badNum_any (l : Bytes) (w : World) (hs : l.length ≤ maxLen) :
    Calls Try.prog 126 #[.string (bs l)] w fun e w' => e = .returned (.bool (badNum l)) ∧ w' = w := by
  unfold maxLen at hs
  go_enter Try.func126, Try.ntmps126
  go_wp2
  go_loop [3] (fun i => ∃ k : Nat, k ≤ l.length ∧ k ≤ tw isD l ∧ i = .int .i64 k) (fun i => l.length - (intOf i).toNat)
  case atStart => exact ⟨0, Nat.zero_le _, Nat.zero_le _, rfl⟩
  case round =>
    obtain ⟨k, hk, hkt, rfl⟩ := hrel
    by_cases hgo : ∃ h : k < l.length, isD l[k] = true
    · obtain ⟨hlt, hd⟩ := hgo
      have hn : k + 1 ≤ tw isD l := tw_step isD l k hlt hkt hd
      have hb := isD_bl l k hlt
      rw [hd] at hb
      simp at hb
      obtain ⟨h1, h2⟩ := hb
      clear hd
      go_wp2
      go_round
      case rel => exact ⟨k + 1, by omega, by omega, by go_num⟩
      case measure => simp [intOf]; omega
    · obtain ⟨hkk, hstop⟩ := scan_stop l k hk hkt hgo
      have HG : Hid (badNum l = (decide (k = l.length) && decide (1 < k) && decide (bl l 0 = 48))) := by
        show badNum l = _
        unfold badNum
        rw [all_tw, ← hkk]
        by_cases h : k = l.length
        · rw [h]
        · simp [h]
      clear hgo hkk hkt
      by_cases hkl : k = l.length
      · subst hkl
        have e1 : ((l.length : Int) == (l.length : Int)) = true := by simp
        by_cases h1 : 1 < l.length
        · have e2 : ((bl l 0 : Int) == 48) = decide (bl l 0 = 48) := by
            rw [Bool.eq_iff_iff]; simp; omega
          have HX : Hid (badNum l = decide (bl l 0 = 48)) := by rw [show badNum l = _ from HG.out]; show _ = _; simp [h1]
          clear hstop
          go_wp2
          go_ret
          exact ⟨by rw [HX.out]; rfl, rfl⟩
        · have HX : Hid (badNum l = false) := by rw [show badNum l = _ from HG.out]; show _ = _; simp [h1]
          have h1' : ¬ (1 < (l.length : Int)) := by omega
          clear hstop
          go_wp2
          go_ret
          exact ⟨by rw [HX.out]; rfl, rfl⟩
      · have HX : Hid (badNum l = false) := by rw [show badNum l = _ from HG.out]; show _ = _; simp [hkl]
        have e1 : ((k : Int) == (l.length : Int)) = false := by simp; omega
        rcases hstop with h | ⟨h, h' | h'⟩
        · omega
        all_goals
          go_wp2
          go_ret
          exact ⟨by rw [HX.out]; rfl, rfl⟩
set_option maxHeartbeats 400000 in
theorem isNum_any (l : Bytes) (w : World) (hs : l.length ≤ maxLen) :
    Calls Try.prog 105 #[.string (bs l)] w fun e w' => e = .returned (.bool (l.all isD)) ∧ w' = w := by
  unfold maxLen at hs
  go_enter Try.func105, Try.ntmps105
  go_wp2
  go_loop [3] (fun i => ∃ k : Nat, k ≤ l.length ∧ k ≤ tw isD l ∧ i = .int .i64 k) (fun i => l.length - (intOf i).toNat)
  case atStart => exact ⟨0, Nat.zero_le _, Nat.zero_le _, rfl⟩
  case round =>
    obtain ⟨k, hk, hkt, rfl⟩ := hrel
    by_cases hgo : ∃ h : k < l.length, isD l[k] = true
    · obtain ⟨hlt, hd⟩ := hgo
      have hn : k + 1 ≤ tw isD l := tw_step isD l k hlt hkt hd
      have hb := isD_bl l k hlt
      rw [hd] at hb
      simp at hb
      obtain ⟨h1, h2⟩ := hb
      clear hd
      go_wp2
      go_round
      case rel => exact ⟨k + 1, by omega, by omega, by go_num⟩
      case measure => simp [intOf]; omega
    · obtain ⟨hkk, hstop⟩ := scan_stop l k hk hkt hgo
      have HG : Hid (l.all isD = decide (k = l.length)) := by
        show l.all isD = _
        rw [all_tw, ← hkk]
      clear hgo hkk hkt
      have e1 : ((k : Int) == (l.length : Int)) = decide (k = l.length) := by rw [Bool.eq_iff_iff]; simp; omega
      rcases hstop with h | ⟨h, h' | h'⟩
      all_goals
        go_wp2
        go_ret
        exact ⟨by rw [HG.out]; rfl, rfl⟩
theorem notDot_bl (l : Bytes) (k : Nat) (h : k < l.length) : notDot l[k] = decide (bl l k ≠ 46) := by
  rw [bl_get l k h]; rfl
set_option maxHeartbeats 400000 in
theorem next_any (l : Bytes) (w : World) (hs : l.length ≤ maxLen) :
    Calls Try.prog 104 #[.string (bs l)] w fun e w' => e = .returned (.tuple #[.string (bs (l.takeWhile notDot)), .string (bs (l.dropWhile notDot))]) ∧ Draws w w' := by
  unfold maxLen at hs
  go_enter Try.func104, Try.ntmps104
  go_wp2
  go_loop [4] (fun i => ∃ k : Nat, k ≤ l.length ∧ k ≤ tw notDot l ∧ i = .int .i64 k) (fun i => l.length - (intOf i).toNat)
  case atStart => exact ⟨0, Nat.zero_le _, Nat.zero_le _, rfl⟩
  case round =>
    obtain ⟨k, hk, hkt, rfl⟩ := hrel
    by_cases hgo : ∃ h : k < l.length, notDot l[k] = true
    · obtain ⟨hlt, hd⟩ := hgo
      have hn : k + 1 ≤ tw notDot l := tw_step notDot l k hlt hkt hd
      have hb := notDot_bl l k hlt
      rw [hd] at hb
      have hb2 : ((bl l k : Int) != 46) = true := by simp at hb ⊢; omega
      clear hd hb
      go_wp2
      go_round
      case rel => exact ⟨k + 1, by omega, by omega, by go_num⟩
      case measure => simp [intOf]; omega
    · have hkk : k = tw notDot l := by
        by_cases hlt : k < l.length
        · exact tw_stop notDot l k hlt hkt (by simpa using fun h => hgo ⟨hlt, h⟩)
        · exact tw_end notDot l k (by omega) hkt
      have hstop : l.length ≤ k ∨ (k < l.length ∧ ((bl l k : Int) != 46) = false) := by
        by_cases hlt : k < l.length
        · refine .inr ⟨hlt, ?_⟩
          have hd : notDot l[k] = false := by simpa using fun h => hgo ⟨hlt, h⟩
          rw [notDot_bl l k hlt] at hd
          simp at hd ⊢
          omega
        · exact .inl (by omega)
      have H1 : Hid (l.takeWhile notDot = l.take k) := by show _ = _; rw [hkk, take_tw]
      have H2 : Hid (l.dropWhile notDot = l.drop k) := by show _ = _; rw [hkk, drop_tw]
      clear hgo hkk hkt
      rcases hstop with h | ⟨h, h'⟩
      all_goals
        go_wp2
        go_quiet (fail)
        go_wp2
        go_ret2
        exact ⟨by rw [H1.out, H2.out]; first | rfl | (simp; try (rw [List.drop_eq_nil_of_le h])), nq, rfl⟩
end Go.Proofs.Ytdhibalpnccbiaa
