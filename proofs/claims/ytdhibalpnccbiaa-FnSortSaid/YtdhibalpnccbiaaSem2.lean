/- semver: what stands behind - and behind +. -/
import Derived.Test.YtdhibalpnccbiaaSem
namespace Go.Proofs.Ytdhibalpnccbiaa
open Go.RowKit
set_option linter.unusedVariables false

/-- The rest behind identifiers between dots, if all are fine; seg is the one under way. -/
def scanP : Bytes → Bytes → Option Bytes
  | seg, [] => if seg = [] ∨ badNum seg = true then none else some []
  | seg, c :: r =>
    if c.toNat = 43 then (if seg = [] ∨ badNum seg = true then none else some (c :: r))
    else if c.toNat = 46 then (if seg = [] ∨ badNum seg = true then none else scanP [] r)
    else if isId c = true then scanP (seg ++ [c]) r else none
def segAt (l : Bytes) (s k : Nat) : Bytes := (l.drop s).take (k - s)
theorem segAt_nil (l : Bytes) (k : Nat) : segAt l k k = [] := by simp [segAt]
theorem segAt_succ (l : Bytes) (s k : Nat) (h : s ≤ k) (hk : k < l.length) : segAt l s (k + 1) = segAt l s k ++ [l[k]] := by
  unfold segAt
  have hlt : k - s < (l.drop s).length := by simp; omega
  rw [show k + 1 - s = (k - s) + 1 by omega, List.take_succ_eq_append_getElem hlt]
  congr 2
  simp
  congr 1
  omega
theorem segAt_ne (l : Bytes) (s k : Nat) (h : s < k) (hk : k ≤ l.length) : segAt l s k ≠ [] := by
  intro e
  have := congrArg List.length e
  simp [segAt] at this
  omega
theorem segAt_len (l : Bytes) (s k : Nat) : (segAt l s k).length ≤ l.length := by
  simp [segAt]; omega
theorem scanP_stop (l : Bytes) (s k : Nat) (hk : k ≤ l.length) (h : l.length ≤ k ∨ bl l k = 43) :
    scanP (segAt l s k) (l.drop k) = if segAt l s k = [] ∨ badNum (segAt l s k) = true then none else some (l.drop k) := by
  by_cases hlt : k < l.length
  · rw [List.drop_eq_getElem_cons hlt]
    have hb : l[k].toNat = 43 := by rw [← bl_get l k hlt]; omega
    unfold scanP
    rw [if_pos hb]
  · rw [List.drop_eq_nil_of_le (by omega)]
    unfold scanP
    rfl
theorem scanP_dot (l : Bytes) (s k : Nat) (hk : k < l.length) (h : bl l k = 46) :
    scanP (segAt l s k) (l.drop k) = if segAt l s k = [] ∨ badNum (segAt l s k) = true then none else scanP (segAt l (k + 1) (k + 1)) (l.drop (k + 1)) := by
  rw [List.drop_eq_getElem_cons hk]
  have hb : l[k].toNat = 46 := by rw [← bl_get l k hk]; omega
  rw [segAt_nil]
  conv => lhs; unfold scanP
  rw [if_neg (by omega), if_pos hb]
theorem scanP_id (l : Bytes) (s k : Nat) (hs : s ≤ k) (hk : k < l.length) (h : bl l k ≠ 43) (h2 : bl l k ≠ 46) :
    scanP (segAt l s k) (l.drop k) = if isIdN (bl l k) = true then scanP (segAt l s (k + 1)) (l.drop (k + 1)) else none := by
  rw [List.drop_eq_getElem_cons hk, segAt_succ l s k hs hk, bl_get l k hk]
  rw [bl_get l k hk] at h h2
  conv => lhs; unfold scanP
  rw [if_neg h, if_neg h2]
  rfl
def preV (l : Bytes) : Value := match scanP [] (l.drop 1) with
  | none => .tuple #[.string (bs []), .string (bs []), .bool false]
  | some r => .tuple #[.string (bs (l.take (l.length - r.length))), .string (bs r), .bool true]
theorem preV_none {l : Bytes} (h : scanP [] (l.drop 1) = none) : preV l = .tuple #[.string (bs []), .string (bs []), .bool false] := by unfold preV; rw [h]
theorem preV_some {l : Bytes} {k : Nat} (hk : k ≤ l.length) (h : scanP [] (l.drop 1) = some (l.drop k)) : preV l = .tuple #[.string (bs (l.take k)), .string (bs (l.drop k)), .bool true] := by
  unfold preV; rw [h]
  simp only [List.length_drop]
  rw [show l.length - (l.length - k) = k by omega]

set_option maxHeartbeats 1000000 in
theorem pre_any (l : Bytes) (w : World) (hs : l.length ≤ maxLen) (hlen : 1 ≤ l.length) (h0 : bl l 0 = 45) :
    Calls Try.prog 101 #[.string (bs l)] w fun e w' => e = .returned (preV l) ∧ Draws w w' := by
  have hne : (l == []) = false := by cases l <;> simp_all
  have hne2 : l.isEmpty = false := by cases l <;> simp_all
  have h45 : ((bl l 0 : Int) != 45) = false := by simp; omega
  clear h0
  unfold maxLen at hs
  go_enter Try.func101, Try.ntmps101
  go_wp2
  go_loop [5, 6] (fun i j => ∃ k s : Nat, 1 ≤ s ∧ s ≤ k ∧ k ≤ l.length ∧ Hid (scanP [] (l.drop 1) = scanP (segAt l s k) (l.drop k)) ∧ i = .int .i64 k ∧ j = .int .i64 s) (fun i j => l.length - (intOf i).toNat)
  case atStart => exact ⟨1, 1, Nat.le_refl _, Nat.le_refl _, hlen, Lib.hid (by rw [segAt_nil]), rfl, rfl⟩
  case round =>
    obtain ⟨k, s, hs1, hsk, hk, HR, rfl, rfl⟩ := hrel
    have hseg : ∀ h : s < k, segAt l s k ≠ [] := fun h => segAt_ne l s k h hk
    have hslen : (segAt l s k).length ≤ maxLen := by unfold maxLen; have := segAt_len l s k; omega
    have HSL := Lib.hid hslen
    clear hslen
    by_cases hstop : l.length ≤ k ∨ bl l k = 43
    · have hP := scanP_stop l s k hk hstop
      rw [← HR.out] at hP
      have hcase : (k < l.length ∧ ((bl l k : Int) != 43) = false) ∨ l.length ≤ k := by
        by_cases h : l.length ≤ k
        · exact .inr h
        · exact .inl ⟨by omega, by simp; omega⟩
      clear hstop
      by_cases hsk2 : s = k
      · subst hsk2
        have HG := Lib.hid (preV_none (hP.trans (if_pos (.inl (segAt_nil l s)))))
        have e1 : ((s : Int) == (s : Int)) = true := by simp
        clear hP hseg
        rcases hcase with ⟨h, h'⟩ | h
        all_goals
          go_wp2
          go_ret3
          exact ⟨by rw [HG.out]; rfl, 0, rfl⟩
      · have hne3 := hseg (by omega)
        have e1 : ((s : Int) == (k : Int)) = false := by simp; omega
        by_cases hb : badNum (segAt l s k) = true
        · have HG := Lib.hid (preV_none (hP.trans (if_pos (.inr hb))))
          have HB := Lib.hid hb
          clear hP hseg hne3 hb
          rcases hcase with ⟨h, h'⟩ | h
          all_goals
            go_wp2_with fail
            refine (badNum_any (segAt l s k) _ HSL.out).mono ?_
            rintro e w' ⟨rfl, rfl⟩
            rw [HB.out]
            go_wp2
            go_ret3
            exact ⟨by rw [HG.out]; rfl, 0, rfl⟩
        · have HG := Lib.hid (preV_some hk (hP.trans (if_neg (by simp [hne3, hb]))))
          have HB : Hid (badNum (segAt l s k) = false) := by show _ = _; simpa using hb
          clear hP hseg hne3 hb
          rcases hcase with ⟨h, h'⟩ | h
          all_goals
            go_wp2_with fail
            refine (badNum_any (segAt l s k) _ HSL.out).mono ?_
            rintro e w' ⟨rfl, rfl⟩
            rw [HB.out]
            go_wp2
            go_quiet (fail)
            go_wp2
            go_ret3
            exact ⟨by rw [HG.out]; first | rfl | (simp; try (rw [List.drop_eq_nil_of_le h])), nq, rfl⟩
    · have hlt : k < l.length := by omega
      have h43 : ((bl l k : Int) != 43) = true := by simp; omega
      have h43' : bl l k ≠ 43 := by omega
      have hb255 : bl l k < 256 := by have := bl_le l k; omega
      clear hstop
      by_cases hdot : bl l k = 46
      · have hP := scanP_dot l s k hlt hdot
        rw [← HR.out] at hP
        have HI : Hid (isIdN (bl l k) = false) := by show _ = _; rw [hdot]; rfl
        have e46 : ((bl l k : Int) != 46) = false := by simp; omega
        have e46' : ((bl l k : Int) == 46) = true := by simp; omega
        clear hdot h43'
        by_cases hsk2 : s = k
        · subst hsk2
          have HG := Lib.hid (preV_none (hP.trans (if_pos (.inl (segAt_nil l s)))))
          have e1 : ((s : Int) == (s : Int)) = true := by simp
          clear hP hseg
          go_wp2_with fail
          refine (isId_any _ _ hb255).mono ?_
          rintro e w' ⟨rfl, rfl⟩
          rw [HI.out]
          go_wp2
          go_ret3
          exact ⟨by rw [HG.out]; rfl, 0, rfl⟩
        · have hne3 := hseg (by omega)
          have e1 : ((s : Int) == (k : Int)) = false := by simp; omega
          by_cases hb : badNum (segAt l s k) = true
          · have HG := Lib.hid (preV_none (hP.trans (if_pos (.inr hb))))
            have HB := Lib.hid hb
            clear hP hseg hne3 hb
            go_wp2_with fail
            refine (isId_any _ _ hb255).mono ?_
            rintro e w' ⟨rfl, rfl⟩
            rw [HI.out]
            go_wp2_with fail
            refine (badNum_any (segAt l s k) _ HSL.out).mono ?_
            rintro e w' ⟨rfl, rfl⟩
            rw [HB.out]
            go_wp2
            go_ret3
            exact ⟨by rw [HG.out]; rfl, 0, rfl⟩
          · have HG := Lib.hid (hP.trans (if_neg (by simp [hne3, hb])))
            have HB : Hid (badNum (segAt l s k) = false) := by show _ = _; simpa using hb
            clear hP hseg hne3 hb
            go_wp2_with fail
            refine (isId_any _ _ hb255).mono ?_
            rintro e w' ⟨rfl, rfl⟩
            rw [HI.out]
            go_wp2_with fail
            refine (badNum_any (segAt l s k) _ HSL.out).mono ?_
            rintro e w' ⟨rfl, rfl⟩
            rw [HB.out]
            go_wp2
            go_round
            case rel => exact ⟨k + 1, k + 1, by omega, by omega, by omega, HG, by go_num, by go_num⟩
            case measure => simp [intOf]; omega
      · have hP := scanP_id l s k hsk hlt h43' hdot
        rw [← HR.out] at hP
        have e46 : ((bl l k : Int) != 46) = true := by simp; omega
        have e46' : ((bl l k : Int) == 46) = false := by simp; omega
        clear hdot h43' hseg
        by_cases hi : isIdN (bl l k) = true
        · have HG := Lib.hid (hP.trans (if_pos hi))
          have HI := Lib.hid hi
          clear hP hi
          go_wp2_with fail
          refine (isId_any _ _ hb255).mono ?_
          rintro e w' ⟨rfl, rfl⟩
          rw [HI.out]
          go_wp2
          go_round
          case rel => exact ⟨k + 1, s, by omega, by omega, by omega, HG, by go_num, by go_num⟩
          case measure => simp [intOf]; omega
        · have HG := Lib.hid (preV_none (hP.trans (if_neg hi)))
          have HI : Hid (isIdN (bl l k) = false) := by show _ = _; simpa using hi
          clear hP hi
          go_wp2_with fail
          refine (isId_any _ _ hb255).mono ?_
          rintro e w' ⟨rfl, rfl⟩
          rw [HI.out]
          go_wp2
          go_ret3
          exact ⟨by rw [HG.out]; rfl, 0, rfl⟩

/-- The same behind +: numbers may have noughts ahead. -/
def scanB : Bytes → Bytes → Option Bytes
  | seg, [] => if seg = [] then none else some []
  | seg, c :: r =>
    if c.toNat = 46 then (if seg = [] then none else scanB [] r)
    else if isId c = true then scanB (seg ++ [c]) r else none
theorem scanB_stop (l : Bytes) (s k : Nat) (hk : k ≤ l.length) (h : l.length ≤ k) :
    scanB (segAt l s k) (l.drop k) = if segAt l s k = [] then none else some (l.drop k) := by
  rw [List.drop_eq_nil_of_le h]
  unfold scanB
  rfl
theorem scanB_dot (l : Bytes) (s k : Nat) (hk : k < l.length) (h : bl l k = 46) :
    scanB (segAt l s k) (l.drop k) = if segAt l s k = [] then none else scanB (segAt l (k + 1) (k + 1)) (l.drop (k + 1)) := by
  rw [List.drop_eq_getElem_cons hk]
  have hb : l[k].toNat = 46 := by rw [← bl_get l k hk]; omega
  rw [segAt_nil]
  conv => lhs; unfold scanB
  rw [if_pos hb]
theorem scanB_id (l : Bytes) (s k : Nat) (hs : s ≤ k) (hk : k < l.length) (h2 : bl l k ≠ 46) :
    scanB (segAt l s k) (l.drop k) = if isIdN (bl l k) = true then scanB (segAt l s (k + 1)) (l.drop (k + 1)) else none := by
  rw [List.drop_eq_getElem_cons hk, segAt_succ l s k hs hk, bl_get l k hk]
  rw [bl_get l k hk] at h2
  conv => lhs; unfold scanB
  rw [if_neg h2]
  rfl
def buildV (l : Bytes) : Value := match scanB [] (l.drop 1) with
  | none => .tuple #[.string (bs []), .string (bs []), .bool false]
  | some r => .tuple #[.string (bs (l.take (l.length - r.length))), .string (bs r), .bool true]
theorem buildV_none {l : Bytes} (h : scanB [] (l.drop 1) = none) : buildV l = .tuple #[.string (bs []), .string (bs []), .bool false] := by unfold buildV; rw [h]
theorem buildV_some {l : Bytes} {k : Nat} (hk : k ≤ l.length) (h : scanB [] (l.drop 1) = some (l.drop k)) : buildV l = .tuple #[.string (bs (l.take k)), .string (bs (l.drop k)), .bool true] := by
  unfold buildV; rw [h]
  simp only [List.length_drop]
  rw [show l.length - (l.length - k) = k by omega]

set_option maxHeartbeats 1000000 in
theorem build_any (l : Bytes) (w : World) (hs : l.length ≤ maxLen) (hlen : 1 ≤ l.length) (h0 : bl l 0 = 43) :
    Calls Try.prog 102 #[.string (bs l)] w fun e w' => e = .returned (buildV l) ∧ Draws w w' := by
  have hne : (l == []) = false := by cases l <;> simp_all
  have hne2 : l.isEmpty = false := by cases l <;> simp_all
  have h45 : ((bl l 0 : Int) != 43) = false := by simp; omega
  clear h0
  unfold maxLen at hs
  go_enter Try.func102, Try.ntmps102
  go_wp2
  go_loop [5, 6] (fun i j => ∃ k s : Nat, 1 ≤ s ∧ s ≤ k ∧ k ≤ l.length ∧ Hid (scanB [] (l.drop 1) = scanB (segAt l s k) (l.drop k)) ∧ i = .int .i64 k ∧ j = .int .i64 s) (fun i j => l.length - (intOf i).toNat)
  case atStart => exact ⟨1, 1, Nat.le_refl _, Nat.le_refl _, hlen, Lib.hid (by rw [segAt_nil]), rfl, rfl⟩
  case round =>
    obtain ⟨k, s, hs1, hsk, hk, HR, rfl, rfl⟩ := hrel
    have hseg : ∀ h : s < k, segAt l s k ≠ [] := fun h => segAt_ne l s k h hk
    by_cases hstop : l.length ≤ k
    · have hP := scanB_stop l s k hk hstop
      rw [← HR.out] at hP
      by_cases hsk2 : s = k
      · subst hsk2
        have HG := Lib.hid (buildV_none (hP.trans (if_pos (segAt_nil l s))))
        have e1 : ((s : Int) == (s : Int)) = true := by simp
        clear hP hseg
        go_wp2
        go_ret3
        exact ⟨by rw [HG.out]; rfl, 0, rfl⟩
      · have hne3 := hseg (by omega)
        have e1 : ((s : Int) == (k : Int)) = false := by simp; omega
        have HG := Lib.hid (buildV_some hk (hP.trans (if_neg hne3)))
        clear hP hseg hne3
        go_wp2
        go_quiet (fail)
        go_wp2
        go_ret3
        exact ⟨by rw [HG.out]; first | rfl | (simp; try (rw [List.drop_eq_nil_of_le hstop])), nq, rfl⟩
    · have hlt : k < l.length := by omega
      have hb255 : bl l k < 256 := by have := bl_le l k; omega
      clear hstop
      by_cases hdot : bl l k = 46
      · have hP := scanB_dot l s k hlt hdot
        rw [← HR.out] at hP
        have HI : Hid (isIdN (bl l k) = false) := by show _ = _; rw [hdot]; rfl
        have e46 : ((bl l k : Int) != 46) = false := by simp; omega
        have e46' : ((bl l k : Int) == 46) = true := by simp; omega
        clear hdot
        by_cases hsk2 : s = k
        · subst hsk2
          have HG := Lib.hid (buildV_none (hP.trans (if_pos (segAt_nil l s))))
          have e1 : ((s : Int) == (s : Int)) = true := by simp
          clear hP hseg
          go_wp2_with fail
          refine (isId_any _ _ hb255).mono ?_
          rintro e w' ⟨rfl, rfl⟩
          rw [HI.out]
          go_wp2
          go_ret3
          exact ⟨by rw [HG.out]; rfl, 0, rfl⟩
        · have hne3 := hseg (by omega)
          have e1 : ((s : Int) == (k : Int)) = false := by simp; omega
          have HG := Lib.hid (hP.trans (if_neg hne3))
          clear hP hseg hne3
          go_wp2_with fail
          refine (isId_any _ _ hb255).mono ?_
          rintro e w' ⟨rfl, rfl⟩
          rw [HI.out]
          go_wp2
          go_round
          case rel => exact ⟨k + 1, k + 1, by omega, by omega, by omega, HG, by go_num, by go_num⟩
          case measure => simp [intOf]; omega
      · have hP := scanB_id l s k hsk hlt hdot
        rw [← HR.out] at hP
        have e46 : ((bl l k : Int) != 46) = true := by simp; omega
        have e46' : ((bl l k : Int) == 46) = false := by simp; omega
        clear hdot hseg
        by_cases hi : isIdN (bl l k) = true
        · have HG := Lib.hid (hP.trans (if_pos hi))
          have HI := Lib.hid hi
          clear hP hi
          go_wp2_with fail
          refine (isId_any _ _ hb255).mono ?_
          rintro e w' ⟨rfl, rfl⟩
          rw [HI.out]
          go_wp2
          go_round
          case rel => exact ⟨k + 1, s, by omega, by omega, by omega, HG, by go_num, by go_num⟩
          case measure => simp [intOf]; omega
        · have HG := Lib.hid (buildV_none (hP.trans (if_neg hi)))
          have HI : Hid (isIdN (bl l k) = false) := by show _ = _; simpa using hi
          clear hP hi
          go_wp2_with fail
          refine (isId_any _ _ hb255).mono ?_
          rintro e w' ⟨rfl, rfl⟩
          rw [HI.out]
          go_wp2
          go_ret3
          exact ⟨by rw [HG.out]; rfl, 0, rfl⟩
end Go.Proofs.Ytdhibalpnccbiaa
