/- FnModPrerelease: the walk. -/
import Derived.Test.YtdhibalpnccbiaaL8b
import Derived.Test.YtdhibalpnccbiaaSmt2
import Derived.Deep.RegionHeld3
namespace Go.Proofs.Ytdhibalpnccbiaa
open Go.RowKit
set_option linter.unusedVariables false
set_option maxRecDepth 100000 in
set_option maxHeartbeats 1000000 in
theorem law10 (p v : Bytes) (w : World) (hp : p.length ≤ maxLen) (hv : v.length ≤ maxLen) : Calls Try.prog 10 #[.string (bs p), .string (bs v)] w fun e w' => e = .returned (.bool true) ∧ Below w.heap.size w w' := by
  have HP := Lib.hid hp
  have HV := Lib.hid hv
  unfold maxLen at hp hv
  by_cases h1 : 2147483647 < p.length
  · go_enter Try.func10, Try.ntmps10
    go_wp2
    go_ret
    exact ⟨rfl, Below.refl _ _⟩
  have h1' : p.length ≤ 2147483647 := by omega
  clear h1
  by_cases h2 : 2147483647 < v.length
  · go_enter Try.func10, Try.ntmps10
    go_wp2
    go_ret
    exact ⟨rfl, Below.refl _ _⟩
  have h2' : v.length ≤ 2147483647 := by omega
  clear h2
  cases hs : shortB [p, v]
  · have HSH := Lib.hid hs
    clear hs
    go_enter Try.func10, Try.ntmps10
    go_wp2_with fail
    refine (short2 p v _ _ HP.out HV.out (by simp) (by simp)).mono ?_
    rintro e w' ⟨rfl, rfl⟩
    rw [HSH.out]
    go_wp2
    go_ret
    exact ⟨rfl, (Below.refl _ _).alloc (Nat.le_refl _) _⟩
  have HSH := Lib.hid hs
  have hl80 : v.length ≤ 80 := by simp [shortB] at hs; exact hs.2
  have HL : Hid (v.length ≤ 1000) := Lib.hid (by omega)
  clear hs
  by_cases ht : p = tToolchain
  · have e1 : (p == [116, 111, 111, 108, 99, 104, 97, 105, 110]) = true := by simpa [tToolchain] using ht
    clear ht
    go_enter Try.func10, Try.ntmps10
    go_wp2_with fail
    refine (short2 p v _ _ HP.out HV.out (by simp) (by simp)).mono ?_
    rintro e w' ⟨rfl, rfl⟩
    rw [HSH.out]
    go_wp2
    go_ret
    exact ⟨rfl, (Below.refl _ _).alloc (Nat.le_refl _) _⟩
  have e1 : (p == [116, 111, 111, 108, 99, 104, 97, 105, 110]) = false := by simpa [tToolchain] using ht
  clear ht
  cases hvr : virt p with
  | true =>
    have HVR := Lib.hid hvr
    obtain ⟨⟨g, st⟩, hr⟩ : ∃ r, modR p v = r := ⟨_, rfl⟩
    have HR := Lib.hid hr
    clear hvr hr
    go_enter Try.func10, Try.ntmps10
    go_wp2_with fail
    refine (short2 p v _ _ HP.out HV.out (by simp) (by simp)).mono ?_
    rintro e w' ⟨rfl, rfl⟩
    rw [HSH.out]
    have HB := Lib.hid ((Below.refl w.heap.size w).alloc (Nat.le_refl _) (.cells #[.string (bs p), .string (bs v)] 9))
    go_wp2_with fail
    refine (virt_any p _).mono ?_
    rintro e w' ⟨rfl, rfl⟩
    rw [HVR.out]
    go_wp2_with fail
    refine (mod_any p v _ HV.out).mono ?_
    rintro e w1 ⟨rfl, hb⟩
    rw [HR.out]
    unfold rv gv
    have hz := hb.size
    have HB1 := Lib.hid ((below_next HB.out hb).alloc (by have := HB.out.size; omega) (.cells #[.string (bs g.maj), .string (bs g.min), .string (bs g.pat), .string (bs g.kind), .string (bs g.pre)] 25))
    clear hb
    by_cases h0 : st = 1
    case neg =>
      have e0 : ((st : Int) != 1) = true := by simp; omega
      go_wp2
      go_quiet (fail)
      go_wp2
      go_ret
      exact ⟨rfl, below_drewN HB1.out _⟩
    subst h0
    have hq : (!((parse (verOf p v)).kind == [])) = !(g.kind == []) := by
      rw [mod_parse p v (by rw [HR.out]; simp), HR.out]
    by_cases hk : g.kind = []
    · have HQ : Hid ((!((parse (verOf p v)).kind == [])) = false) := Lib.hid (by rw [hq, hk]; rfl)
      have k1 : (g.kind == []) = true := by simpa using hk
      have k2 : (g.kind != []) = false := by simpa using hk
      have k3 : g.kind.isEmpty = true := by simpa using hk
      clear hq hk
      go_wp2
      go_region_held3 (fun w' => w'.cell? ⟨w1.heap.size, 3, none⟩ = some (.string (bs g.kind)) ∧ Hid (Below w.heap.size w w')) (first | exact ⟨by simp, Lib.hid HB1.out.drew⟩ | exact keepc1 (by assumption) hb2) (first | (go_at_call 36; refine (mpre_virt p v _ HV.out HVR.out).mono ?_; rintro e w' ⟨rfl, hb2⟩; rw [HQ.out]))
      all_goals
        go_wp2
        go_ret
        exact ⟨by simp, (show _ ∧ Hid (Below w.heap.size w _) by assumption).2.out⟩
    · have HQ : Hid ((!((parse (verOf p v)).kind == [])) = true) := Lib.hid (by rw [hq]; simpa using hk)
      have k1 : (g.kind == []) = false := by simpa using hk
      have k2 : (g.kind != []) = true := by simpa using hk
      have k3 : g.kind.isEmpty = false := by simpa using hk
      clear hq hk
      go_wp2
      go_region_held3 (fun w' => w'.cell? ⟨w1.heap.size, 3, none⟩ = some (.string (bs g.kind)) ∧ Hid (Below w.heap.size w w')) (first | exact ⟨by simp, Lib.hid HB1.out.drew⟩ | exact keepc1 (by assumption) hb2) (first | (go_at_call 36; refine (mpre_virt p v _ HV.out HVR.out).mono ?_; rintro e w' ⟨rfl, hb2⟩; rw [HQ.out]))
      all_goals
        go_wp2
        go_ret
        exact ⟨by simp, (show _ ∧ Hid (Below w.heap.size w _) by assumption).2.out⟩
  | false =>
    have HVR := Lib.hid hvr
    clear hvr
    cases hsem : semP v with
    | none =>
      have HSEM := Lib.hid hsem
      clear hsem
      go_enter Try.func10, Try.ntmps10
      go_wp2_with fail
      refine (short2 p v _ _ HP.out HV.out (by simp) (by simp)).mono ?_
      rintro e w' ⟨rfl, rfl⟩
      rw [HSH.out]
      have HB := Lib.hid ((Below.refl w.heap.size w).alloc (Nat.le_refl _) (.cells #[.string (bs p), .string (bs v)] 9))
      go_wp2_with fail
      refine (virt_any p _).mono ?_
      rintro e w' ⟨rfl, rfl⟩
      rw [HVR.out]
      go_wp2_with fail
      refine (smt_no _ HL.out HSEM.out).mono ?_
      rintro e w1 ⟨⟨X, rfl⟩, hb⟩
      unfold sxv
      have hz := hb.size
      have HB1 := Lib.hid ((below_next HB.out hb).alloc (by have := HB.out.size; omega) (.cells #[.string (bs X.n0), .string (bs X.n1), .string (bs X.n2), .string (bs X.pre), .string (bs X.plus), .int .i64 X.told] 37))
      clear hb
      go_wp2
      go_quiet (fail)
      go_wp2
      go_ret
      exact ⟨rfl, below_drewN HB1.out _⟩
    | some S =>
      have HSEM := Lib.hid hsem
      have hq : preOf v = (toX S).pre := by unfold preOf; rw [hsem]; rfl
      have HQ := Lib.hid hq
      clear hsem hq
      go_enter Try.func10, Try.ntmps10
      go_wp2_with fail
      refine (short2 p v _ _ HP.out HV.out (by simp) (by simp)).mono ?_
      rintro e w' ⟨rfl, rfl⟩
      rw [HSH.out]
      have HB := Lib.hid ((Below.refl w.heap.size w).alloc (Nat.le_refl _) (.cells #[.string (bs p), .string (bs v)] 9))
      go_wp2_with fail
      refine (virt_any p _).mono ?_
      rintro e w' ⟨rfl, rfl⟩
      rw [HVR.out]
      go_wp2_with fail
      refine (smt_ok _ HL.out HSEM.out).mono ?_
      rintro e w1 ⟨rfl, hb⟩
      unfold sxv
      have hz := hb.size
      generalize toX S = X at *
      have HB1 := Lib.hid ((below_next HB.out hb).alloc (by have := HB.out.size; omega) (.cells #[.string (bs X.n0), .string (bs X.n1), .string (bs X.n2), .string (bs X.pre), .string (bs X.plus), .int .i64 X.told] 37))
      clear hb
      by_cases hk : X.pre = []
      · have HQ2 : Hid ((!(preOf v).isEmpty) = false) := Lib.hid (by rw [HQ.out, hk]; rfl)
        have k1 : (X.pre == []) = true := by simpa using hk
        have k2 : (X.pre != []) = false := by simpa using hk
        have k3 : X.pre.isEmpty = true := by simpa using hk
        clear HQ hk
        go_wp2
        go_region_held3 (fun w' => w'.cell? ⟨w1.heap.size, 3, none⟩ = some (.string (bs X.pre)) ∧ Hid (Below w.heap.size w w')) (first | exact ⟨by simp, Lib.hid HB1.out.drew⟩ | exact keepc1 (by assumption) hb2) (first | (go_at_call 36; refine (mpre_other p v _ HV.out HVR.out).mono ?_; rintro e w' ⟨rfl, hb2⟩; rw [HQ2.out]))
        all_goals
          go_wp2
          go_ret
          exact ⟨by simp, (show _ ∧ Hid (Below w.heap.size w _) by assumption).2.out⟩
      · have HQ2 : Hid ((!(preOf v).isEmpty) = true) := Lib.hid (by rw [HQ.out]; simpa using hk)
        have k1 : (X.pre == []) = false := by simpa using hk
        have k2 : (X.pre != []) = true := by simpa using hk
        have k3 : X.pre.isEmpty = false := by simpa using hk
        clear HQ hk
        go_wp2
        go_region_held3 (fun w' => w'.cell? ⟨w1.heap.size, 3, none⟩ = some (.string (bs X.pre)) ∧ Hid (Below w.heap.size w w')) (first | exact ⟨by simp, Lib.hid HB1.out.drew⟩ | exact keepc1 (by assumption) hb2) (first | (go_at_call 36; refine (mpre_other p v _ HV.out HVR.out).mono ?_; rintro e w' ⟨rfl, hb2⟩; rw [HQ2.out]))
        all_goals
          go_wp2
          go_ret
          exact ⟨by simp, (show _ ∧ Hid (Below w.heap.size w _) by assumption).2.out⟩
end Go.Proofs.Ytdhibalpnccbiaa
