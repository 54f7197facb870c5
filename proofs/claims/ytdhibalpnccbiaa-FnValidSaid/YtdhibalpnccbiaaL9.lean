/- FnValid: the walk. -/
import Derived.Test.YtdhibalpnccbiaaMods
import Derived.Test.YtdhibalpnccbiaaSmt2
import Derived.Deep.RegionHeld3
namespace Go.Proofs.Ytdhibalpnccbiaa
open Go.RowKit
set_option linter.unusedVariables false
set_option maxRecDepth 100000 in
set_option maxHeartbeats 1000000 in
theorem law9 (p v : Bytes) (w : World) (hp : p.length ≤ maxLen) (hv : v.length ≤ maxLen) : Calls Try.prog 9 #[.string (bs p), .string (bs v)] w fun e w' => e = .returned (.bool true) ∧ Below w.heap.size w w' := by
  have HP := Lib.hid hp
  have HV := Lib.hid hv
  unfold maxLen at hp hv
  by_cases h1 : 2147483647 < p.length
  · go_enter Try.func9, Try.ntmps9
    go_wp2
    go_ret
    exact ⟨rfl, Below.refl _ _⟩
  have h1' : p.length ≤ 2147483647 := by omega
  clear h1
  by_cases h2 : 2147483647 < v.length
  · go_enter Try.func9, Try.ntmps9
    go_wp2
    go_ret
    exact ⟨rfl, Below.refl _ _⟩
  have h2' : v.length ≤ 2147483647 := by omega
  clear h2
  cases hs : shortB [p, v]
  · have HSH := Lib.hid hs
    clear hs
    go_enter Try.func9, Try.ntmps9
    go_wp2_with fail
    refine (short2 p v _ _ HP.out HV.out (by simp) (by simp)).mono ?_
    rintro e w' ⟨rfl, rfl⟩
    rw [HSH.out]
    go_wp2
    go_ret
    exact ⟨rfl, (Below.refl _ _).alloc (Nat.le_refl _) _⟩
  have HSH := Lib.hid hs
  have hl80 : v.length ≤ 80 := by simp [shortB] at hs; exact hs.2
  have HL : Hid (v.length ≤ 1000) := Lib.hid (by omega)
  clear hs
  cases hvr : virt p with
  | true =>
    have HVR := Lib.hid hvr
    obtain ⟨⟨g, st⟩, hr⟩ : ∃ r, modR p v = r := ⟨_, rfl⟩
    have HR := Lib.hid hr
    have hst := mod_state p v
    rw [hr] at hst
    have HST := Lib.hid hst
    clear hvr hr hst
    go_enter Try.func9, Try.ntmps9
    go_wp2_with fail
    refine (short2 p v _ _ HP.out HV.out (by simp) (by simp)).mono ?_
    rintro e w' ⟨rfl, rfl⟩
    rw [HSH.out]
    have HB := Lib.hid ((Below.refl w.heap.size w).alloc (Nat.le_refl _) (.cells #[.string (bs p), .string (bs v)] 9))
    go_wp2_with fail
    refine (virt_any p _).mono ?_
    rintro e w' ⟨rfl, rfl⟩
    rw [HVR.out]
    go_wp2_with fail
    refine (mod_any p v _ HV.out).mono ?_
    rintro e w1 ⟨rfl, hb⟩
    rw [HR.out]
    unfold rv gv
    have hz := hb.size
    have HB1 := Lib.hid ((below_next HB.out hb).alloc (by have := HB.out.size; omega) (.cells #[.string (bs g.maj), .string (bs g.min), .string (bs g.pat), .string (bs g.kind), .string (bs g.pre)] 25))
    clear hb
    by_cases h0 : st = 0
    · subst h0
      go_wp2
      go_ret
      exact ⟨rfl, HB1.out⟩
    have e0 : ((st : Int) == 0) = false := beq_eq_false_iff_ne.2 (by omega)
    rcases HST.out h0 with ⟨h9, h10, _⟩ | ⟨h9, h10⟩
    · subst h9
      have HQ : Hid (validB (parse (verOf p v)) = true) := Lib.hid (by simp [validB, h10])
      clear h10 h0
      go_wp2_with fail
      refine (mvalid_virt p v _ HV.out HVR.out).mono ?_
      rintro e w2 ⟨rfl, hb2⟩
      rw [HQ.out]
      have HB2 := Lib.hid (below_next HB1.out hb2)
      clear hb2
      go_wp2
      go_ret
      exact ⟨rfl, HB2.out⟩
    · subst h9
      have HQ : Hid (validB (parse (verOf p v)) = false) := Lib.hid (by rw [h10]; rfl)
      clear h10 h0
      go_wp2_with fail
      refine (mvalid_virt p v _ HV.out HVR.out).mono ?_
      rintro e w2 ⟨rfl, hb2⟩
      rw [HQ.out]
      have HB2 := Lib.hid (below_next HB1.out hb2)
      clear hb2
      go_wp2
      go_ret
      exact ⟨rfl, HB2.out⟩
  | false =>
    have HVR := Lib.hid hvr
    clear hvr
    cases hsem : semP v with
    | none =>
      have HSEM := Lib.hid hsem
      have HQ : Hid ((semP v).isSome = false) := Lib.hid (by rw [hsem]; rfl)
      clear hsem
      go_enter Try.func9, Try.ntmps9
      go_wp2_with fail
      refine (short2 p v _ _ HP.out HV.out (by simp) (by simp)).mono ?_
      rintro e w' ⟨rfl, rfl⟩
      rw [HSH.out]
      have HB := Lib.hid ((Below.refl w.heap.size w).alloc (Nat.le_refl _) (.cells #[.string (bs p), .string (bs v)] 9))
      go_wp2_with fail
      refine (virt_any p _).mono ?_
      rintro e w' ⟨rfl, rfl⟩
      rw [HVR.out]
      go_wp2_with fail
      refine (smt_no _ HL.out HSEM.out).mono ?_
      rintro e w1 ⟨⟨X, rfl⟩, hb⟩
      unfold sxv
      have hz := hb.size
      have HB1 := Lib.hid ((below_next HB.out hb).alloc (by have := HB.out.size; omega) (.cells #[.string (bs X.n0), .string (bs X.n1), .string (bs X.n2), .string (bs X.pre), .string (bs X.plus), .int .i64 X.told] 37))
      clear hb
      go_wp2_with fail
      refine (mvalid_other p v _ HV.out HVR.out).mono ?_
      rintro e w2 ⟨rfl, hb2⟩
      rw [HQ.out]
      have HB2 := Lib.hid (below_next HB1.out hb2)
      clear hb2
      go_wp2
      go_ret
      exact ⟨rfl, HB2.out⟩
    | some S =>
      have HSEM := Lib.hid hsem
      have HQ : Hid ((semP v).isSome = true) := Lib.hid (by rw [hsem]; rfl)
      clear hsem
      go_enter Try.func9, Try.ntmps9
      go_wp2_with fail
      refine (short2 p v _ _ HP.out HV.out (by simp) (by simp)).mono ?_
      rintro e w' ⟨rfl, rfl⟩
      rw [HSH.out]
      have HB := Lib.hid ((Below.refl w.heap.size w).alloc (Nat.le_refl _) (.cells #[.string (bs p), .string (bs v)] 9))
      go_wp2_with fail
      refine (virt_any p _).mono ?_
      rintro e w' ⟨rfl, rfl⟩
      rw [HVR.out]
      go_wp2_with fail
      refine (smt_ok _ HL.out HSEM.out).mono ?_
      rintro e w1 ⟨rfl, hb⟩
      unfold sxv
      have hz := hb.size
      generalize toX S = X at *
      have HB1 := Lib.hid ((below_next HB.out hb).alloc (by have := HB.out.size; omega) (.cells #[.string (bs X.n0), .string (bs X.n1), .string (bs X.n2), .string (bs X.pre), .string (bs X.plus), .int .i64 X.told] 37))
      clear hb
      go_wp2_with fail
      refine (mvalid_other p v _ HV.out HVR.out).mono ?_
      rintro e w2 ⟨rfl, hb2⟩
      rw [HQ.out]
      have HB2 := Lib.hid (below_next HB1.out hb2)
      clear hb2
      go_wp2
      go_ret
      exact ⟨rfl, HB2.out⟩
end Go.Proofs.Ytdhibalpnccbiaa
