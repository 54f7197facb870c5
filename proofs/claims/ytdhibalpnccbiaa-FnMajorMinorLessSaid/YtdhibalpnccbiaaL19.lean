/- FnMajorMinorLess: the walk. -/
import Derived.Test.YtdhibalpnccbiaaMmP
import Derived.Test.YtdhibalpnccbiaaSmt2
import Derived.Deep.RegionHeld3
namespace Go.Proofs.Ytdhibalpnccbiaa
open Go.RowKit
set_option linter.unusedVariables false
set_option maxRecDepth 100000 in
set_option maxHeartbeats 1000000 in
theorem law19 (p v : Bytes) (w : World) (hp : p.length ≤ maxLen) (hv : v.length ≤ maxLen) : Calls Try.prog 19 #[.string (bs p), .string (bs v)] w fun e w' => e = .returned (.bool true) ∧ Below w.heap.size w w' := by
  have HP := Lib.hid hp
  have HV := Lib.hid hv
  unfold maxLen at hp hv
  by_cases h1 : 2147483647 < p.length
  · go_enter Try.func19, Try.ntmps19
    go_wp2
    go_ret
    exact ⟨rfl, Below.refl _ _⟩
  have h1' : p.length ≤ 2147483647 := by omega
  clear h1
  by_cases h2 : 2147483647 < v.length
  · go_enter Try.func19, Try.ntmps19
    go_wp2
    go_ret
    exact ⟨rfl, Below.refl _ _⟩
  have h2' : v.length ≤ 2147483647 := by omega
  clear h2
  cases hs : shortB [p, v]
  · have HSH := Lib.hid hs
    clear hs
    go_enter Try.func19, Try.ntmps19
    go_wp2_with fail
    refine (short2 p v _ _ HP.out HV.out (by simp) (by simp)).mono ?_
    rintro e w' ⟨rfl, rfl⟩
    rw [HSH.out]
    go_wp2
    go_ret
    exact ⟨rfl, (Below.refl _ _).alloc (Nat.le_refl _) _⟩
  have HSH := Lib.hid hs
  have hl80 : v.length ≤ 80 := by simp [shortB] at hs; exact hs.2
  have HL : Hid (v.length ≤ 1000) := Lib.hid (by omega)
  clear hs
  by_cases ht : p = tToolchain
  · have e1 : (p == [116, 111, 111, 108, 99, 104, 97, 105, 110]) = true := by simpa [tToolchain] using ht
    clear ht
    go_enter Try.func19, Try.ntmps19
    go_wp2_with fail
    refine (short2 p v _ _ HP.out HV.out (by simp) (by simp)).mono ?_
    rintro e w' ⟨rfl, rfl⟩
    rw [HSH.out]
    go_wp2
    go_ret
    exact ⟨rfl, (Below.refl _ _).alloc (Nat.le_refl _) _⟩
  have e1 : (p == [116, 111, 111, 108, 99, 104, 97, 105, 110]) = false := by simpa [tToolchain] using ht
  by_cases hg : p = tGo
  · subst hg
    obtain ⟨⟨g, st⟩, hr⟩ : ∃ r, read v = r := ⟨_, rfl⟩
    have HRD := Lib.hid hr
    have HMM := Lib.hid (fun W => mmm_virt tGo v W HL.out rfl)
    have hbe : (if tGo = tToolchain then 103 :: 111 :: lang (parse (verOf tGo v)) else lang (parse (verOf tGo v))) = lang (parse v) := by rw [if_neg (by decide), verOf_go]
    have HBE := Lib.hid hbe
    have HBL := Lib.hid (lang_len v HL.out)
    have hmod : ∀ b W, b.length ≤ maxLen → Calls Try.prog 40 #[.string (bs tGo), .string (bs b), .string (bs v)] W fun e w' => e = .returned (.int .i64 (cmpG (parse b) (parse v))) ∧ Below W.heap.size W w' :=
      fun b W hb => mc40 (mc_go b v W hb HV.out)
    have HMOD := Lib.hid hmod
    have hfine : st = 1 → parse v = g := fun h => by subst h; exact (fine_parts hr).1
    have HFINE := Lib.hid hfine
    have HNE : Hid (st = 1 → lang g ≠ []) := Lib.hid (fun h => by subst h; exact lang_ne hr)
    have HBG : Hid (st = 1 → (g.kind = [] ∨ ¬ cmpB g.min [50, 49] < 0) → cmpG (parse (lang g)) (parse v) ≤ 0) := Lib.hid (fun h => by subst h; exact begin_go hr)
    unfold tGo at HMM HMOD HBE HP e1 HSH
    clear ht hr hbe hmod hfine
    unfold tGo
    go_enter Try.func19, Try.ntmps19
    go_wp2_with fail
    refine (short2 [103, 111] v _ _ HP.out HV.out (by simp) (by simp)).mono ?_
    rintro e w' ⟨rfl, rfl⟩
    rw [HSH.out]
    have HB := Lib.hid ((Below.refl w.heap.size w).alloc (Nat.le_refl _) (.cells #[.string (bs [103, 111]), .string (bs v)] 9))
    go_wp2_with fail
    refine (HMM.out _).mono ?_
    rintro e w1 ⟨rfl, hb⟩
    rw [HBE.out]
    have HB1 := Lib.hid (below_next HB.out hb)
    clear hb
    go_wp2_with fail
    refine (read_any _ _ HV.out).mono ?_
    rintro e w2 ⟨rfl, hb2⟩
    rw [HRD.out]
    unfold rv gv
    have hz2 := hb2.size
    have HB2 := Lib.hid ((below_next HB1.out hb2).alloc (by have := HB1.out.size; omega) (.cells #[.string (bs g.maj), .string (bs g.min), .string (bs g.pat), .string (bs g.kind), .string (bs g.pre)] 25))
    clear hb2
    by_cases h0 : st = 1
    case neg =>
      have e0 : ((st : Int) != 1) = true := by simp; omega
      go_wp2
      go_ret
      exact ⟨rfl, HB2.out⟩
    have hpv := HFINE.out h0
    have hne := HNE.out h0
    have hbg := HBG.out h0
    have hbl := HBL.out
    subst h0
    rw [hpv] at hbl
    have HPV := Lib.hid hpv
    rw [hpv] at hbg
    rw [hpv]
    clear hpv
    generalize hlg : lang g = b at *
    have HLG := Lib.hid hlg
    have HBB : Hid (b.length ≤ maxLen) := Lib.hid (by unfold maxLen; omega)
    have k1 : (b == []) = false := by simpa using hne
    have k2 : (b != []) = true := by simpa using hne
    have k3 : b.isEmpty = false := by simpa using hne
    have HBG2 := Lib.hid hbg
    clear hlg hbl hne hbg
    by_cases hk : g.kind = []
    · have q1 : (g.kind == []) = true := by simpa using hk
      have q2 : (g.kind != []) = false := by simpa using hk
      have q3 : g.kind.isEmpty = true := by simpa using hk
      have hle := HBG2.out (.inl hk)
      generalize hcc : cmpG (parse b) g = c at *
      have HCC := Lib.hid hcc
      clear hk hcc
      go_wp2_with fail
      refine (HMOD.out b _ HBB.out).mono ?_
      rintro e w3 ⟨rfl, hb3⟩
      rw [HPV.out, HCC.out]
      have HB3 := Lib.hid (below_next HB2.out hb3)
      clear hb3
      go_wp2
      go_ret
      exact ⟨by simp, HB3.out⟩
    · have q1 : (g.kind == []) = false := by simpa using hk
      have q2 : (g.kind != []) = true := by simpa using hk
      have q3 : g.kind.isEmpty = false := by simpa using hk
      clear hk
      go_wp2_with fail
      refine (nums_any g.min [50, 49] _).mono ?_
      rintro e w' ⟨rfl, rfl⟩
      by_cases h21 : cmpB g.min [50, 49] < 0
      · go_wp2
        go_ret
        exact ⟨rfl, HB2.out⟩
      · have hle := HBG2.out (.inr (by omega))
        generalize hcc : cmpG (parse b) g = c at *
        have HCC := Lib.hid hcc
        clear hcc
        go_wp2_with fail
        refine (HMOD.out b _ HBB.out).mono ?_
        rintro e w3 ⟨rfl, hb3⟩
        rw [HPV.out, HCC.out]
        have HB3 := Lib.hid (below_next HB2.out hb3)
        clear hb3
        go_wp2
        go_ret
        exact ⟨by simp, HB3.out⟩
  · have e2 : (p == [103, 111]) = false := by simpa [tGo] using hg
    have hvr : virt p = false := by simp [virt, hg, ht]
    have HVR := Lib.hid hvr
    have hmod : ∀ b W, b.length ≤ maxLen → Calls Try.prog 40 #[.string (bs p), .string (bs b), .string (bs v)] W fun e w' => e = .returned (.int .i64 (cmpV b v)) ∧ Below W.heap.size W w' :=
      fun b W hb => mc40 (mc_other p b v W hb HV.out hg ht)
    have HMOD := Lib.hid hmod
    clear hg ht hvr hmod
    cases hsem : semP v with
    | none =>
      have HSEM := Lib.hid hsem
      clear hsem
      go_enter Try.func19, Try.ntmps19
      go_wp2_with fail
      refine (short2 p v _ _ HP.out HV.out (by simp) (by simp)).mono ?_
      rintro e w' ⟨rfl, rfl⟩
      rw [HSH.out]
      have HB0 := Lib.hid ((Below.refl w.heap.size w).alloc (Nat.le_refl _) (.cells #[.string (bs p), .string (bs v)] 9))
      go_wp2_with fail
      refine (mmm_other p v _ HL.out HVR.out).mono ?_
      rintro e w0 ⟨rfl, hb0⟩
      have HB := Lib.hid (below_next HB0.out hb0)
      clear hb0
      go_wp2_with fail
      refine (smt_no _ HL.out HSEM.out).mono ?_
      rintro e w1 ⟨⟨X, rfl⟩, hb⟩
      unfold sxv
      have hz := hb.size
      have HB1 := Lib.hid ((below_next HB.out hb).alloc (by have := HB.out.size; omega) (.cells #[.string (bs X.n0), .string (bs X.n1), .string (bs X.n2), .string (bs X.pre), .string (bs X.plus), .int .i64 X.told] 37))
      clear hb
      go_wp2
      go_ret
      exact ⟨rfl, HB1.out⟩
    | some S =>
      have HSEM := Lib.hid hsem
      have hb9 := begin_sem hsem
      have hmm : mmOf v ≠ [] := by unfold mmOf; rw [hsem]; simp
      have hml : (mmOf v).length ≤ 1000 := by
        have h9 := sem_nums2 hsem
        unfold mmOf; rw [hsem]; simp; omega
      have HPRE : Hid ((toX S).pre = S.pre) := Lib.hid rfl
      have HBS := Lib.hid hb9
      clear hsem hb9
      go_enter Try.func19, Try.ntmps19
      go_wp2_with fail
      refine (short2 p v _ _ HP.out HV.out (by simp) (by simp)).mono ?_
      rintro e w' ⟨rfl, rfl⟩
      rw [HSH.out]
      have HB0 := Lib.hid ((Below.refl w.heap.size w).alloc (Nat.le_refl _) (.cells #[.string (bs p), .string (bs v)] 9))
      go_wp2_with fail
      refine (mmm_other p v _ HL.out HVR.out).mono ?_
      rintro e w0 ⟨rfl, hb0⟩
      have HB := Lib.hid (below_next HB0.out hb0)
      clear hb0
      generalize hbb : mmOf v = b at *
      have k1 : (b == []) = false := by simpa using hmm
      have k2 : (b != []) = true := by simpa using hmm
      have k3 : b.isEmpty = false := by simpa using hmm
      have HBB : Hid (b.length ≤ maxLen) := Lib.hid (by unfold maxLen; omega)
      clear hbb hmm hml
      go_wp2_with fail
      refine (smt_ok _ HL.out HSEM.out).mono ?_
      rintro e w1 ⟨rfl, hb⟩
      unfold sxv
      have hz := hb.size
      generalize toX S = X at *
      have HB1 := Lib.hid ((below_next HB.out hb).alloc (by have := HB.out.size; omega) (.cells #[.string (bs X.n0), .string (bs X.n1), .string (bs X.n2), .string (bs X.pre), .string (bs X.plus), .int .i64 X.told] 37))
      clear hb
      by_cases hk : X.pre = []
      · have q1 : (X.pre == []) = true := by simpa using hk
        have q2 : (X.pre != []) = false := by simpa using hk
        have q3 : X.pre.isEmpty = true := by simpa using hk
        have hle := HBS.out (by rw [← HPRE.out]; exact hk)
        generalize hcc : cmpV b v = c at *
        have HCC := Lib.hid hcc
        clear hk hcc
        go_wp2_with fail
        refine (HMOD.out b _ HBB.out).mono ?_
        rintro e w3 ⟨rfl, hb3⟩
        rw [HCC.out]
        have HB3 := Lib.hid (below_next HB1.out hb3)
        clear hb3
        go_wp2
        go_ret
        exact ⟨by simp, HB3.out⟩
      · have q1 : (X.pre == []) = false := by simpa using hk
        have q2 : (X.pre != []) = true := by simpa using hk
        have q3 : X.pre.isEmpty = false := by simpa using hk
        clear hk
        go_wp2
        go_ret
        exact ⟨rfl, HB1.out⟩
end Go.Proofs.Ytdhibalpnccbiaa
