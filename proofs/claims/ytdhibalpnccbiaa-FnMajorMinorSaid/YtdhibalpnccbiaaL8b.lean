/- FnPrefix: the walk. -/
import Derived.Test.YtdhibalpnccbiaaMods
import Derived.Test.YtdhibalpnccbiaaSmt2
import Derived.Deep.RegionHeld3
namespace Go.Proofs.Ytdhibalpnccbiaa
open Go.RowKit
set_option linter.unusedVariables false
theorem keepc5 {w W W' : World} {a : Nat} {u0 u1 u2 u3 u4 : Value} (hk : W.cell? ⟨a, 0, none⟩ = some u0 ∧ W.cell? ⟨a, 1, none⟩ = some u1 ∧ W.cell? ⟨a, 2, none⟩ = some u2 ∧ W.cell? ⟨a, 3, none⟩ = some u3 ∧ W.cell? ⟨a, 4, none⟩ = some u4 ∧ Hid (Below w.heap.size w W)) (hb : Below W.heap.size W W') :
    W'.cell? ⟨a, 0, none⟩ = some u0 ∧ W'.cell? ⟨a, 1, none⟩ = some u1 ∧ W'.cell? ⟨a, 2, none⟩ = some u2 ∧ W'.cell? ⟨a, 3, none⟩ = some u3 ∧ W'.cell? ⟨a, 4, none⟩ = some u4 ∧ Hid (Below w.heap.size w W') :=
  ⟨cell_later hb hk.1, cell_later hb hk.2.1, cell_later hb hk.2.2.1, cell_later hb hk.2.2.2.1, cell_later hb hk.2.2.2.2.1, Lib.hid (below_next hk.2.2.2.2.2.out hb)⟩
theorem keepc1 {w W W' : World} {a : Addr} {u0 : Value} (hk : W.cell? a = some u0 ∧ Hid (Below w.heap.size w W)) (hb : Below W.heap.size W W') :
    W'.cell? a = some u0 ∧ Hid (Below w.heap.size w W') := ⟨cell_later hb hk.1, Lib.hid (below_next hk.2.out hb)⟩
theorem whole_lang {p v : Bytes} {g : GV} (h : modR p v = (g, 1)) : isLangB (parse (verOf p v)) = wholeB g := by
  have e := mod_read p v (by rw [h]; simp)
  rw [h] at e
  obtain ⟨h1, h2⟩ := fine_parts e.symm
  rw [h1]
  unfold isLangB wholeB validB
  by_cases hk : g.kind = []
  · rw [h2.plain hk]; simp
  · have : g.kind.isEmpty = false := by simpa using hk
    rw [this]; simp
set_option maxRecDepth 100000 in
set_option maxHeartbeats 1000000 in
theorem law8 (p v : Bytes) (w : World) (hp : p.length ≤ maxLen) (hv : v.length ≤ maxLen) : Calls Try.prog 8 #[.string (bs p), .string (bs v)] w fun e w' => e = .returned (.bool true) ∧ Below w.heap.size w w' := by
  have HP := Lib.hid hp
  have HV := Lib.hid hv
  unfold maxLen at hp hv
  by_cases h1 : 2147483647 < p.length
  · go_enter Try.func8, Try.ntmps8
    go_wp2
    go_ret
    exact ⟨rfl, Below.refl _ _⟩
  have h1' : p.length ≤ 2147483647 := by omega
  clear h1
  by_cases h2 : 2147483647 < v.length
  · go_enter Try.func8, Try.ntmps8
    go_wp2
    go_ret
    exact ⟨rfl, Below.refl _ _⟩
  have h2' : v.length ≤ 2147483647 := by omega
  clear h2
  cases hs : shortB [p, v]
  · have HSH := Lib.hid hs
    clear hs
    go_enter Try.func8, Try.ntmps8
    go_wp2_with fail
    refine (short2 p v _ _ HP.out HV.out (by simp) (by simp)).mono ?_
    rintro e w' ⟨rfl, rfl⟩
    rw [HSH.out]
    go_wp2
    go_ret
    exact ⟨rfl, (Below.refl _ _).alloc (Nat.le_refl _) _⟩
  have HSH := Lib.hid hs
  have hl80 : v.length ≤ 80 := by simp [shortB] at hs; exact hs.2
  have HL : Hid (v.length ≤ 1000) := Lib.hid (by omega)
  clear hs
  cases hvr : virt p with
  | true =>
    have HVR := Lib.hid hvr
    obtain ⟨⟨g, st⟩, hr⟩ : ∃ r, modR p v = r := ⟨_, rfl⟩
    have HR := Lib.hid hr
    clear hvr hr
    go_enter Try.func8, Try.ntmps8
    go_wp2_with fail
    refine (short2 p v _ _ HP.out HV.out (by simp) (by simp)).mono ?_
    rintro e w' ⟨rfl, rfl⟩
    rw [HSH.out]
    have HB := Lib.hid ((Below.refl w.heap.size w).alloc (Nat.le_refl _) (.cells #[.string (bs p), .string (bs v)] 9))
    go_wp2_with fail
    refine (virt_any p _).mono ?_
    rintro e w' ⟨rfl, rfl⟩
    rw [HVR.out]
    go_wp2_with fail
    refine (mod_any p v _ HV.out).mono ?_
    rintro e w1 ⟨rfl, hb⟩
    rw [HR.out]
    unfold rv gv
    have hz := hb.size
    have HB1 := Lib.hid ((below_next HB.out hb).alloc (by have := HB.out.size; omega) (.cells #[.string (bs g.maj), .string (bs g.min), .string (bs g.pat), .string (bs g.kind), .string (bs g.pre)] 25))
    clear hb
    by_cases h0 : st = 1
    case neg =>
      have e0 : ((st : Int) != 1) = true := by simp; omega
      go_wp2
      go_quiet (fail)
      go_wp2
      go_ret
      exact ⟨rfl, below_drewN HB1.out _⟩
    subst h0
    have hq := whole_lang HR.out
    have hw := whole33 g
    generalize wholeB g = b at hq hw
    have HQ := Lib.hid hq
    have HW := Lib.hid hw
    unfold gv at HW
    clear hq hw
    go_wp2
    go_region_held3 (fun w' => w'.cell? ⟨w1.heap.size, 0, none⟩ = some (.string (bs g.maj)) ∧ w'.cell? ⟨w1.heap.size, 1, none⟩ = some (.string (bs g.min)) ∧ w'.cell? ⟨w1.heap.size, 2, none⟩ = some (.string (bs g.pat)) ∧ w'.cell? ⟨w1.heap.size, 3, none⟩ = some (.string (bs g.kind)) ∧ w'.cell? ⟨w1.heap.size, 4, none⟩ = some (.string (bs g.pre)) ∧ Hid (Below w.heap.size w w')) (first | exact ⟨by simp, by simp, by simp, by simp, by simp, Lib.hid HB1.out.drew⟩ | exact keepc5 (by assumption) hb2) (first | (go_at_call 32; refine (mprefix_virt p v _ HV.out HVR.out).mono ?_; rintro e w' ⟨rfl, hb2⟩; rw [HQ.out]) | (go_at_call 33; refine (HW.out _).mono ?_; rintro e w' ⟨rfl, hb2⟩))
    all_goals
      go_wp2
      go_ret
      exact ⟨by simp, (show _ ∧ _ ∧ _ ∧ _ ∧ _ ∧ Hid (Below w.heap.size w _) by assumption).2.2.2.2.2.out⟩
  | false =>
    have HVR := Lib.hid hvr
    clear hvr
    cases hsem : semP v with
    | none =>
      have HSEM := Lib.hid hsem
      clear hsem
      go_enter Try.func8, Try.ntmps8
      go_wp2_with fail
      refine (short2 p v _ _ HP.out HV.out (by simp) (by simp)).mono ?_
      rintro e w' ⟨rfl, rfl⟩
      rw [HSH.out]
      have HB := Lib.hid ((Below.refl w.heap.size w).alloc (Nat.le_refl _) (.cells #[.string (bs p), .string (bs v)] 9))
      go_wp2_with fail
      refine (virt_any p _).mono ?_
      rintro e w' ⟨rfl, rfl⟩
      rw [HVR.out]
      go_wp2_with fail
      refine (smt_no _ HL.out HSEM.out).mono ?_
      rintro e w1 ⟨⟨X, rfl⟩, hb⟩
      unfold sxv
      have hz := hb.size
      have HB1 := Lib.hid ((below_next HB.out hb).alloc (by have := HB.out.size; omega) (.cells #[.string (bs X.n0), .string (bs X.n1), .string (bs X.n2), .string (bs X.pre), .string (bs X.plus), .int .i64 X.told] 37))
      clear hb
      go_wp2
      go_quiet (fail)
      go_wp2
      go_ret
      exact ⟨rfl, below_drewN HB1.out _⟩
    | some S =>
      have HSEM := Lib.hid hsem
      have HQ := Lib.hid (pfx_shape hsem)
      clear hsem
      go_enter Try.func8, Try.ntmps8
      go_wp2_with fail
      refine (short2 p v _ _ HP.out HV.out (by simp) (by simp)).mono ?_
      rintro e w' ⟨rfl, rfl⟩
      rw [HSH.out]
      have HB := Lib.hid ((Below.refl w.heap.size w).alloc (Nat.le_refl _) (.cells #[.string (bs p), .string (bs v)] 9))
      go_wp2_with fail
      refine (virt_any p _).mono ?_
      rintro e w' ⟨rfl, rfl⟩
      rw [HVR.out]
      go_wp2_with fail
      refine (smt_ok _ HL.out HSEM.out).mono ?_
      rintro e w1 ⟨rfl, hb⟩
      unfold sxv
      have hz := hb.size
      generalize toX S = X at *
      have HB1 := Lib.hid ((below_next HB.out hb).alloc (by have := HB.out.size; omega) (.cells #[.string (bs X.n0), .string (bs X.n1), .string (bs X.n2), .string (bs X.pre), .string (bs X.plus), .int .i64 X.told] 37))
      clear hb
      by_cases ht : X.told < 3
      · have HQ2 : Hid (pfxB 0 v = true) := by show _ = _; rw [HQ.out]; simpa using ht
        have ht2 : decide ((X.told : Int) < 3) = true := by simp; omega
        clear HQ
        go_wp2
        go_region_held3 (fun w' => w'.cell? ⟨w1.heap.size, 5, none⟩ = some (.int .i64 X.told) ∧ Hid (Below w.heap.size w w')) (first | exact ⟨by simp, Lib.hid HB1.out.drew⟩ | exact keepc1 (by assumption) hb2) (first | (go_at_call 32; refine (mprefix_other p v _ HV.out HVR.out).mono ?_; rintro e w' ⟨rfl, hb2⟩; rw [HQ2.out]))
        all_goals
          go_wp2
          go_ret
          exact ⟨by simp, (show _ ∧ Hid (Below w.heap.size w _) by assumption).2.out⟩
      · have HQ2 : Hid (pfxB 0 v = false) := by show _ = _; rw [HQ.out]; simpa using ht
        have ht2 : decide ((X.told : Int) < 3) = false := by simp; omega
        clear HQ
        go_wp2
        go_region_held3 (fun w' => w'.cell? ⟨w1.heap.size, 5, none⟩ = some (.int .i64 X.told) ∧ Hid (Below w.heap.size w w')) (first | exact ⟨by simp, Lib.hid HB1.out.drew⟩ | exact keepc1 (by assumption) hb2) (first | (go_at_call 32; refine (mprefix_other p v _ HV.out HVR.out).mono ?_; rintro e w' ⟨rfl, hb2⟩; rw [HQ2.out]))
        all_goals
          go_wp2
          go_ret
          exact ⟨by simp, (show _ ∧ Hid (Below w.heap.size w _) by assumption).2.out⟩
end Go.Proofs.Ytdhibalpnccbiaa
