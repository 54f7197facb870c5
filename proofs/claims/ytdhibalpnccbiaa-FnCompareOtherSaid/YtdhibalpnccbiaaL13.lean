/- FnCompareOther: the walk. -/
import Derived.Test.YtdhibalpnccbiaaCmpT
namespace Go.Proofs.Ytdhibalpnccbiaa
open Go.RowKit
set_option linter.unusedVariables false
set_option maxRecDepth 100000 in
set_option maxHeartbeats 1000000 in
theorem law13 (p x y : Bytes) (w : World) (hp : p.length ≤ maxLen) (hx : x.length ≤ maxLen) (hy : y.length ≤ maxLen) : Calls Try.prog 13 #[.string (bs p), .string (bs x), .string (bs y)] w fun e w' => e = .returned (.bool true) ∧ Below w.heap.size w w' := by
  have HP := Lib.hid hp
  have HX := Lib.hid hx
  have HY := Lib.hid hy
  unfold maxLen at hp hx hy
  by_cases h0 : 2147483647 < p.length
  · go_enter Try.func13, Try.ntmps13
    go_wp2
    go_ret
    exact ⟨rfl, Below.refl _ _⟩
  have h0' : p.length ≤ 2147483647 := by omega
  clear h0
  by_cases h1 : 2147483647 < x.length
  · go_enter Try.func13, Try.ntmps13
    go_wp2
    go_ret
    exact ⟨rfl, Below.refl _ _⟩
  have h1' : x.length ≤ 2147483647 := by omega
  clear h1
  by_cases h2 : 2147483647 < y.length
  · go_enter Try.func13, Try.ntmps13
    go_wp2
    go_ret
    exact ⟨rfl, Below.refl _ _⟩
  have h2' : y.length ≤ 2147483647 := by omega
  clear h2
  cases hs : shortB [p, x, y] with
  | false =>
    have HSH := Lib.hid hs
    clear hs
    go_enter Try.func13, Try.ntmps13
    go_wp2_with fail
    refine (short3 p x y _ _ HP.out HX.out HY.out (by simp) (by simp) (by simp)).mono ?_
    rintro e w' ⟨rfl, rfl⟩
    rw [HSH.out]
    go_wp2
    go_ret
    exact ⟨rfl, (Below.refl _ _).alloc (Nat.le_refl _) _⟩
  | true =>
    have HSH := Lib.hid hs
    have hl : x.length ≤ 80 ∧ y.length ≤ 80 := by simp [shortB] at hs; omega
    have HLX : Hid (x.length ≤ 900) := Lib.hid (by omega)
    have HLY : Hid (y.length ≤ 900) := Lib.hid (by omega)
    clear hs hl
    cases hv : virt p with
    | true =>
      have HVR := Lib.hid hv
      clear hv
      go_enter Try.func13, Try.ntmps13
      go_wp2_with fail
      refine (short3 p x y _ _ HP.out HX.out HY.out (by simp) (by simp) (by simp)).mono ?_
      rintro e w' ⟨rfl, rfl⟩
      rw [HSH.out]
      go_wp2_with fail
      refine (virt_any p _).mono ?_
      rintro e w' ⟨rfl, rfl⟩
      rw [HVR.out]
      go_wp2
      go_ret
      exact ⟨rfl, (Below.refl _ _).alloc (Nat.le_refl _) _⟩
    | false =>
      have HVR := Lib.hid hv
      have hne : p ≠ tGo ∧ p ≠ tToolchain := by simpa [virt] using hv
      have HMC := Lib.hid (fun W => mc40 (mc_other p x y W HX.out HY.out hne.1 hne.2))
      clear hv hne
      go_enter Try.func13, Try.ntmps13
      go_wp2_with fail
      refine (short3 p x y _ _ HP.out HX.out HY.out (by simp) (by simp) (by simp)).mono ?_
      rintro e w' ⟨rfl, rfl⟩
      rw [HSH.out]
      have HB := Lib.hid ((Below.refl w.heap.size w).alloc (Nat.le_refl _) (.cells #[.string (bs p), .string (bs x), .string (bs y)] 9))
      go_wp2_with fail
      refine (virt_any p _).mono ?_
      rintro e w' ⟨rfl, rfl⟩
      rw [HVR.out]
      go_wp2_with fail
      refine (HMC.out _).mono ?_
      rintro e w1 ⟨rfl, hb1⟩
      have HB1 := Lib.hid (below_next HB.out hb1)
      clear hb1
      go_wp2_with fail
      refine (cs_any x y _ HLX.out HLY.out).mono ?_
      rintro e w2 ⟨rfl, hb2⟩
      have HB2 := Lib.hid (below_next HB1.out hb2)
      clear hb2
      go_wp2
      go_ret
      exact ⟨by simp, HB2.out⟩
end Go.Proofs.Ytdhibalpnccbiaa
