/- FnCompareBack and FnCompareThree: the walks. -/
import Derived.Test.YtdhibalpnccbiaaSemC
namespace Go.Proofs.Ytdhibalpnccbiaa
open Go.RowKit
set_option linter.unusedVariables false
set_option maxRecDepth 100000 in
set_option maxHeartbeats 1000000 in
theorem law15 (p x y : Bytes) (w : World) (hp : p.length ≤ maxLen) (hx : x.length ≤ maxLen) (hy : y.length ≤ maxLen) : Calls Try.prog 15 #[.string (bs p), .string (bs x), .string (bs y)] w fun e w' => e = .returned (.bool true) ∧ Below w.heap.size w w' := by
  have HP := Lib.hid hp
  have HX := Lib.hid hx
  have HY := Lib.hid hy
  unfold maxLen at hp hx hy
  by_cases h0 : 2147483647 < p.length
  · go_enter Try.func15, Try.ntmps15
    go_wp2
    go_ret
    exact ⟨rfl, Below.refl _ _⟩
  have h0' : p.length ≤ 2147483647 := by omega
  clear h0
  by_cases h1 : 2147483647 < x.length
  · go_enter Try.func15, Try.ntmps15
    go_wp2
    go_ret
    exact ⟨rfl, Below.refl _ _⟩
  have h1' : x.length ≤ 2147483647 := by omega
  clear h1
  by_cases h2 : 2147483647 < y.length
  · go_enter Try.func15, Try.ntmps15
    go_wp2
    go_ret
    exact ⟨rfl, Below.refl _ _⟩
  have h2' : y.length ≤ 2147483647 := by omega
  clear h2
  have hO := ord_mod p
  have hback := hO.back x y
  have hself := Lib.hid (hO.self x)
  have hne : modC p x y ≠ 0 → (x != y) = true := by
    intro h
    cases he : x != y with
    | true => rfl
    | false =>
      have : x = y := by simpa using he
      subst this
      exact absurd (hO.self x) h
  rcases hO.rng x y with hc | hc | hc
  · have HC := Lib.hid hc
    have HB1 : Hid (modC p y x = 1) := Lib.hid (by rw [hback, hc]; rfl)
    have hne1 := hne (by rw [hc]; decide)
    have hne2 : (x == y) = false := by simpa using hne1
    clear hO hback hne hc
    go_enter Try.func15, Try.ntmps15
    go_wp2_with fail
    refine (short3 p x y _ _ HP.out HX.out HY.out (by simp) (by simp) (by simp)).mono ?_
    rintro e w' ⟨rfl, rfl⟩
    have HB := Lib.hid ((Below.refl w.heap.size w).alloc (Nat.le_refl _) (.cells #[.string (bs p), .string (bs x), .string (bs y)] 9))
    cases hs : shortB [p, x, y]
    · go_wp2
      go_ret
      exact ⟨rfl, HB.out⟩
    go_wp2_with fail
    refine (mc_any p x y _ HX.out HY.out).mono ?_
    rintro e w2 ⟨rfl, hb2⟩
    rw [HC.out]
    have HB2 := Lib.hid (below_next HB.out hb2)
    clear hb2
    go_wp2_with fail
    refine (mc_any p y x _ HY.out HX.out).mono ?_
    rintro e w3 ⟨rfl, hb3⟩
    rw [HB1.out]
    have HB3 := Lib.hid (below_next HB2.out hb3)
    clear hb3
    go_wp2_with fail
    refine (mc_any p x x _ HX.out HX.out).mono ?_
    rintro e w4 ⟨rfl, hb4⟩
    rw [hself.out]
    have HB4 := Lib.hid (below_next HB3.out hb4)
    clear hb4
    go_wp2_with fail
    refine (implTool_any p _).mono ?_
    rintro e w' ⟨rfl, rfl⟩
    go_wp2_with fail
    refine (virt_any p _).mono ?_
    rintro e w' ⟨rfl, rfl⟩
    go_wp2
    go_ret
    exact ⟨by simp, HB4.out⟩
  · have HC := Lib.hid hc
    have HB1 : Hid (modC p y x = 0) := Lib.hid (by rw [hback, hc]; rfl)
    clear hO hback hne hc
    go_enter Try.func15, Try.ntmps15
    go_wp2_with fail
    refine (short3 p x y _ _ HP.out HX.out HY.out (by simp) (by simp) (by simp)).mono ?_
    rintro e w' ⟨rfl, rfl⟩
    have HB := Lib.hid ((Below.refl w.heap.size w).alloc (Nat.le_refl _) (.cells #[.string (bs p), .string (bs x), .string (bs y)] 9))
    cases hs : shortB [p, x, y]
    · go_wp2
      go_ret
      exact ⟨rfl, HB.out⟩
    go_wp2_with fail
    refine (mc_any p x y _ HX.out HY.out).mono ?_
    rintro e w2 ⟨rfl, hb2⟩
    rw [HC.out]
    have HB2 := Lib.hid (below_next HB.out hb2)
    clear hb2
    go_wp2_with fail
    refine (mc_any p y x _ HY.out HX.out).mono ?_
    rintro e w3 ⟨rfl, hb3⟩
    rw [HB1.out]
    have HB3 := Lib.hid (below_next HB2.out hb3)
    clear hb3
    go_wp2_with fail
    refine (mc_any p x x _ HX.out HX.out).mono ?_
    rintro e w4 ⟨rfl, hb4⟩
    rw [hself.out]
    have HB4 := Lib.hid (below_next HB3.out hb4)
    clear hb4
    go_wp2_with fail
    refine (implTool_any p _).mono ?_
    rintro e w' ⟨rfl, rfl⟩
    go_wp2_with fail
    refine (virt_any p _).mono ?_
    rintro e w' ⟨rfl, rfl⟩
    go_wp2
    go_ret
    exact ⟨by simp, HB4.out⟩
  · have HC := Lib.hid hc
    have HB1 : Hid (modC p y x = -1) := Lib.hid (by rw [hback, hc])
    have hne1 := hne (by rw [hc]; decide)
    have hne2 : (x == y) = false := by simpa using hne1
    clear hO hback hne hc
    go_enter Try.func15, Try.ntmps15
    go_wp2_with fail
    refine (short3 p x y _ _ HP.out HX.out HY.out (by simp) (by simp) (by simp)).mono ?_
    rintro e w' ⟨rfl, rfl⟩
    have HB := Lib.hid ((Below.refl w.heap.size w).alloc (Nat.le_refl _) (.cells #[.string (bs p), .string (bs x), .string (bs y)] 9))
    cases hs : shortB [p, x, y]
    · go_wp2
      go_ret
      exact ⟨rfl, HB.out⟩
    go_wp2_with fail
    refine (mc_any p x y _ HX.out HY.out).mono ?_
    rintro e w2 ⟨rfl, hb2⟩
    rw [HC.out]
    have HB2 := Lib.hid (below_next HB.out hb2)
    clear hb2
    go_wp2_with fail
    refine (mc_any p y x _ HY.out HX.out).mono ?_
    rintro e w3 ⟨rfl, hb3⟩
    rw [HB1.out]
    have HB3 := Lib.hid (below_next HB2.out hb3)
    clear hb3
    go_wp2_with fail
    refine (mc_any p x x _ HX.out HX.out).mono ?_
    rintro e w4 ⟨rfl, hb4⟩
    rw [hself.out]
    have HB4 := Lib.hid (below_next HB3.out hb4)
    clear hb4
    go_wp2_with fail
    refine (implTool_any p _).mono ?_
    rintro e w' ⟨rfl, rfl⟩
    go_wp2_with fail
    refine (virt_any p _).mono ?_
    rintro e w' ⟨rfl, rfl⟩
    go_wp2
    go_ret
    exact ⟨by simp, HB4.out⟩
end Go.Proofs.Ytdhibalpnccbiaa
