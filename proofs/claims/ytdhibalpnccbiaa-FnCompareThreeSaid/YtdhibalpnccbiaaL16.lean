/- FnCompareThree: the walk. -/
import Derived.Test.YtdhibalpnccbiaaSemC
namespace Go.Proofs.Ytdhibalpnccbiaa
open Go.RowKit
set_option linter.unusedVariables false
/-- The ways in which three comparisons can stand. -/
theorem three_ways {f : Bytes → Bytes → Int} (h : Ord3 f) (x y z : Bytes) : f x y = 1 ∨ (f x y = -1 ∧ f y z = 1) ∨ (f x y = 0 ∧ f y z = 1) ∨ (f x y = -1 ∧ f y z = -1 ∧ f x z = -1) ∨ (f x y = -1 ∧ f y z = 0 ∧ f x z = -1) ∨ (f x y = 0 ∧ f y z = -1 ∧ f x z = -1) ∨ (f x y = 0 ∧ f y z = 0 ∧ f x z = -1) ∨ (f x y = 0 ∧ f y z = 0 ∧ f x z = 0) := by
  rcases h.rng x y with a | a | a
  · rcases h.rng y z with b | b | b
    · have l := h.le x y z (by omega) (by omega)
      rcases h.rng x z with c | c | c
      · exact .inr (.inr (.inr (.inl ⟨a, b, c⟩)))
      · have e := h.eq (a := x) (b := y) (c := z) (by omega) (by omega) c; omega
      · omega
    · have l := h.le x y z (by omega) (by omega)
      rcases h.rng x z with c | c | c
      · exact .inr (.inr (.inr (.inr (.inl ⟨a, b, c⟩))))
      · have e := h.eq (a := x) (b := y) (c := z) (by omega) (by omega) c; omega
      · omega
    · exact .inr (.inl ⟨a, b⟩)
  · rcases h.rng y z with b | b | b
    · have l := h.le x y z (by omega) (by omega)
      rcases h.rng x z with c | c | c
      · exact .inr (.inr (.inr (.inr (.inr (.inl ⟨a, b, c⟩)))))
      · have e := h.eq (a := x) (b := y) (c := z) (by omega) (by omega) c; omega
      · omega
    · have l := h.le x y z (by omega) (by omega)
      rcases h.rng x z with c | c | c
      · exact .inr (.inr (.inr (.inr (.inr (.inr (.inl ⟨a, b, c⟩))))))
      · exact .inr (.inr (.inr (.inr (.inr (.inr (.inr ⟨a, b, c⟩))))))
      · omega
    · exact .inr (.inr (.inl ⟨a, b⟩))
  · exact .inl a
set_option maxRecDepth 100000 in
set_option maxHeartbeats 1000000 in
theorem law16_v (p x y z : Bytes) (w : World) (a b c : Int) (HP : Hid (p.length ≤ maxLen)) (HX : Hid (x.length ≤ maxLen)) (HY : Hid (y.length ≤ maxLen)) (HZ : Hid (z.length ≤ maxLen))
    (hp : p.length ≤ 2147483647) (hx : x.length ≤ 2147483647) (hy : y.length ≤ 2147483647) (hz : z.length ≤ 2147483647)
    (HA : Hid (modC p x y = a)) (HBB : Hid (modC p y z = b)) (HC : Hid (modC p x z = c))
    (h : a = 1 ∨ (a = -1 ∧ b = 1) ∨ (a = 0 ∧ b = 1) ∨ (a = -1 ∧ b = -1 ∧ c = -1) ∨ (a = -1 ∧ b = 0 ∧ c = -1) ∨ (a = 0 ∧ b = -1 ∧ c = -1) ∨ (a = 0 ∧ b = 0 ∧ c = -1) ∨ (a = 0 ∧ b = 0 ∧ c = 0)) :
    Calls Try.prog 16 #[.string (bs p), .string (bs x), .string (bs y), .string (bs z)] w fun e w' => e = .returned (.bool true) ∧ Below w.heap.size w w' := by
  rcases h with rfl | ⟨rfl, rfl⟩ | ⟨rfl, rfl⟩ | ⟨rfl, rfl, rfl⟩ | ⟨rfl, rfl, rfl⟩ | ⟨rfl, rfl, rfl⟩ | ⟨rfl, rfl, rfl⟩ | ⟨rfl, rfl, rfl⟩
  all_goals
    go_enter Try.func16, Try.ntmps16
    go_wp2_with fail
    refine (short4 p x y z _ _ HP.out HX.out HY.out HZ.out (by simp) (by simp) (by simp) (by simp)).mono ?_
    rintro e w' ⟨rfl, rfl⟩
    have HB := Lib.hid ((Below.refl w.heap.size w).alloc (Nat.le_refl _) (.cells #[.string (bs p), .string (bs x), .string (bs y), .string (bs z)] 9))
    cases hs : shortB [p, x, y, z]
    · go_wp2
      go_ret
      exact ⟨rfl, HB.out⟩
    go_wp2_with fail
    refine (mc_any p x y _ HX.out HY.out).mono ?_
    rintro e w2 ⟨rfl, hb2⟩
    rw [HA.out]
    have HB2 := Lib.hid (below_next HB.out hb2)
    clear hb2
    go_wp2_with fail
    refine (mc_any p y z _ HY.out HZ.out).mono ?_
    rintro e w3 ⟨rfl, hb3⟩
    rw [HBB.out]
    have HB3 := Lib.hid (below_next HB2.out hb3)
    clear hb3
    go_wp2_with fail
    refine (mc_any p x z _ HX.out HZ.out).mono ?_
    rintro e w4 ⟨rfl, hb4⟩
    rw [HC.out]
    have HB4 := Lib.hid (below_next HB3.out hb4)
    clear hb4
    go_wp2_with fail
    refine (implTool_any p _).mono ?_
    rintro e w' ⟨rfl, rfl⟩
    go_wp2_with fail
    refine (virt_any p _).mono ?_
    rintro e w' ⟨rfl, rfl⟩
    go_wp2
    go_ret
    exact ⟨by simp, HB4.out⟩
set_option maxRecDepth 100000 in
set_option maxHeartbeats 1000000 in
theorem law16 (p x y z : Bytes) (w : World) (hp : p.length ≤ maxLen) (hx : x.length ≤ maxLen) (hy : y.length ≤ maxLen) (hz : z.length ≤ maxLen) : Calls Try.prog 16 #[.string (bs p), .string (bs x), .string (bs y), .string (bs z)] w fun e w' => e = .returned (.bool true) ∧ Below w.heap.size w w' := by
  have HP := Lib.hid hp
  have HX := Lib.hid hx
  have HY := Lib.hid hy
  have HZ := Lib.hid hz
  unfold maxLen at hp hx hy hz
  by_cases h0 : 2147483647 < p.length
  · go_enter Try.func16, Try.ntmps16
    go_wp2
    go_ret
    exact ⟨rfl, Below.refl _ _⟩
  have h0' : p.length ≤ 2147483647 := by omega
  clear h0
  by_cases h1 : 2147483647 < x.length
  · go_enter Try.func16, Try.ntmps16
    go_wp2
    go_ret
    exact ⟨rfl, Below.refl _ _⟩
  have h1' : x.length ≤ 2147483647 := by omega
  clear h1
  by_cases h2 : 2147483647 < y.length
  · go_enter Try.func16, Try.ntmps16
    go_wp2
    go_ret
    exact ⟨rfl, Below.refl _ _⟩
  have h2' : y.length ≤ 2147483647 := by omega
  clear h2
  by_cases h3 : 2147483647 < z.length
  · go_enter Try.func16, Try.ntmps16
    go_wp2
    go_ret
    exact ⟨rfl, Below.refl _ _⟩
  have h3' : z.length ≤ 2147483647 := by omega
  exact law16_v p x y z w _ _ _ HP HX HY HZ h0' h1' h2' h3' (Lib.hid rfl) (Lib.hid rfl) (Lib.hid rfl) (three_ways (ord_mod p) x y z)
end Go.Proofs.Ytdhibalpnccbiaa
