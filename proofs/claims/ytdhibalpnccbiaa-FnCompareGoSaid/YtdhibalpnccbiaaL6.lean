/- FnCompareGo: the walk. -/
import Derived.Test.YtdhibalpnccbiaaSorts2
namespace Go.Proofs.Ytdhibalpnccbiaa
open Go.RowKit
set_option linter.unusedVariables false
set_option maxRecDepth 100000 in
set_option maxHeartbeats 400000 in
theorem law12 (x y : Bytes) (w : World) (hx : x.length ≤ maxLen) (hy : y.length ≤ maxLen) : Calls Try.prog 12 #[.string (bs x), .string (bs y)] w fun e w' => e = .returned (.bool true) ∧ Below w.heap.size w w' := by
  have HX := Lib.hid hx
  have HY := Lib.hid hy
  unfold maxLen at hx hy
  by_cases h1 : 2147483647 < x.length
  · go_enter Try.func12, Try.ntmps12
    go_wp2
    go_ret
    exact ⟨rfl, Below.refl _ _⟩
  have h1' : x.length ≤ 2147483647 := by omega
  clear h1
  by_cases h2 : 2147483647 < y.length
  · go_enter Try.func12, Try.ntmps12
    go_wp2
    go_ret
    exact ⟨rfl, Below.refl _ _⟩
  have h2' : y.length ≤ 2147483647 := by omega
  clear h2
  obtain ⟨⟨c, st⟩, hr⟩ : ∃ r, sortR (read x) (read y) = r := ⟨_, rfl⟩
  have HR := Lib.hid hr
  clear hr
  go_enter Try.func12, Try.ntmps12
  go_wp2_with fail
  refine (sorts_go _ _ _ HX.out HY.out).mono ?_
  rintro e w1 ⟨rfl, hb⟩
  rw [HR.out]
  unfold sv
  have hz := hb.size
  go_wp2_with fail
  refine (short2 x y _ _ HX.out HY.out (by simp) (by simp)).mono ?_
  rintro e w' ⟨rfl, rfl⟩
  have HB := Lib.hid (hb.alloc hz (.cells #[.string (bs x), .string (bs y)] 9))
  clear hb
  cases hs : shortB [x, y]
  · go_wp2
    go_ret
    exact ⟨rfl, HB.out⟩
  · by_cases h0 : st = 0
    · subst h0
      go_wp2
      go_ret
      exact ⟨rfl, HB.out⟩
    · have e0 : ((st : Int) == 0) = false := beq_eq_false_iff_ne.2 (by omega)
      have HC : Hid (cmpG (parse x) (parse y) = c) := by
        show _ = _
        have h9 := HR.out
        unfold sortR at h9
        by_cases hc : (read x).2 = 0 ∨ (read y).2 = 0
        · rw [if_pos hc] at h9; cases h9; exact absurd rfl h0
        · rw [if_neg hc] at h9
          cases h9
          rw [read_parse x (fun h => hc (.inl h)), read_parse y (fun h => hc (.inr h))]
      go_wp2_with fail
      refine (mc40 (mc_go _ _ _ HX.out HY.out)).mono ?_
      rintro e w2 ⟨rfl, hb2⟩
      rw [HC.out]
      have HB2 := Lib.hid (below_next HB.out hb2)
      clear hb2
      go_wp2
      go_ret
      exact ⟨by simp, HB2.out⟩
end Go.Proofs.Ytdhibalpnccbiaa
