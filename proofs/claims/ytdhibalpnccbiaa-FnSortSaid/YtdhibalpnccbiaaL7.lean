/- FnCompareToolchain: the walk. -/
import Derived.Test.YtdhibalpnccbiaaSorts3
namespace Go.Proofs.Ytdhibalpnccbiaa
open Go.RowKit
set_option linter.unusedVariables false
theorem toolN_state (l : Bytes) (h : (toolN l).2 ≠ 0) : (toolN l).2 = 1 := by
  unfold toolN at h ⊢
  split
  · rfl
  · rename_i h1
    rw [if_neg h1] at h
    split
    · rename_i h2; rw [if_pos h2] at h; exact absurd rfl h
    · rename_i h2
      rw [if_neg h2] at h
      split
      · rfl
      · rename_i h3
        rw [if_neg h3] at h
        rcases read_fine _ h with h4 | h4
        · exact h4.1
        · exact absurd h4.1 h3
theorem either_parse (l : Bytes) (h : (eitherR l).2 ≠ 0) : parse (maybe l) = (eitherR l).1 := by
  unfold eitherR at h ⊢
  by_cases h2 : (read l).2 = 2
  · rw [if_pos h2] at h ⊢
    have hz : parse l = zero := by
      rcases read_fine l (by omega) with h4 | h4
      · omega
      · exact h4.2
    have hm : maybe l = fromTool l := by
      unfold maybe; rw [hz, if_neg (by simp [validB, zero])]
    rw [hm]
    unfold modR at h ⊢
    rw [if_pos rfl] at h ⊢
    by_cases h3 : (toolN l).2 = 0
    · rw [if_pos h3] at h; exact absurd rfl h
    · rw [if_neg h3] at h ⊢
      rw [tool_fine l (toolN_state l h3)]
      exact read_parse _ h
  · rw [if_neg h2] at h ⊢
    have hv : (parse l).maj ≠ [] := by
      rcases read_fine l h with h4 | h4
      · exact h4.2.1
      · exact absurd h4.1 h2
    have hm : maybe l = l := by
      unfold maybe; rw [if_pos (by simp [validB, hv])]
    rw [hm]
    exact read_parse l h
set_option maxRecDepth 100000 in
set_option maxHeartbeats 400000 in
theorem law14 (x y : Bytes) (w : World) (hx : x.length ≤ maxLen) (hy : y.length ≤ maxLen) : Calls Try.prog 14 #[.string (bs x), .string (bs y)] w fun e w' => e = .returned (.bool true) ∧ Below w.heap.size w w' := by
  have HX := Lib.hid hx
  have HY := Lib.hid hy
  unfold maxLen at hx hy
  by_cases h1 : 2147483647 < x.length
  · go_enter Try.func14, Try.ntmps14
    go_wp2
    go_ret
    exact ⟨rfl, Below.refl _ _⟩
  have h1' : x.length ≤ 2147483647 := by omega
  clear h1
  by_cases h2 : 2147483647 < y.length
  · go_enter Try.func14, Try.ntmps14
    go_wp2
    go_ret
    exact ⟨rfl, Below.refl _ _⟩
  have h2' : y.length ≤ 2147483647 := by omega
  clear h2
  obtain ⟨⟨c, st⟩, hr⟩ : ∃ r, sortR (eitherR x) (eitherR y) = r := ⟨_, rfl⟩
  have HR := Lib.hid hr
  clear hr
  go_enter Try.func14, Try.ntmps14
  go_wp2_with fail
  refine (sorts_tool _ _ _ HX.out HY.out).mono ?_
  rintro e w1 ⟨rfl, hb⟩
  rw [HR.out]
  unfold sv
  have hz := hb.size
  go_wp2_with fail
  refine (short2 x y _ _ HX.out HY.out (by simp) (by simp)).mono ?_
  rintro e w' ⟨rfl, rfl⟩
  have HB := Lib.hid (hb.alloc hz (.cells #[.string (bs x), .string (bs y)] 9))
  clear hb
  cases hs : shortB [x, y]
  · go_wp2
    go_ret
    exact ⟨rfl, HB.out⟩
  · by_cases h0 : st = 0
    · subst h0
      go_wp2
      go_ret
      exact ⟨rfl, HB.out⟩
    · have e0 : ((st : Int) == 0) = false := beq_eq_false_iff_ne.2 (by omega)
      have HC : Hid (cmpG (parse (maybe x)) (parse (maybe y)) = c) := by
        show _ = _
        have h9 := HR.out
        unfold sortR at h9
        by_cases hc : (eitherR x).2 = 0 ∨ (eitherR y).2 = 0
        · rw [if_pos hc] at h9; cases h9; exact absurd rfl h0
        · rw [if_neg hc] at h9
          cases h9
          rw [either_parse x (fun h => hc (.inl h)), either_parse y (fun h => hc (.inr h))]
      go_wp2_with fail
      refine (mc40 (mc_tool _ _ _ HX.out HY.out)).mono ?_
      rintro e w2 ⟨rfl, hb2⟩
      rw [HC.out]
      have HB2 := Lib.hid (below_next HB.out hb2)
      clear hb2
      go_wp2
      go_ret
      exact ⟨by simp, HB2.out⟩
end Go.Proofs.Ytdhibalpnccbiaa
