/- FnFromToolchain: the walk. -/
import Derived.Test.YtdhibalpnccbiaaTool2
namespace Go.Proofs.Ytdhibalpnccbiaa
open Go.RowKit
set_option linter.unusedVariables false
set_option maxRecDepth 100000 in
set_option maxHeartbeats 400000 in
theorem law6 (l : Bytes) (w : World) (hl : l.length ≤ maxLen) : Calls Try.prog 6 #[.string (bs l)] w fun e w' => e = .returned (.bool true) ∧ Below w.heap.size w w' := by
  have HL := Lib.hid hl
  unfold maxLen at hl
  by_cases h1 : 2147483647 < l.length
  · go_enter Try.func6, Try.ntmps6
    go_wp2
    go_ret
    exact ⟨rfl, Below.refl _ _⟩
  · have h2 : l.length ≤ 2147483647 := by omega
    obtain ⟨⟨v, st⟩, hr⟩ : ∃ r, toolN l = r := ⟨_, rfl⟩
    have HR := Lib.hid hr
    clear h1 hr
    go_enter Try.func6, Try.ntmps6
    go_wp2_with fail
    refine (tool_any _ _ HL.out).mono ?_
    rintro e w1 ⟨rfl, hb⟩
    rw [HR.out]
    unfold tv
    have hz := hb.size
    go_wp2_with fail
    refine (short1 l _ _ HL.out (by simp)).mono ?_
    rintro e w' ⟨rfl, rfl⟩
    have HB := Lib.hid (hb.alloc hz (.cells #[.string (bs l)] 9))
    cases hs : shortB [l]
    · go_wp2
      go_ret
      exact ⟨rfl, HB.out⟩
    · by_cases h0 : st = 1
      · subst h0
        have HF : Hid (fromTool l = v) := by
          show _ = _
          have h9 := tool_fine l (by rw [HR.out])
          rw [h9, HR.out]
        go_wp2_with fail
        refine (from30 l _ HL.out).mono ?_
        rintro e w2 ⟨rfl, hb2⟩
        rw [HF.out]
        have HB2 := Lib.hid (below_next HB.out hb2)
        go_wp2
        go_ret
        exact ⟨by simp, HB2.out⟩
      · have e0 : ((st : Int) != 1) = true := by simp; omega
        go_wp2
        go_ret
        exact ⟨rfl, HB.out⟩
end Go.Proofs.Ytdhibalpnccbiaa
