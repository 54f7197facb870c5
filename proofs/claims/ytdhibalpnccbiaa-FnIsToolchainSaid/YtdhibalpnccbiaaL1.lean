/- FnIsToolchain: the walk. -/
import Derived.Test.YtdhibalpnccbiaaSmall
namespace Go.Proofs.Ytdhibalpnccbiaa
open Go.RowKit
set_option maxHeartbeats 400000 in
theorem law3 (l : Bytes) (w : World) (hl : l.length ≤ maxLen) : Calls Try.prog 3 #[.string (bs l)] w fun e w' => e = .returned (.bool true) ∧ Below w.heap.size w w' := by
  have HL := Lib.hid hl
  unfold maxLen at hl
  by_cases h1 : 2147483647 < l.length
  · go_enter Try.func3, Try.ntmps3
    go_wp2
    go_ret
    exact ⟨rfl, Below.refl _ _⟩
  · have h2 : l.length ≤ 2147483647 := by omega
    clear h1
    go_enter Try.func3, Try.ntmps3
    go_wp2_with fail
    refine (short1 l _ _ HL.out (by simp)).mono ?_
    rintro e w' ⟨rfl, rfl⟩
    cases hs : shortB [l]
    · go_wp2
      go_ret
      exact ⟨rfl, (Below.refl _ _).alloc (Nat.le_refl _) _⟩
    · go_wp2_with fail
      refine (implTool_any _ _).mono ?_
      rintro e w' ⟨rfl, rfl⟩
      go_wp2_with fail
      refine (virt_any _ _).mono ?_
      rintro e w' ⟨rfl, rfl⟩
      go_wp2
      go_ret
      exact ⟨by simp, (Below.refl _ _).alloc (Nat.le_refl _) _⟩
end Go.Proofs.Ytdhibalpnccbiaa
