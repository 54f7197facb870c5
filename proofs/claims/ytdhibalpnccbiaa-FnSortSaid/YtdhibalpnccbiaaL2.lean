/- FnIsPrerelease: the walk. -/
import Derived.Test.YtdhibalpnccbiaaGover
import Derived.Deep.RegionHeld3
namespace Go.Proofs.Ytdhibalpnccbiaa
open Go.RowKit
set_option linter.unusedVariables false
theorem below_step {B : Nat} {w W w' : World} (h : Below B w W) (hB : B ≤ W.heap.size) (hb : Below W.heap.size W w') : Below B w w' := h.trans (hb.mono hB)
theorem below_next {w W w' : World} (h : Below w.heap.size w W) (hb : Below W.heap.size W w') : Below w.heap.size w w' := h.trans (hb.mono h.size)
theorem keep1 {w W W' : World} {a : Addr} {v : Value} (h : W.cell? a = some v ∧ Below w.heap.size w W) (hb : Below W.heap.size W W') : W'.cell? a = some v ∧ Below w.heap.size w W' :=
  ⟨cell_later hb h.1, below_next h.2 hb⟩
set_option maxRecDepth 100000 in
set_option maxHeartbeats 400000 in
theorem law4 (l : Bytes) (w : World) (hl : l.length ≤ maxLen) : Calls Try.prog 4 #[.string (bs l)] w fun e w' => e = .returned (.bool true) ∧ Below w.heap.size w w' := by
  have HL := Lib.hid hl
  unfold maxLen at hl
  by_cases h1 : 2147483647 < l.length
  · go_enter Try.func4, Try.ntmps4
    go_wp2
    go_ret
    exact ⟨rfl, Below.refl _ _⟩
  · have h2 : l.length ≤ 2147483647 := by omega
    have hrp := Lib.hid (read_parse l)
    clear h1
    go_enter Try.func4, Try.ntmps4
    go_wp2_with fail
    refine (read_any _ _ HL.out).mono ?_
    rintro e w1 ⟨rfl, hb⟩
    obtain ⟨⟨g, st⟩, hr⟩ : ∃ r, read l = r := ⟨_, rfl⟩
    rw [hr]
    have HR := Lib.hid hr
    clear hr
    unfold rv gv
    have hz := hb.size
    go_wp2_with fail
    refine (short1 l _ _ HL.out (by simp)).mono ?_
    rintro e w' ⟨rfl, rfl⟩
    have hbel := ((hb.alloc hz (.cells #[.string (bs g.maj), .string (bs g.min), .string (bs g.pat), .string (bs g.kind), .string (bs g.pre)] 25)).alloc (by simp; omega) (.cells #[.string (bs l)] 9))
    have HB := Lib.hid hbel
    clear hbel
    cases hs : shortB [l]
    · go_wp2
      go_ret
      exact ⟨rfl, HB.out⟩
    · by_cases h0 : st = 0
      · subst h0
        go_wp2
        go_ret
        exact ⟨rfl, HB.out⟩
      · have e0 : ((st : Int) == 0) = false := by simp; omega
        go_wp2
        go_region_held3 (fun w' => w'.cell? ⟨w1.heap.size, 3, none⟩ = some (.string (bs g.kind)) ∧ Below w.heap.size w w') (first | exact ⟨by simp, HB.out.drew⟩ | exact keep1 (by assumption) hb2) (first | (go_at_call 25; refine (isPre25 _ _ HL.out).mono ?_; rintro e w' ⟨rfl, hb2⟩))
        all_goals
          go_wp2
          go_ret
          have hp : parse l = g := by have h9 := hrp.out (by rw [HR.out]; exact h0); rw [HR.out] at h9; exact h9
          exact ⟨by rw [hp]; simp, (show _ ∧ Below w.heap.size w _ by assumption).2⟩
end Go.Proofs.Ytdhibalpnccbiaa
