/- gover's functions over Parse. -/
import Derived.Test.YtdhibalpnccbiaaRead3
import Derived.Test.YtdhibalpnccbiaaPlain2
namespace Go.Proofs.Ytdhibalpnccbiaa
open Go.RowKit
set_option linter.unusedVariables false
theorem bcell {W w1 : World} (hb : Below W.heap.size W w1) : (∀ b o, b < W.heap.size → w1.cell? ⟨b, o, none⟩ = W.cell? ⟨b, o, none⟩) ∧ (∀ b o, b < W.heap.size → w1.frozen? ⟨b, o, none⟩ = W.frozen? ⟨b, o, none⟩) :=
  ⟨fun b o h => hb.cell (p := ⟨b, o, none⟩) h, fun b o h => hb.frozen (p := ⟨b, o, none⟩) h⟩
theorem isPre25 (l : Bytes) (w : World) (hs : l.length ≤ maxLen) :
    Calls Try.prog 25 #[.string (bs l)] w fun e w' => e = .returned (.bool (!((parse l).kind == []))) ∧ Below w.heap.size w w' := by
  have HS := Lib.hid hs
  unfold maxLen at hs
  go_enter Try.func25, Try.ntmps25
  go_wp2_with fail
  refine (isPre49 _ _ HS.out).mono ?_
  rintro e w' ⟨rfl, hb⟩
  go_wp2
  go_ret
  exact ⟨by simp, hb⟩
def validB (g : GV) : Bool := !(g.maj.isEmpty)
set_option maxRecDepth 100000 in
set_option maxHeartbeats 400000 in
theorem valid88 (l : Bytes) (w : World) (hs : l.length ≤ maxLen) :
    Calls Try.prog 88 #[.string (bs l)] w fun e w' => e = .returned (.bool (validB (parse l))) ∧ Below w.heap.size w w' := by
  have HS := Lib.hid hs
  have hsd := parse_sound l
  obtain ⟨g, hg⟩ : ∃ g, parse l = g := ⟨_, rfl⟩
  rw [hg] at hsd
  have HG := Lib.hid hg
  clear hg
  unfold maxLen at hs
  rcases hsd with h | ⟨h, h'⟩
  · subst h
    go_enter Try.func88, Try.ntmps88
    go_wp2_with fail
    refine (parse_any _ _ HS.out).mono ?_
    rintro e w' ⟨rfl, hb⟩
    rw [HG.out]
    unfold gv zero
    go_wp2
    go_ret
    exact ⟨by rw [HG.out]; rfl, hb⟩
  · clear h'
    go_enter Try.func88, Try.ntmps88
    go_wp2_with fail
    refine (parse_any _ _ HS.out).mono ?_
    rintro e w' ⟨rfl, hb⟩
    rw [HG.out]
    unfold gv
    go_wp2
    go_ret
    exact ⟨by rw [HG.out]; simp [validB, h], hb⟩
theorem valid72 (l : Bytes) (w : World) (hs : l.length ≤ maxLen) :
    Calls Try.prog 72 #[.string (bs l)] w fun e w' => e = .returned (.bool (validB (parse l))) ∧ Below w.heap.size w w' := by
  have HS := Lib.hid hs
  unfold maxLen at hs
  go_enter Try.func72, Try.ntmps72
  go_wp2_with fail
  refine (valid88 _ _ HS.out).mono ?_
  rintro e w' ⟨rfl, hb⟩
  go_wp2
  go_ret
  exact ⟨rfl, hb⟩
def isLangB (g : GV) : Bool := validB g && g.pat.isEmpty && g.kind.isEmpty && g.pre.isEmpty
set_option maxRecDepth 100000 in
set_option maxHeartbeats 400000 in
theorem isLang89 (l : Bytes) (w : World) (hs : l.length ≤ maxLen) :
    Calls Try.prog 89 #[.string (bs l)] w fun e w' => e = .returned (.bool (isLangB (parse l))) ∧ Below w.heap.size w w' := by
  have HS := Lib.hid hs
  have hsd := parse_sound l
  obtain ⟨g, hg⟩ : ∃ g, parse l = g := ⟨_, rfl⟩
  rw [hg] at hsd
  have HG := Lib.hid hg
  clear hg
  unfold maxLen at hs
  rcases hsd with h | ⟨h, h'⟩
  · subst h
    go_enter Try.func89, Try.ntmps89
    go_wp2_with fail
    refine (parse_any _ _ HS.out).mono ?_
    rintro e w' ⟨rfl, hb⟩
    rw [HG.out]
    unfold gv zero
    have hz := hb.size
    go_wp2
    go_ret
    exact ⟨by rw [HG.out]; rfl, hb.alloc hz _⟩
  · clear h'
    have hv : validB g = true := by simp [validB, h]
    cases h1 : g.pat.isEmpty <;> cases h2 : g.kind.isEmpty <;> cases h3 : g.pre.isEmpty
    all_goals
      have HL : Hid (isLangB g = (g.pat.isEmpty && g.kind.isEmpty && g.pre.isEmpty)) := by show _ = _; simp [isLangB, hv]
      clear hv
      go_enter Try.func89, Try.ntmps89
      go_wp2_with fail
      refine (parse_any _ _ HS.out).mono ?_
      rintro e w' ⟨rfl, hb⟩
      rw [HG.out]
      unfold gv
      have hz := hb.size
      go_wp2
      go_ret
      exact ⟨by rw [HG.out, HL.out, h1, h2, h3]; rfl, hb.alloc hz _⟩
end Go.Proofs.Ytdhibalpnccbiaa
