/- Names of toolchains. -/
import Derived.Test.YtdhibalpnccbiaaIdx
import Derived.Test.YtdhibalpnccbiaaPlain4
namespace Go.Proofs.Ytdhibalpnccbiaa
open Go.RowKit
set_option linter.unusedVariables false

def hasStroke (l : Bytes) : Bool := decide (tw (notIn [92, 47]) l < l.length)
def bare (v : Bytes) : Bytes := v.take (tw (notIn [32, 9, 45]) v)
def fromTool (l : Bytes) : Bytes := if hasStroke l then [] else if l.take 2 = [103, 111] then (if validB (parse (bare (l.drop 2))) then bare (l.drop 2) else []) else []
def toolN (l : Bytes) : Bytes × Nat :=
  if l.take 2 ≠ [103, 111] then ([], 1) else if hasStroke l then ([], 0) else
  if (read (bare (l.drop 2))).2 = 2 then ([], 1) else (bare (l.drop 2), (read (bare (l.drop 2))).2)
theorem contains69 (l : Bytes) (w : World) (hl : l.length ≤ maxLen) :
    Calls Try.prog 69 #[.string (bs l), .string (bs [92, 47])] w fun e w' => e = .returned (.bool (hasStroke l)) ∧ Below w.heap.size w w' := by
  have HL := Lib.hid hl
  have HH : Hid ((decide (0 ≤ idxAny [92, 47] l)) = hasStroke l) := by
    show _ = _
    unfold idxAny hasStroke
    by_cases h : tw (notIn [92, 47]) l < l.length
    · rw [if_pos h]; simp [h]
    · rw [if_neg h]; simp [h]
  clear hl
  go_enter Try.func69, Try.ntmps69
  go_wp2_with fail
  refine (idx_any [92, 47] l _ HL.out (by simp) (by intro q hq; match q, hq with | 0, _ => decide | 1, _ => decide)).mono ?_
  rintro e w' ⟨rfl, hb⟩
  go_wp2
  go_ret
  exact ⟨by rw [← HH.out]; rfl, hb⟩
theorem hasPre87 (l : Bytes) (w : World) (hl : l.length ≤ maxLen) :
    Calls Try.prog 87 #[.string (bs l), .string (bs [103, 111])] w fun e w' => e = .returned (.bool (l.take 2 == [103, 111])) ∧ w = w' := by
  unfold maxLen at hl
  by_cases h : 2 ≤ l.length
  · go_enter Try.func87, Try.ntmps87
    go_wp2
    go_ret
    exact ⟨rfl, rfl⟩
  · have H : Hid ((l.take 2 == [103, 111]) = false) := by
      refine beq_eq_false_iff_ne.2 ?_
      intro e
      have := congrArg List.length e
      simp at this
      omega
    go_enter Try.func87, Try.ntmps87
    go_wp2
    go_ret
    exact ⟨by rw [H.out]; rfl, rfl⟩
theorem hasPre70 (l : Bytes) (w : World) (hl : l.length ≤ maxLen) :
    Calls Try.prog 70 #[.string (bs l), .string (bs [103, 111])] w fun e w' => e = .returned (.bool (l.take 2 == [103, 111])) ∧ w = w' := by
  have HL := Lib.hid hl
  go_enter Try.func70, Try.ntmps70
  go_wp2_with fail
  refine (hasPre87 l _ HL.out).mono ?_
  rintro e w' ⟨rfl, rfl⟩
  go_wp2
  go_ret
  exact ⟨rfl, rfl⟩
set_option maxRecDepth 100000 in
set_option maxHeartbeats 400000 in
theorem from51 (l : Bytes) (w : World) (hl : l.length ≤ maxLen) :
    Calls Try.prog 51 #[.string (bs l)] w fun e w' => e = .returned (.string (bs (fromTool l))) ∧ Below w.heap.size w w' := by
  have HL := Lib.hid hl
  have HD : Hid ((l.drop 2).length ≤ maxLen) := by show _ ≤ _; rw [List.length_drop]; omega
  have HB : Hid ((bare (l.drop 2)).length ≤ maxLen) := by show _ ≤ _; unfold bare; rw [List.length_take, List.length_drop]; omega
  unfold maxLen at hl
  cases h1 : hasStroke l
  · by_cases h2 : l.take 2 = [103, 111]
    · have h2' : (l.take 2 == [103, 111]) = true := by rw [h2]; rfl
      have hlen : 2 ≤ l.length := by have := congrArg List.length h2; simp at this; omega
      have HF : Hid (fromTool l = if validB (parse (bare (l.drop 2))) then bare (l.drop 2) else []) := by
        show _ = _; unfold fromTool; rw [h1, if_neg (by simp), if_pos h2]
      have H1 := Lib.hid h1
      have H2 := Lib.hid h2'
      clear h1 h2 h2'
      go_enter Try.func51, Try.ntmps51
      go_wp2_with fail
      refine (contains69 l _ HL.out).mono ?_
      rintro e w1 ⟨rfl, hb⟩
      rw [H1.out]
      go_wp2_with fail
      refine (hasPre70 l _ HL.out).mono ?_
      rintro e w' ⟨rfl, rfl⟩
      rw [H2.out]
      go_wp2_with fail
      refine (idx_any [32, 9, 45] (l.drop 2) _ HD.out (by simp) (by intro q hq; match q, hq with | 0, _ => decide | 1, _ => decide | 2, _ => decide)).mono ?_
      rintro e w2 ⟨rfl, hb2⟩
      have HB2 := Lib.hid (below_next hb hb2)
      clear hb hb2
      obtain ⟨v, hv⟩ : ∃ v, l.drop 2 = v := ⟨_, rfl⟩
      rw [hv] at HD HB HF ⊢
      clear hv
      by_cases h3 : tw (notIn [32, 9, 45]) v < v.length
      · have HI : Hid (idxAny [32, 9, 45] v = ((tw (notIn [32, 9, 45]) v : Nat) : Int)) := by show _ = _; unfold idxAny; rw [if_pos h3]
        rw [HI.out]
        have HT : Hid (bare v = v.take (tw (notIn [32, 9, 45]) v)) := rfl
        generalize tw (notIn [32, 9, 45]) v = k at *
        go_wp2_with fail
        rw [← HT.out]
        refine (valid72 _ _ HB.out).mono ?_
        rintro e w3 ⟨rfl, hb3⟩
        have HB3 := Lib.hid (below_next HB2.out hb3)
        clear hb3
        cases h5 : validB (parse (bare v))
        · go_wp2
          go_ret
          exact ⟨by rw [HF.out, h5]; rfl, HB3.out⟩
        · go_wp2
          go_ret
          exact ⟨by rw [HF.out, h5, if_pos rfl]; first | rfl | (rw [HT.out]; rfl), HB3.out⟩
      · have HI : Hid (idxAny [32, 9, 45] v = -1) := by show _ = _; unfold idxAny; rw [if_neg h3]
        rw [HI.out]
        have HT : Hid (bare v = v) := by
          show _ = _
          unfold bare
          have := tw_le (notIn [32, 9, 45]) v
          rw [List.take_of_length_le (by omega)]
        clear h3
        go_wp2_with fail
        rw [HT.out] at HB HF
        refine (valid72 _ _ HB.out).mono ?_
        rintro e w3 ⟨rfl, hb3⟩
        have HB3 := Lib.hid (below_next HB2.out hb3)
        clear hb3
        cases h5 : validB (parse v)
        · go_wp2
          go_ret
          exact ⟨by rw [HF.out, h5]; rfl, HB3.out⟩
        · go_wp2
          go_ret
          exact ⟨by rw [HF.out, h5, if_pos rfl]; rfl, HB3.out⟩
    · have h2' : (l.take 2 == [103, 111]) = false := beq_eq_false_iff_ne.2 h2
      have HF : Hid (fromTool l = []) := by
        show _ = _; unfold fromTool; rw [h1, if_neg (by simp), if_neg h2]
      have H1 := Lib.hid h1
      have H2 := Lib.hid h2'
      clear h1 h2 h2'
      go_enter Try.func51, Try.ntmps51
      go_wp2_with fail
      refine (contains69 l _ HL.out).mono ?_
      rintro e w1 ⟨rfl, hb⟩
      rw [H1.out]
      go_wp2_with fail
      refine (hasPre70 l _ HL.out).mono ?_
      rintro e w' ⟨rfl, rfl⟩
      rw [H2.out]
      go_wp2
      go_ret
      exact ⟨by rw [HF.out]; rfl, hb⟩
  · have HF : Hid (fromTool l = []) := by
      show _ = _; unfold fromTool; rw [h1, if_pos rfl]
    have H1 := Lib.hid h1
    clear h1
    go_enter Try.func51, Try.ntmps51
    go_wp2_with fail
    refine (contains69 l _ HL.out).mono ?_
    rintro e w1 ⟨rfl, hb⟩
    rw [H1.out]
    go_wp2
    go_ret
    exact ⟨by rw [HF.out]; rfl, hb⟩
theorem from30 (l : Bytes) (w : World) (hl : l.length ≤ maxLen) :
    Calls Try.prog 30 #[.string (bs l)] w fun e w' => e = .returned (.string (bs (fromTool l))) ∧ Below w.heap.size w w' := by
  have HL := Lib.hid hl
  go_enter Try.func30, Try.ntmps30
  go_wp2_with fail
  refine (from51 l _ HL.out).mono ?_
  rintro e w' ⟨rfl, hb⟩
  go_wp2
  go_ret
  exact ⟨rfl, hb⟩
/-- What ModCompare takes for a toolchain's version. -/
def maybe (l : Bytes) : Bytes := if validB (parse l) then l else fromTool l
theorem maybe81 (l : Bytes) (w : World) (hl : l.length ≤ maxLen) :
    Calls Try.prog 81 #[.string (bs l)] w fun e w' => e = .returned (.string (bs (maybe l))) ∧ Below w.heap.size w w' := by
  have HL := Lib.hid hl
  clear hl
  go_enter Try.func81, Try.ntmps81
  go_wp2_with fail
  refine (valid72 _ _ HL.out).mono ?_
  rintro e w1 ⟨rfl, hb⟩
  cases h5 : validB (parse l)
  · have HF : Hid (maybe l = fromTool l) := by show _ = _; unfold maybe; rw [h5, if_neg (by simp)]
    go_wp2_with fail
    refine (from51 l _ HL.out).mono ?_
    rintro e w' ⟨rfl, hb2⟩
    have HB2 := Lib.hid (below_next hb hb2)
    go_wp2
    go_ret
    exact ⟨by rw [HF.out]; rfl, HB2.out⟩
  · have HF : Hid (maybe l = l) := by show _ = _; unfold maybe; rw [h5, if_pos rfl]
    go_wp2
    go_ret
    exact ⟨by rw [HF.out]; rfl, hb⟩
end Go.Proofs.Ytdhibalpnccbiaa
