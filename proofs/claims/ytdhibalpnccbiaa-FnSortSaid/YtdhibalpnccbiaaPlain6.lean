/- Plain: which bytes a fine version has; its names. -/
import Derived.Test.YtdhibalpnccbiaaTool2
namespace Go.Proofs.Ytdhibalpnccbiaa
set_option linter.unusedVariables false
def okC (c : UInt8) : Bool := isD c || c == 46 || isL c
theorem all_mono {p q : UInt8 → Bool} (h : ∀ c, p c = true → q c = true) {l : Bytes} (hl : l.all p = true) : l.all q = true := by
  rw [List.all_eq_true] at hl ⊢
  exact fun c hc => h c (hl c hc)
theorem num_ok {t : Bytes} (h : Num t) : t.all okC = true := all_mono (fun c hc => by simp [okC, hc]) h.dig
theorem read_ok (l : Bytes) (h : (read l).2 = 1) : l.all okC = true := by
  have d46 : okC 46 = true := rfl
  unfold read at h
  rcases e : cutI l with _ | ⟨M, _ | ⟨c, x⟩⟩ <;> simp only [e] at h
  · simp at h
  · rw [← cutI_split e, List.all_append, num_ok (cutI_num e)]; rfl
  · have hM := num_ok (cutI_num e)
    by_cases hc : c = 46
    · subst hc
      simp only [if_true] at h
      rw [← cutI_split e, List.all_append, hM, List.all_cons, d46]
      simp only [Bool.true_and]
      unfold read2 at h
      rcases e2 : cutI x with _ | ⟨m, _ | ⟨c2, y⟩⟩ <;> simp only [e2] at h
      · simp at h
      · rw [← cutI_split e2, List.all_append, num_ok (cutI_num e2)]; rfl
      · have hm := num_ok (cutI_num e2)
        rw [← cutI_split e2, List.all_append, hm, Bool.true_and]
        by_cases hc2 : c2 = 46
        · subst hc2
          simp only [if_true] at h
          unfold read3 at h
          rcases e3 : cutI y with _ | ⟨p, _ | ⟨d, z⟩⟩ <;> simp only [e3] at h
          · simp at h
          · rw [List.all_cons, d46, ← cutI_split e3, List.all_append, num_ok (cutI_num e3)]; rfl
          · simp at h
        · simp only [if_neg hc2] at h
          unfold read4 at h
          split at h
          · simp at h
          · split at h
            · simp at h
            · rcases e3 : cutI ((c2 :: y).dropWhile isL) with _ | ⟨p, _ | ⟨d, z⟩⟩ <;> simp only [e3] at h
              · simp at h
              · rw [← List.takeWhile_append_dropWhile (p := isL) (l := c2 :: y), List.all_append, ← cutI_split e3, List.all_append, num_ok (cutI_num e3),
                  all_mono (q := okC) (fun c hc => by simp [okC, hc]) (all_takeWhile isL (c2 :: y))]
                rfl
              · simp at h
    · simp only [if_neg hc] at h
      simp at h
theorem okC_stroke {c : UInt8} (h : okC c = true) : notIn [92, 47] c = true := by
  have e1 : c ≠ 92 := by rintro rfl; simp [okC, isD, isL] at h
  have e2 : c ≠ 47 := by rintro rfl; simp [okC, isD, isL] at h
  simp [notIn, e1, e2]
theorem okC_sep {c : UInt8} (h : okC c = true) : notIn [32, 9, 45] c = true := by
  have e1 : c ≠ 32 := by rintro rfl; simp [okC, isD, isL] at h
  have e2 : c ≠ 9 := by rintro rfl; simp [okC, isD, isL] at h
  have e3 : c ≠ 45 := by rintro rfl; simp [okC, isD, isL] at h
  simp [notIn, e1, e2, e3]
theorem tw_all (p : UInt8 → Bool) : ∀ l : Bytes, l.all p = true → tw p l = l.length
  | [], _ => rfl
  | c :: l, h => by
    rw [List.all_cons, Bool.and_eq_true] at h
    have := tw_all p l h.2
    unfold tw at this ⊢
    rw [List.takeWhile_cons, if_pos h.1, List.length_cons, this, List.length_cons]
theorem hasStroke_all {l : Bytes} (h : l.all (notIn [92, 47]) = true) : hasStroke l = false := by
  unfold hasStroke; rw [tw_all _ l h]; simp
theorem bare_app {x rest : Bytes} (h : x.all okC = true) (hr : rest = [] ∨ ∃ c r, rest = c :: r ∧ notIn [32, 9, 45] c = false) : bare (x ++ rest) = x := by
  unfold bare
  rw [take_tw]
  exact (takeWhile_app (all_mono (fun c hc => okC_sep hc) h) hr).1
/-- The version in a name that was made of it. -/
theorem fromTool_made {x rest : Bytes} (h : (read x).2 = 1) (hr : rest = [] ∨ ∃ c r, rest = c :: r ∧ notIn [32, 9, 45] c = false) (hs : rest.all (notIn [92, 47]) = true) : fromTool (103 :: 111 :: (x ++ rest)) = x := by
  have hok := read_ok x h
  have h1 : hasStroke (103 :: 111 :: (x ++ rest)) = false := by
    apply hasStroke_all
    rw [List.all_cons, List.all_cons, List.all_append, hs, all_mono (fun c hc => okC_stroke hc) hok]
    rfl
  unfold fromTool
  rw [h1, if_neg (by simp), if_pos (by simp)]
  simp only [List.drop_succ_cons, List.drop_zero]
  rw [bare_app hok hr]
  rcases read_fine x (by omega) with h3 | h3
  · rw [if_pos (by simp [validB, h3.2.1])]
  · omega
end Go.Proofs.Ytdhibalpnccbiaa
