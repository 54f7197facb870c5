/- Plain: what a parsed version has. -/
import Derived.Test.YtdhibalpnccbiaaPlain
namespace Go.Proofs.Ytdhibalpnccbiaa
theorem good_ne {t : Bytes} (h : good t = true) : t ≠ [] := by
  intro e; subst e; cases h
theorem cutI_ne {l t r : Bytes} (h : cutI l = some (t, r)) : t ≠ [] := by
  unfold cutI at h
  split at h
  · rename_i hg; cases h; exact good_ne hg
  · cases h
def Sound (g : GV) : Prop := g = zero ∨ (g.maj ≠ [] ∧ g.min ≠ [])
theorem parse_sound (l : Bytes) : Sound (parse l) := by
  unfold parse
  rcases h : cutI l with _ | ⟨M, _ | ⟨c, x⟩⟩
  · exact .inl rfl
  · exact .inr ⟨cutI_ne h, by simp⟩
  · have hM := cutI_ne h
    dsimp only
    split
    · unfold parse2
      rcases h2 : cutI x with _ | ⟨m, _ | ⟨c2, y⟩⟩
      · exact .inl rfl
      · exact .inr ⟨hM, cutI_ne h2⟩
      · have hm := cutI_ne h2
        dsimp only
        split
        · unfold parse3
          split
          · exact .inr ⟨hM, hm⟩
          · exact .inl rfl
        · unfold parse4
          split
          · exact .inl rfl
          · split
            · exact .inl rfl
            · split
              · exact .inr ⟨hM, hm⟩
              · split
                · exact .inr ⟨hM, hm⟩
                · exact .inl rfl
    · exact .inl rfl
/-- The state tells just whether it is a version. -/
theorem read_fine (l : Bytes) (h : (read l).2 ≠ 0) : ((read l).2 = 1 ∧ (parse l).maj ≠ [] ∧ (parse l).min ≠ []) ∨ ((read l).2 = 2 ∧ parse l = zero) := by
  have hp := read_parse l h
  rw [hp]
  clear hp
  unfold read at h ⊢
  rcases e : cutI l with _ | ⟨M, _ | ⟨c, x⟩⟩ <;> simp only [e] at h ⊢
  · exact .inr ⟨trivial, trivial⟩
  · exact .inl ⟨trivial, cutI_ne e, by simp⟩
  · have hM := cutI_ne e
    by_cases hc : c = 46
    · rw [if_pos hc] at h ⊢
      unfold read2 at h ⊢
      rcases e2 : cutI x with _ | ⟨m, _ | ⟨c2, y⟩⟩ <;> simp only [e2] at h ⊢
      · exact .inr ⟨trivial, trivial⟩
      · exact .inl ⟨trivial, hM, cutI_ne e2⟩
      · have hm := cutI_ne e2
        by_cases hc2 : c2 = 46
        · rw [if_pos hc2]
          unfold read3
          split
          · exact .inl ⟨rfl, hM, hm⟩
          · exact .inr ⟨rfl, rfl⟩
        · rw [if_neg hc2] at h ⊢
          unfold read4 at h ⊢
          split
          · exact .inr ⟨rfl, rfl⟩
          · rename_i hk
            rw [if_neg hk] at h
            split
            · rename_i ho; rw [if_pos ho] at h; exact absurd rfl h
            · split
              · exact .inl ⟨rfl, hM, hm⟩
              · exact .inr ⟨rfl, rfl⟩
    · rw [if_neg hc]; exact .inr ⟨rfl, rfl⟩
/-- Compare's five steps. -/
def cmpG (x y : GV) : Int :=
  if cmpB x.maj y.maj ≠ 0 then cmpB x.maj y.maj else if cmpB x.min y.min ≠ 0 then cmpB x.min y.min else
  if cmpB x.pat y.pat ≠ 0 then cmpB x.pat y.pat else if cmpS x.kind y.kind ≠ 0 then cmpS x.kind y.kind else cmpB x.pre y.pre
/-- The version of the language. -/
def lang (g : GV) : Bytes := if g.maj = [] ∨ (g.maj = [49] ∧ g.min = [48]) then g.maj else g.maj ++ 46 :: g.min
end Go.Proofs.Ytdhibalpnccbiaa
