/- Plain: what lies between the version ahead and the version of the language. -/
import Derived.Test.YtdhibalpnccbiaaL8
import Derived.Test.YtdhibalpnccbiaaL3
import Derived.Test.YtdhibalpnccbiaaOrd
namespace Go.Proofs.Ytdhibalpnccbiaa
set_option linter.unusedVariables false
def pat0 (m : Bytes) : Bytes := if cmpB m [50, 49] < 0 then [48] else []
theorem read_lang {M m : Bytes} (hM : Num M) (hm : Num m) : read (M ++ 46 :: m) = (⟨M, m, pat0 m, [], []⟩, 1) := by
  unfold read
  rw [cutI_app hM (.inr ⟨46, m, rfl, rfl⟩)]
  simp only [if_true]
  unfold read2
  have h := cutI_app hm (.inl rfl)
  rw [List.append_nil] at h
  rw [h]
  rfl
theorem fine_pat {l : Bytes} {g : GV} (h : read l = (g, 1)) (hk : g.kind = []) (hp : g.pat = []) : ¬ cmpB g.min [50, 49] < 0 := by
  unfold read at h
  rcases e : cutI l with _ | ⟨M, _ | ⟨c, x⟩⟩ <;> simp only [e] at h
  · simp at h
  · cases h; simp at hp
  · split at h
    · unfold read2 at h
      rcases e2 : cutI x with _ | ⟨m, _ | ⟨c2, y⟩⟩ <;> simp only [e2] at h
      · simp at h
      · cases h
        dsimp only at hp ⊢
        intro h9
        rw [if_pos h9] at hp
        simp at hp
      · split at h
        · unfold read3 at h
          split at h
          · rename_i p h3
            cases h
            exact absurd hp (cutI_ne h3)
          · simp at h
        · unfold read4 at h
          split at h
          · simp at h
          · rename_i hne
            split at h
            · simp at h
            · split at h
              · cases h; exact absurd hk hne
              · simp at h
    · simp at h
theorem between_plain {M m D : Bytes} {h : GV} {l : Bytes} (hm : Num m) (hD : Num D) (hv : val D + 1 = val m) (hr : read l = (h, 1)) (hk : h.kind = [])
    (h1 : cmpG ⟨M, D, pat0 D, [], []⟩ h < 0) (h2 : cmpG h ⟨M, m, pat0 m, [], []⟩ < 0) : h.maj = M ∧ h.min = D := by
  obtain ⟨_, hpa⟩ := fine_parts hr
  have hfp := fine_pat hr hk
  have hpre := hpa.plain hk
  have hmin := hpa.min
  have hpat := hpa.pat
  rw [cmpG_lex] at h1 h2
  obtain ⟨M', m', p', k', q'⟩ := h
  simp only at *
  subst hk hpre
  unfold thenC at h1 h2
  have hM1 : cmpB M M' ≤ 0 := by
    split at h1 <;> omega
  have hM2 : cmpB M' M ≤ 0 := by
    split at h2 <;> omega
  have hb := ord_B.back M M'
  have e0 : cmpB M' M = 0 := by omega
  have e0' : cmpB M M' = 0 := by omega
  refine ⟨cmpB_zero e0, ?_⟩
  rw [if_neg (by simp [e0'])] at h1
  rw [if_neg (by simp [e0])] at h2
  have hD1 : cmpB D m' ≤ 0 := by
    split at h1 <;> omega
  have hm2 : cmpB m' m ≤ 0 := by
    split at h2 <;> omega
  have v1 : val D ≤ val m' := by
    rcases cmpB_val hD hmin with ⟨a, b⟩ | ⟨a, b⟩ | ⟨a, b⟩
    · omega
    · rw [a]; exact Nat.le_refl _
    · omega
  rcases cmpB_val hmin hm with ⟨a, b⟩ | ⟨a, b⟩ | ⟨a, b⟩
  · exact num_inj hmin hD (by omega)
  · exfalso
    subst a
    rw [if_neg (by simp [b])] at h2
    have hs : cmpS [] [] = 0 := rfl
    have hB : cmpB [] [] = 0 := rfl
    rw [hs, hB] at h2
    have hp2 : cmpB p' (pat0 m') < 0 := by
      split at h2
      · exact h2
      · simp at h2
    unfold pat0 at hp2
    by_cases h21 : cmpB m' [50, 49] < 0
    · rw [if_pos h21] at hp2
      rcases hpat with rfl | hpn
      · exact hfp rfl h21
      · rw [cmpB_neg hpn num0] at hp2
        have : val [48] = 0 := rfl
        omega
    · rw [if_neg h21] at hp2
      have hb2 := ord_B.back [] p'
      unfold cmpB at hp2
      split at hp2
      · omega
      · rename_i hne
        split at hp2
        · rename_i hl; simp at hl
        · split at hp2
          · omega
          · rename_i hl1 hl2
            simp at hl2
            exact hne hl2
  · omega
theorem before_less {M m D p k q : Bytes} (hm : Num m) (hD : Num D) (hv : val D + 1 = val m) : cmpG ⟨M, D, pat0 D, [], []⟩ ⟨M, m, p, k, q⟩ = -1 := by
  rw [cmpG_lex]
  simp only
  have e : cmpB D m = -1 := by
    rcases cmpB_val hD hm with ⟨a, b⟩ | ⟨a, b⟩ | ⟨a, b⟩
    · exact b
    · subst a; omega
    · omega
  rw [e, ord_B.self M]
  rfl
end Go.Proofs.Ytdhibalpnccbiaa
