/- Plain: the beginning of a version is at most that version. -/
import Derived.Test.YtdhibalpnccbiaaMods
import Derived.Test.YtdhibalpnccbiaaPrevP
namespace Go.Proofs.Ytdhibalpnccbiaa
set_option linter.unusedVariables false
theorem parse_one {M : Bytes} (hM : Num M) : parse M = ⟨M, [48], [48], [], []⟩ := by
  have h := cutI_app hM (.inl rfl)
  rw [List.append_nil] at h
  unfold parse
  rw [h]
theorem lang_parse {v : Bytes} {g : GV} (h : read v = (g, 1)) : parse (lang g) = ⟨g.maj, g.min, pat0 g.min, [], []⟩ := by
  obtain ⟨_, hpa⟩ := fine_parts h
  unfold lang
  by_cases h1 : g.maj = [] ∨ (g.maj = [49] ∧ g.min = [48])
  · rw [if_pos h1, parse_one hpa.maj]
    rcases h1 with h1 | ⟨h1, h2⟩
    · exact absurd h1 (good_ne hpa.maj.good)
    · rw [h2]; rfl
  · rw [if_neg h1]; exact parse_lang hpa.maj hpa.min
theorem lang_ne {v : Bytes} {g : GV} (h : read v = (g, 1)) : lang g ≠ [] := by
  obtain ⟨_, hpa⟩ := fine_parts h
  unfold lang
  split
  · exact good_ne hpa.maj.good
  · simp
theorem nil_le (a : Bytes) : cmpB [] a ≤ 0 := by
  unfold cmpB
  split
  · omega
  · rename_i h
    rw [if_pos (by cases a with | nil => exact absurd rfl h | cons => simp)]
    omega
theorem zero_le {a : Bytes} (h : Num a) : cmpB [48] a ≤ 0 := by
  rcases cmpB_val num0 h with ⟨_, e⟩ | ⟨_, e⟩ | ⟨e1, e⟩
  · omega
  · omega
  · have : val [48] = 0 := rfl
    omega
theorem begin_go {v : Bytes} {g : GV} (h : read v = (g, 1)) (hk : g.kind = [] ∨ ¬ cmpB g.min [50, 49] < 0) : cmpG (parse (lang g)) (parse v) ≤ 0 := by
  obtain ⟨hp, hpa⟩ := fine_parts h
  rw [lang_parse h, hp, cmpG_lex]
  simp only
  rw [ord_B.self g.maj, ord_B.self g.min]
  have e0 : ∀ x, thenC 0 x = x := fun x => rfl
  rw [e0, e0]
  by_cases hk0 : g.kind = []
  · rw [hk0, hpa.plain hk0]
    have hs : cmpS [] [] = 0 := rfl
    have hB : cmpB [] [] = 0 := rfl
    rw [hs, hB, e0]
    have hle : cmpB (pat0 g.min) g.pat ≤ 0 := by
      unfold pat0
      split
      · rename_i h21
        rcases hpa.pat with h9 | h9
        · exact absurd h21 (fine_pat h hk0 h9)
        · exact zero_le h9
      · exact nil_le _
    unfold thenC
    split <;> omega
  · have h21 : ¬ cmpB g.min [50, 49] < 0 := hk.resolve_left hk0
    have hp0 : pat0 g.min = [] := if_neg h21
    rw [hp0, hpa.kindpat hk0]
    have hB : cmpB [] [] = 0 := rfl
    rw [hB, e0]
    have hs : cmpS [] g.kind = -1 := by
      unfold cmpS
      rw [if_neg (fun e => hk0 e.symm), if_pos]
      cases hkk : g.kind with
      | nil => exact absurd hkk hk0
      | cons => simp
    rw [hs, thenC_1 (by decide)]
    decide
theorem sem_begin {M m : Bytes} (hM : Num M) (hm : Num m) : semP (118 :: (M ++ 46 :: m)) = some ⟨M, m, [48], [46, 48], [], []⟩ := by
  rw [semP_tail, if_neg (by decide)]
  unfold tail1
  rw [cutI_app hM (.inr ⟨46, m, rfl, rfl⟩)]
  simp only
  rw [if_neg (by decide)]
  unfold tail2
  have h := cutI_app hm (.inl rfl)
  rw [List.append_nil] at h
  rw [h]
theorem sem_nums2 {v : Bytes} {S : SV} (h : semP v = some S) : S.maj.length ≤ v.length ∧ S.min.length ≤ v.length := by
  rcases sem_shape h with ⟨M, hM, hv2, h1, h2, h3, h4, h5⟩ | ⟨M, m, hM, hm, hv2, h1, h2, h3, h4, h5⟩ | ⟨M, m, p, z, hM, hm, hp, hv2, h1, h2, h3, h4⟩
  · rw [h1, h2, hv2]; simp
  · rw [h1, h2, hv2]; simp; omega
  · rw [h1, h2, hv2]; simp; omega
theorem begin_sem {v : Bytes} {S : SV} (h : semP v = some S) (hp : S.pre = []) : cmpV (mmOf v) v ≤ 0 := by
  have e : mmOf v = 118 :: (S.maj ++ 46 :: S.min) := by unfold mmOf; rw [h]
  have hnum : Num S.maj ∧ Num S.min ∧ Num S.pat := by
    rcases sem_shape h with ⟨M, hM, hv2, h1, h2, h3, h4, h5⟩ | ⟨M, m, hM, hm, hv2, h1, h2, h3, h4, h5⟩ | ⟨M, m, p, z, hM, hm, hp, hv2, h1, h2, h3, h4⟩
    · rw [h1, h2, h3]; exact ⟨hM, num0, num0⟩
    · rw [h1, h2, h3]; exact ⟨hM, hm, num0⟩
    · rw [h1, h2, h3]; exact ⟨hM, hm, hp⟩
  have hb : semP (mmOf v) = some ⟨S.maj, S.min, [48], [46, 48], [], []⟩ := by rw [e]; exact sem_begin hnum.1 hnum.2.1
  rw [cmpV_ss hb h]
  simp only
  rw [hp, ord_B.self, ord_B.self]
  have h9 := zero_le hnum.2.2
  have hc : cpR [] [] = 0 := rfl
  have e0 : ∀ x, thenC 0 x = x := fun x => rfl
  rw [e0, e0, hc]
  unfold thenC
  split <;> omega
end Go.Proofs.Ytdhibalpnccbiaa
