/- Plain: the numbers of a parsed version are numbers; a number ahead has the make that its decrement wants. -/
import Derived.Test.YtdhibalpnccbiaaPlain3
namespace Go.Proofs.Ytdhibalpnccbiaa
structure Num (t : Bytes) : Prop where
  good : good t = true
  dig : t.all isD = true
theorem all_takeWhile (p : UInt8 → Bool) : ∀ l : Bytes, (l.takeWhile p).all p = true
  | [] => rfl
  | c :: l => by
    rw [List.takeWhile_cons]
    by_cases h : p c = true
    · rw [if_pos h, List.all_cons, h, all_takeWhile p l]; rfl
    · rw [if_neg h]; rfl
theorem cutI_num {l t r : Bytes} (h : cutI l = some (t, r)) : Num t := by
  unfold cutI at h
  split at h
  · rename_i hg; cases h; exact ⟨hg, all_takeWhile isD l⟩
  · cases h
theorem cutI_lens {l t r : Bytes} (h : cutI l = some (t, r)) : t.length + r.length = l.length := by
  unfold cutI at h
  split at h
  · cases h; rw [← List.length_append, List.takeWhile_append_dropWhile]
  · cases h
theorem takeWhile_app {p : UInt8 → Bool} {M rest : Bytes} (hd : M.all p = true) (hr : rest = [] ∨ ∃ c r, rest = c :: r ∧ p c = false) :
    (M ++ rest).takeWhile p = M ∧ (M ++ rest).dropWhile p = rest := by
  induction M with
  | nil =>
    rcases hr with rfl | ⟨c, r, rfl, hc⟩
    · exact ⟨rfl, rfl⟩
    · exact ⟨by rw [List.nil_append, List.takeWhile_cons, if_neg (by simp [hc])], by rw [List.nil_append, List.dropWhile_cons, if_neg (by simp [hc])]⟩
  | cons c M ih =>
    rw [List.all_cons, Bool.and_eq_true] at hd
    simp only [List.cons_append, List.takeWhile_cons, List.dropWhile_cons, hd.1, if_true]
    exact ⟨by rw [(ih hd.2).1], (ih hd.2).2⟩
theorem cutI_app {M rest : Bytes} (hM : Num M) (hr : rest = [] ∨ ∃ c r, rest = c :: r ∧ isD c = false) : cutI (M ++ rest) = some (M, rest) := by
  unfold cutI
  obtain ⟨h1, h2⟩ := takeWhile_app hM.dig hr
  rw [h1, h2, if_pos hM.good]
theorem num0 : Num [48] := ⟨rfl, rfl⟩
/-- What is known of a version's parts. -/
structure Parts (n : Nat) (g : GV) : Prop where
  maj : Num g.maj
  min : Num g.min
  pat : g.pat = [] ∨ Num g.pat
  pre : g.pre = [] ∨ Num g.pre
  lens : g.maj.length ≤ n ∧ g.min.length ≤ n ∧ g.pat.length ≤ n ∧ g.kind.length ≤ n ∧ g.pre.length ≤ n
  kindpat : g.kind ≠ [] → g.pat = []
  plain : g.kind = [] → g.pre = []
theorem parse_parts (l : Bytes) : parse l = zero ∨ Parts l.length (parse l) := by
  unfold parse
  rcases h : cutI l with _ | ⟨M, _ | ⟨c, x⟩⟩
  · exact .inl rfl
  · have hM := cutI_num h
    have hL := cutI_lens h
    have h1 : 1 ≤ M.length := List.length_pos_iff.2 (cutI_ne h)
    simp at hL
    exact .inr ⟨hM, num0, .inr num0, .inl rfl, ⟨(by first | (dsimp only; omega) | (simp; omega) | (dsimp only; simp; omega) | simp), (by first | (dsimp only; omega) | (simp; omega) | (dsimp only; simp; omega) | simp), (by first | (dsimp only; omega) | (simp; omega) | (dsimp only; simp; omega) | simp), (by first | (dsimp only; omega) | (simp; omega) | (dsimp only; simp; omega) | simp), (by first | (dsimp only; omega) | (simp; omega) | (dsimp only; simp; omega) | simp)⟩, fun h => absurd rfl h, fun _ => rfl⟩
  · have hM := cutI_num h
    have hL := cutI_lens h
    have h1 : 1 ≤ M.length := List.length_pos_iff.2 (cutI_ne h)
    simp at hL
    dsimp only
    split
    · unfold parse2
      rcases h2 : cutI x with _ | ⟨m, _ | ⟨c2, y⟩⟩
      · exact .inl rfl
      · have hm := cutI_num h2
        have hL2 := cutI_lens h2
        simp at hL2
        refine .inr ⟨hM, hm, ?_, .inl rfl, ⟨(by first | (dsimp only; omega) | (simp; omega) | (dsimp only; simp; omega) | simp), (by first | (dsimp only; omega) | (simp; omega) | (dsimp only; simp; omega) | simp), ?_, (by first | (dsimp only; omega) | (simp; omega) | (dsimp only; simp; omega) | simp), (by first | (dsimp only; omega) | (simp; omega) | (dsimp only; simp; omega) | simp)⟩, fun h => absurd rfl h, fun _ => rfl⟩
        · dsimp only; split
          · exact .inr num0
          · exact .inl rfl
        · dsimp only; split <;> simp; omega
      · have hm := cutI_num h2
        have hL2 := cutI_lens h2
        simp at hL2
        dsimp only
        split
        · unfold parse3
          split
          · rename_i p h3
            have hL3 := cutI_lens h3
            simp at hL3
            exact .inr ⟨hM, hm, .inr (cutI_num h3), .inl rfl, ⟨(by first | (dsimp only; omega) | (simp; omega) | (dsimp only; simp; omega) | simp), (by first | (dsimp only; omega) | (simp; omega) | (dsimp only; simp; omega) | simp), (by first | (dsimp only; omega) | (simp; omega) | (dsimp only; simp; omega) | simp), (by first | (dsimp only; omega) | (simp; omega) | (dsimp only; simp; omega) | simp), (by first | (dsimp only; omega) | (simp; omega) | (dsimp only; simp; omega) | simp)⟩, fun h => absurd rfl h, fun _ => rfl⟩
          · exact .inl rfl
        · unfold parse4
          have hT : ((c2 :: y).takeWhile notD).length + ((c2 :: y).dropWhile notD).length = y.length + 1 := by
            rw [← List.length_append, List.takeWhile_append_dropWhile]; rfl
          split
          · exact .inl rfl
          · split
            · exact .inl rfl
            · rename_i hk
              split
              · exact .inr ⟨hM, hm, .inl rfl, .inl rfl, ⟨(by first | (dsimp only; omega) | (simp; omega) | (dsimp only; simp; omega) | simp), (by first | (dsimp only; omega) | (simp; omega) | (dsimp only; simp; omega) | simp), (by first | (dsimp only; omega) | (simp; omega) | (dsimp only; simp; omega) | simp), (by first | (dsimp only; omega) | (simp; omega) | (dsimp only; simp; omega) | simp), (by first | (dsimp only; omega) | (simp; omega) | (dsimp only; simp; omega) | simp)⟩, fun _ => rfl, fun _ => rfl⟩
              · split
                · rename_i p h3
                  have hL3 := cutI_lens h3
                  simp only [List.length_nil] at hL3
                  exact .inr ⟨hM, hm, .inl rfl, .inr (cutI_num h3), ⟨(by first | (dsimp only; omega) | (simp; omega) | (dsimp only; simp; omega) | simp), (by first | (dsimp only; omega) | (simp; omega) | (dsimp only; simp; omega) | simp), (by first | (dsimp only; omega) | (simp; omega) | (dsimp only; simp; omega) | simp), (by first | (dsimp only; omega) | (simp; omega) | (dsimp only; simp; omega) | simp), (by first | (dsimp only; omega) | (simp; omega) | (dsimp only; simp; omega) | simp)⟩, fun _ => rfl, fun h => absurd h hk⟩
                · exact .inl rfl
    · exact .inl rfl
end Go.Proofs.Ytdhibalpnccbiaa
