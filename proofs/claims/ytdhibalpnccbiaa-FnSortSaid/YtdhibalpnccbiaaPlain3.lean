/- Plain: the number ahead. -/
import Derived.Test.YtdhibalpnccbiaaPlain2
namespace Go.Proofs.Ytdhibalpnccbiaa
/-- a, then a figure, then figures: what the row holds when the place k is looked at (places behind k hold 9). -/
def cur (a : Bytes) (d : UInt8) (z k : Nat) : Bytes := a ++ d :: (List.replicate (k - a.length) 48 ++ List.replicate (a.length + z - k) 57)
theorem cur_length (a : Bytes) (d : UInt8) (z k : Nat) (h1 : a.length ≤ k) (h2 : k ≤ a.length + z) : (cur a d z k).length = a.length + z + 1 := by
  simp [cur]; omega
theorem cur_start (a : Bytes) (d : UInt8) (z : Nat) : cur a d z (a.length + z) = a ++ d :: List.replicate z 48 := by
  simp [cur]
theorem cur_end (a : Bytes) (d : UInt8) (z : Nat) : cur a d z a.length = a ++ d :: List.replicate z 57 := by
  simp [cur]
theorem cur_at (a : Bytes) (d : UInt8) (z k : Nat) (h1 : a.length < k) : (cur a d z k)[k]? = some 48 := by
  unfold cur
  rw [List.getElem?_append_right (by omega)]
  obtain ⟨j, hj⟩ : ∃ j, k - a.length = j + 1 := ⟨k - a.length - 1, by omega⟩
  rw [hj, List.getElem?_cons_succ, List.getElem?_append_left (by simp)]
  simp
theorem cur_first (a : Bytes) (d : UInt8) (z : Nat) : (cur a d z a.length)[a.length]? = some d := by
  rw [cur_end, List.getElem?_append_right (Nat.le_refl _)]
  simp
theorem cur_set (a : Bytes) (d : UInt8) (z k : Nat) (h1 : a.length < k) (h2 : k ≤ a.length + z) : (cur a d z k).set k 57 = cur a d z (k - 1) := by
  unfold cur
  rw [List.set_append_right _ _ (by omega)]
  obtain ⟨j, hj⟩ : ∃ j, k - a.length = j + 1 := ⟨k - a.length - 1, by omega⟩
  have e1 : k - 1 - a.length = j := by omega
  have e2 : a.length + z - (k - 1) = (a.length + z - k) + 1 := by omega
  rw [hj, List.set_cons_succ, e1, e2, List.replicate_succ', List.append_assoc, List.set_append_right _ _ (by simp)]
  simp [List.replicate_succ]
/-- The number ahead. -/
def decR (a : Bytes) (d : UInt8) (z : Nat) : Bytes := if a = [] ∧ d = 49 ∧ 0 < z then List.replicate z 57 else a ++ (d - 1) :: List.replicate z 57
theorem end_set (a : Bytes) (d e : UInt8) (z : Nat) : (cur a d z a.length).set a.length e = a ++ e :: List.replicate z 57 := by
  rw [cur_end, List.set_append_right _ _ (Nat.le_refl _)]
  simp
theorem split_tail : ∀ m : Bytes, (∃ c ∈ m, c ≠ 48) → ∃ a d z, m = a ++ d :: List.replicate z 48 ∧ d ≠ 48
  | [], h => by obtain ⟨c, hc, _⟩ := h; cases hc
  | c :: m, h => by
    by_cases hm : ∃ c ∈ m, c ≠ 48
    · obtain ⟨a, d, z, e, hd⟩ := split_tail m hm
      exact ⟨c :: a, d, z, by rw [e]; rfl, hd⟩
    · have hall : ∀ x ∈ m, x = 48 := fun x hx => by
        by_cases h4 : x = 48
        · exact h4
        · exact absurd ⟨x, hx, h4⟩ hm
      have e : m = List.replicate m.length 48 := List.eq_replicate_of_mem hall
      refine ⟨[], c, m.length, by rw [← e]; rfl, ?_⟩
      obtain ⟨x, hx, hx4⟩ := h
      rcases List.mem_cons.1 hx with rfl | hx
      · exact hx4
      · exact absurd (hall x hx) hx4
end Go.Proofs.Ytdhibalpnccbiaa
