/- Plain: numbers as texts are ordered as numbers are. -/
import Derived.Test.YtdhibalpnccbiaaPlain4
namespace Go.Proofs.Ytdhibalpnccbiaa
set_option linter.unusedVariables false
def val : Bytes → Nat
  | [] => 0
  | c :: r => (c.toNat - 48) * 10 ^ r.length + val r
theorem isD_iff (c : UInt8) : isD c = true ↔ 48 ≤ c.toNat ∧ c.toNat ≤ 57 := by simp [isD]
theorem val_lt : ∀ l : Bytes, l.all isD = true → val l < 10 ^ l.length
  | [], _ => by simp [val]
  | c :: r, h => by
    rw [List.all_cons, Bool.and_eq_true, isD_iff] at h
    have ih := val_lt r h.2
    have h9 : (c.toNat - 48) * 10 ^ r.length ≤ 9 * 10 ^ r.length := Nat.mul_le_mul_right _ (by omega)
    simp only [val, List.length_cons, Nat.pow_succ]
    omega
theorem lt_iff_toNat (c d : UInt8) : c < d ↔ c.toNat < d.toNat := UInt8.lt_iff_toNat_lt
theorem val_lex : ∀ (a b : Bytes), a.length = b.length → a.all isD = true → b.all isD = true → (a < b ↔ val a < val b)
  | [], [], _, _, _ => by simp [val]
  | [], d :: b, h, _, _ => by simp at h
  | c :: a, [], h, _, _ => by simp at h
  | c :: a, d :: b, h, ha, hb => by
    rw [List.all_cons, Bool.and_eq_true, isD_iff] at ha hb
    have hl : a.length = b.length := by simpa using h
    have ih := val_lex a b hl ha.2 hb.2
    have va := val_lt a ha.2
    have vb := val_lt b hb.2
    rw [List.cons_lt_cons_iff, ih, lt_iff_toNat]
    simp only [val, hl] at *
    generalize 10 ^ b.length = P at *
    constructor
    · rintro (h1 | ⟨h1, h2⟩)
      · have h3 : (c.toNat - 48 + 1) * P ≤ (d.toNat - 48) * P := Nat.mul_le_mul_right _ (by omega)
        rw [Nat.add_mul] at h3
        omega
      · rw [h1]; omega
    · intro h1
      rcases Nat.lt_trichotomy c.toNat d.toNat with h2 | h2 | h2
      · exact .inl h2
      · have h3 : c = d := UInt8.toNat_inj.1 h2
        subst h3
        exact .inr ⟨rfl, by omega⟩
      · have h3 : (d.toNat - 48 + 1) * P ≤ (c.toNat - 48) * P := Nat.mul_le_mul_right _ (by omega)
        rw [Nat.add_mul] at h3
        omega
theorem val_inj : ∀ (a b : Bytes), a.length = b.length → a.all isD = true → b.all isD = true → val a = val b → a = b
  | [], [], _, _, _, _ => rfl
  | [], d :: b, h, _, _, _ => by simp at h
  | c :: a, [], h, _, _, _ => by simp at h
  | c :: a, d :: b, h, ha, hb, hv => by
    rw [List.all_cons, Bool.and_eq_true, isD_iff] at ha hb
    have hl : a.length = b.length := by simpa using h
    have va := val_lt a ha.2
    have vb := val_lt b hb.2
    have ih := val_inj a b hl ha.2 hb.2
    simp only [val, hl] at hv va
    generalize 10 ^ b.length = P at *
    have hcd : c.toNat = d.toNat := by
      rcases Nat.lt_trichotomy c.toNat d.toNat with h2 | h2 | h2
      · have h3 : (c.toNat - 48 + 1) * P ≤ (d.toNat - 48) * P := Nat.mul_le_mul_right _ (by omega)
        rw [Nat.add_mul] at h3
        omega
      · exact h2
      · have h3 : (d.toNat - 48 + 1) * P ≤ (c.toNat - 48) * P := Nat.mul_le_mul_right _ (by omega)
        rw [Nat.add_mul] at h3
        omega
    have h3 : c = d := UInt8.toNat_inj.1 hcd
    subst h3
    rw [ih (by omega)]
/-- A number of two figures or more begins with none that is nought. -/
theorem num_low {t : Bytes} (h : Num t) (h2 : 2 ≤ t.length) : 10 ^ (t.length - 1) ≤ val t := by
  obtain ⟨hg, hd⟩ := h
  cases t with
  | nil => simp at h2
  | cons c r =>
    rw [List.all_cons, Bool.and_eq_true, isD_iff] at hd
    have hc : c ≠ 48 := by
      cases r with
      | nil => simp at h2
      | cons => simpa [good] using hg
    have hc' : c.toNat ≠ 48 := fun e => hc (UInt8.toNat_inj.1 (by rw [e]; rfl))
    have h3 : 1 * 10 ^ r.length ≤ (c.toNat - 48) * 10 ^ r.length := Nat.mul_le_mul_right _ (by omega)
    simp only [val, List.length_cons, Nat.add_sub_cancel]
    omega
theorem num_pos {t : Bytes} (h : Num t) : 1 ≤ t.length := List.length_pos_iff.2 (good_ne h.good)
theorem len_lt {a b : Bytes} (ha : Num a) (hb : Num b) (h : a.length < b.length) : val a < val b := by
  have h1 := val_lt a ha.dig
  have h2 := num_low hb (by have := num_pos ha; omega)
  have h3 : 10 ^ a.length ≤ 10 ^ (b.length - 1) := Nat.pow_le_pow_right (by omega) (by omega)
  omega
theorem cmpB_val {a b : Bytes} (ha : Num a) (hb : Num b) : (val a < val b ∧ cmpB a b = -1) ∨ (a = b ∧ cmpB a b = 0) ∨ (val b < val a ∧ cmpB a b = 1) := by
  unfold cmpB
  by_cases h : a = b
  · exact .inr (.inl ⟨h, by rw [if_pos h]⟩)
  · rw [if_neg h]
    rcases Nat.lt_trichotomy a.length b.length with h1 | h1 | h1
    · exact .inl ⟨len_lt ha hb h1, by rw [if_pos h1]⟩
    · rw [if_neg (by omega), if_neg (by omega)]
      have h2 := val_lex a b h1 ha.dig hb.dig
      by_cases h3 : a < b
      · exact .inl ⟨h2.1 h3, by rw [if_pos h3]⟩
      · refine .inr (.inr ⟨?_, by rw [if_neg h3]⟩)
        have h4 : ¬ val a < val b := fun h5 => h3 (h2.2 h5)
        have h5 : val a ≠ val b := fun h6 => h (val_inj a b h1 ha.dig hb.dig h6)
        omega
    · exact .inr (.inr ⟨len_lt hb ha h1, by rw [if_neg (by omega), if_pos h1]⟩)
theorem cmpB_neg {a b : Bytes} (ha : Num a) (hb : Num b) : cmpB a b < 0 ↔ val a < val b := by
  rcases cmpB_val ha hb with ⟨h, e⟩ | ⟨rfl, e⟩ | ⟨h, e⟩ <;> rw [e] <;> omega
theorem cmpB_pos {a b : Bytes} (ha : Num a) (hb : Num b) : 0 < cmpB a b ↔ val b < val a := by
  rcases cmpB_val ha hb with ⟨h, e⟩ | ⟨rfl, e⟩ | ⟨h, e⟩ <;> rw [e] <;> omega
theorem num_inj {a b : Bytes} (ha : Num a) (hb : Num b) (h : val a = val b) : a = b := by
  rcases cmpB_val ha hb with ⟨h1, e⟩ | ⟨h1, e⟩ | ⟨h1, e⟩
  · omega
  · exact h1
  · omega
theorem num1 : Num [49] := ⟨rfl, rfl⟩
theorem num2 : Num [50] := ⟨rfl, rfl⟩
theorem num21 : Num [50, 49] := ⟨rfl, rfl⟩

theorem val_append (a b : Bytes) : val (a ++ b) = val a * 10 ^ b.length + val b := by
  induction a with
  | nil => simp [val]
  | cons c a ih =>
    simp only [List.cons_append, val, List.length_append, ih, Nat.pow_add, Nat.add_mul, Nat.mul_assoc, Nat.add_assoc]
theorem val_zeros (z : Nat) : val (List.replicate z 48) = 0 := by
  induction z with
  | zero => rfl
  | succ z ih => rw [List.replicate_succ]; simp [val, ih]
theorem val_nines (z : Nat) : val (List.replicate z 57) + 1 = 10 ^ z := by
  induction z with
  | zero => rfl
  | succ z ih =>
    rw [List.replicate_succ]
    simp only [val, List.length_replicate, Nat.pow_succ]
    have : (57 : UInt8).toNat = 57 := rfl
    rw [this]
    omega
theorem all_replicate (z : Nat) (c : UInt8) (h : isD c = true) : (List.replicate z c).all isD = true := by
  rw [List.all_eq_true]; intro x hx; rw [(List.mem_replicate.1 hx).2]; exact h
/-- The number ahead is a number, less by one. -/
theorem decR_num {a : Bytes} {d : UInt8} {z : Nat} (h : Num (a ++ d :: List.replicate z 48)) (hd : d ≠ 48) (h2 : 2 ≤ val (a ++ d :: List.replicate z 48)) :
    Num (decR a d z) ∧ val (decR a d z) + 1 = val (a ++ d :: List.replicate z 48) ∧ 49 ≤ d.toNat ∧ d.toNat ≤ 57 ∧ (a = [] ∨ (a[0]?.getD 0).toNat ≠ 48) := by
  obtain ⟨hg, hdig⟩ := h
  have hd' : d.toNat ≠ 48 := fun e => hd (UInt8.toNat_inj.1 (by rw [e]; rfl))
  rw [List.all_append, List.all_cons, Bool.and_eq_true, Bool.and_eq_true, isD_iff] at hdig
  obtain ⟨da, dd, _⟩ := hdig
  have hp : (d - 1).toNat = d.toNat - 1 := by
    rw [UInt8.toNat_sub_of_le _ _ (by rw [UInt8.le_iff_toNat_le]; have : (1 : UInt8).toNat = 1 := rfl; omega)]; rfl
  have v1 : val (a ++ d :: List.replicate z 48) = val a * 10 ^ (z + 1) + (d.toNat - 48) * 10 ^ z := by
    rw [val_append]; simp [val, val_zeros]
  have v2 : val (a ++ (d - 1) :: List.replicate z 57) + 1 = val a * 10 ^ (z + 1) + (d.toNat - 48) * 10 ^ z := by
    rw [val_append]
    simp only [val, List.length_cons, List.length_replicate, hp]
    have h9 := val_nines z
    have h10 : (d.toNat - 1 - 48) * 10 ^ z + 10 ^ z = (d.toNat - 48) * 10 ^ z := by
      rw [show d.toNat - 48 = (d.toNat - 1 - 48) + 1 by omega, Nat.add_mul, Nat.one_mul]
    omega
  have hfirst : a = [] ∨ (a[0]?.getD 0).toNat ≠ 48 := by
    cases a with
    | nil => exact .inl rfl
    | cons c r =>
      refine .inr ?_
      have : c ≠ 48 := by
        have : (c :: r) ++ d :: List.replicate z 48 = c :: (r ++ d :: List.replicate z 48) := rfl
        rw [this] at hg
        unfold good at hg
        simpa using hg
      intro e
      exact this (UInt8.toNat_inj.1 (by simpa using e))
  refine ⟨?_, ?_, by omega, by omega, hfirst⟩
  · unfold decR
    split
    · rename_i hc
      obtain ⟨rfl, rfl, hz⟩ := hc
      obtain ⟨y, rfl⟩ : ∃ y, z = y + 1 := ⟨z - 1, by omega⟩
      refine ⟨?_, all_replicate _ _ rfl⟩
      rw [List.replicate_succ]; simp [good]
    · rename_i hc
      refine ⟨?_, ?_⟩
      · cases a with
        | nil =>
          rw [List.nil_append]
          unfold good
          by_cases hz : 0 < z
          · have : d - 1 ≠ 48 := by
              intro e
              have e2 : (d - 1).toNat = 48 := by rw [e]; rfl
              exact hc ⟨rfl, UInt8.toNat_inj.1 (by rw [show d.toNat = 49 by omega]; rfl), hz⟩
            simp [this]
          · obtain rfl : z = 0 := by omega
            simp
        | cons c r =>
          rcases hfirst with h | h
          · cases h
          · have : c ≠ 48 := by intro e; subst e; exact h rfl
            simp [good, this]
      · rw [List.all_append, List.all_cons, da, all_replicate _ _ rfl]
        simp only [Bool.and_true, Bool.true_and]
        rw [isD_iff, hp]
        omega
  · unfold decR
    split
    · rename_i hc
      obtain ⟨rfl, rfl, hz⟩ := hc
      have h9 := val_nines z
      rw [v1]
      have : (49 : UInt8).toNat = 49 := rfl
      simp [val, this]
      omega
    · rw [v2, v1]
theorem dec_make {m : Bytes} (h : Num m) (h2 : 2 ≤ val m) : ∃ a d z, m = a ++ d :: List.replicate z 48 ∧ d ≠ 48 := by
  refine split_tail m ?_
  by_cases hc : ∃ c ∈ m, c ≠ 48
  · exact hc
  · have hall : ∀ x ∈ m, x = 48 := fun x hx => by
      by_cases h4 : x = 48
      · exact h4
      · exact absurd ⟨x, hx, h4⟩ hc
    have e : m = List.replicate m.length 48 := List.eq_replicate_of_mem hall
    rw [e, val_zeros] at h2
    omega
end Go.Proofs.Ytdhibalpnccbiaa
