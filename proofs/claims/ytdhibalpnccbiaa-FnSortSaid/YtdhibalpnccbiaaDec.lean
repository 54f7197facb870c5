/- gover.DecInt and spec.Before. -/
import Derived.Test.YtdhibalpnccbiaaRow
import Derived.Test.YtdhibalpnccbiaaPlain3
namespace Go.Proofs.Ytdhibalpnccbiaa
open Go.RowKit
set_option linter.unusedVariables false

theorem cur_bl (a : Bytes) (d : UInt8) (z k : Nat) (h1 : a.length < k) : bl (cur a d z k) k = 48 := by
  unfold bl; rw [cur_at a d z k h1]; rfl
theorem first_bl (a : Bytes) (d : UInt8) (z : Nat) : bl (cur a d z a.length) a.length = d.toNat := by
  unfold bl; rw [cur_first]; rfl
theorem end_bl0 (a : Bytes) (e : UInt8) (z : Nat) (h : a ≠ []) : bl (a ++ e :: List.replicate z 57) 0 = bl a 0 := by
  unfold bl
  rw [List.getElem?_append_left (by cases a <;> simp_all)]
theorem toNat_pred (d : UInt8) (h : 1 ≤ d.toNat) : (d - 1).toNat = d.toNat - 1 := by
  rw [UInt8.toNat_sub_of_le _ _ (by rw [UInt8.le_iff_toNat_le]; exact h)]; rfl
theorem dec_first {d : UInt8} (h : d.toNat = 49) : d = 49 := UInt8.toNat_inj.1 h
set_option maxRecDepth 100000 in
set_option maxHeartbeats 2000000 in
theorem decInt_any (a : Bytes) (d : UInt8) (z : Nat) (w : World) (hl : a.length + z ≤ 1000) (h1 : 49 ≤ d.toNat) (h2 : d.toNat ≤ 57) (ha : a = [] ∨ bl a 0 ≠ 48) :
    Calls Try.prog 68 #[.string (bs (a ++ d :: List.replicate z 48))] w fun e w' => e = .returned (.string (bs (decR a d z))) ∧ Below w.heap.size w w' := by
  have hlen : (a ++ d :: List.replicate z 48).length = a.length + z + 1 := by simp; omega
  obtain ⟨W1, cap, hconv, hrow, hbel, hsize, hcap⟩ := conv_row (a ++ d :: List.replicate z 48) w
  rw [hlen] at hconv hcap
  rw [← cur_start] at hrow
  obtain ⟨q, hq⟩ : ∃ q, a.length = q := ⟨_, rfl⟩
  obtain ⟨D, hD⟩ : ∃ D, d.toNat = D := ⟨_, rfl⟩
  rw [hq] at hl hconv hcap hrow
  rw [hD] at h1 h2
  have HQ := Lib.hid hq
  have HDD := Lib.hid hD
  have HA := Lib.hid ha
  have HROW := Lib.hid hrow
  have HBEL := Lib.hid hbel
  clear hrow hbel hlen hsize hq hD ha
  generalize a ++ d :: List.replicate z 48 = l at *
  go_enter Try.func68, Try.ntmps68
  go_wp2
  go_loopw [4] (fun i wr => ∃ k : Nat, q ≤ k ∧ k ≤ q + z ∧ i = .int .i64 k ∧ BRow wr w.heap.size (cur a d z k) ∧ Below w.heap.size w wr) (fun i _ => (intOf i).toNat)
  case atStart => exact ⟨q + z, by omega, Nat.le_refl _, by go_num, HROW.out, HBEL.out⟩
  case round =>
    obtain ⟨k, hk1, hk2, rfl, hrow, hbel⟩ := hrel
    have hcl : (cur a d z k).length = q + z + 1 := by rw [cur_length a d z k (by rw [HQ.out]; exact hk1) (by rw [HQ.out]; exact hk2), HQ.out]
    by_cases hlt : q < k
    · have hlt' : a.length < k := by rw [HQ.out]; exact hlt
      have hc : wr.cell? ⟨w.heap.size, k, none⟩ = some (.int .u8 48) := by simpa [cur_bl a d z k hlt'] using (hrow k (by omega)).1
      have hf : wr.frozen? ⟨w.heap.size, k, none⟩ = false := (hrow k (by omega)).2
      have HR : Hid (BRow (wr.setCell ⟨w.heap.size, k, none⟩ (.int .u8 57)) w.heap.size (cur a d z (k - 1))) := by
        have h9 := hrow.set k (by omega) 57 57 rfl
        rw [cur_set a d z k hlt' (by rw [HQ.out]; exact hk2)] at h9
        exact h9
      have HB : Hid (Below w.heap.size w (wr.setCell ⟨w.heap.size, k, none⟩ (.int .u8 57))) := hbel.setCell (Nat.le_refl _) _
      have hk0 : 1 ≤ k := by omega
      clear hrow hbel hcl hlt'
      go_wp2
      go_roundw
      case rel => exact ⟨k - 1, by omega, by omega, by go_num, HR.out, HB.out⟩
      case measure => simp [intOf]; omega
    · obtain rfl : k = q := by omega
      have hc : wr.cell? ⟨w.heap.size, k, none⟩ = some (.int .u8 (D : Int)) := by
        have h9 := (hrow k (by omega)).1
        rwa [show bl (cur a d z k) k = D by rw [← HQ.out, first_bl, HDD.out]] at h9
      have hf : wr.frozen? ⟨w.heap.size, k, none⟩ = false := (hrow k (by omega)).2
      have e48 : ((D : Int) == 48) = false := beq_eq_false_iff_ne.2 (by omega)
      have HB := Lib.hid hbel
      have hset : BRow (wr.setCell ⟨w.heap.size, k, none⟩ (.int .u8 ((D : Int) - 1))) w.heap.size (a ++ (d - 1) :: List.replicate z 57) := by
        have h9 := hrow.set k (by omega) (d - 1) ((D : Int) - 1) (by rw [toNat_pred d (by rw [HDD.out]; omega), HDD.out]; omega)
        rwa [← HQ.out, end_set, HQ.out] at h9
      have HB2 : Hid (Below w.heap.size w (wr.setCell ⟨w.heap.size, k, none⟩ (.int .u8 ((D : Int) - 1)))) := hbel.setCell (Nat.le_refl _) _
      have hcl2 : (a ++ (d - 1) :: List.replicate z 57).length = k + z + 1 := by
        have h9 := HQ.out
        simp; omega
      have hd1 : 1 ≤ D := by omega
      by_cases hA : k = 0 ∧ D = 49 ∧ 0 < z
      · obtain ⟨rfl, rfl, hz⟩ := hA
        have ha0 : a = [] := List.eq_nil_of_length_eq_zero HQ.out
        have hd49 : d = 49 := dec_first HDD.out
        have HD : Hid (decR a d z = List.replicate z 57) := by show _ = _; simp [decR, hz, ha0, hd49]
        have HBK : Hid ((convert 59 9 (.slice (some ⟨w.heap.size, 1, none⟩) z (cap - 1))).run Try.prog wr = .ok (.string (bs (List.replicate z 57))) wr) := by
          have h9 := BRow.back hrow 1 (cap - 1) z (by omega)
          rw [show (0 : Nat) = a.length by rw [ha0]; rfl, cur_end, ha0] at h9
          exact h9
        have hb := HBK.out
        have hcap1 : 1 < cap := by omega
        clear hrow hbel hcl hset hcl2 ha0 hd49
        go_wp2
        go_ret
        exact ⟨by rw [HD.out]; rfl, HB.out⟩
      · have HD : Hid (decR a d z = a ++ (d - 1) :: List.replicate z 57) := by
          show _ = _
          unfold decR
          rw [if_neg]
          rintro ⟨h8, h9, h10⟩
          subst h8 h9
          have h11 := HQ.out
          have h12 := HDD.out
          exact hA ⟨h11.symm, h12.symm, h10⟩
        have HBK : Hid ((convert 59 9 (.slice (some ⟨w.heap.size, 0, none⟩) (k + z + 1) cap)).run Try.prog (wr.setCell ⟨w.heap.size, k, none⟩ (.int .u8 ((D : Int) - 1))) = .ok (.string (bs (a ++ (d - 1) :: List.replicate z 57))) (wr.setCell ⟨w.heap.size, k, none⟩ (.int .u8 ((D : Int) - 1)))) :=
          BRow.back hset 0 cap (k + z + 1) (by omega)
        have hb := HBK.out
        have hw : (k = 0 ∧ D = 49 ∧ z = 0) ∨ (k = 0 ∧ ¬ D = 49) ∨ 0 < k := by omega
        clear hrow hbel hcl hset hcl2 hA
        rcases hw with ⟨h3, h4, h5⟩ | ⟨h3, h4⟩ | h3
        · have e0 : ((k : Int) == 0) = true := by simp; omega
          have e49 : ((D : Int) == 49) = true := by simp; omega
          have hz : k + z + 1 ≤ 1 := by omega
          clear h3 h4 h5
          go_wp2
          go_ret
          exact ⟨by rw [HD.out]; rfl, HB2.out⟩
        · have e49 : ((D : Int) == 49) = false := beq_eq_false_iff_ne.2 (by omega)
          have e0 : ((k : Int) == 0) = true := by simp; omega
          clear h3 h4
          go_wp2
          go_ret
          exact ⟨by rw [HD.out]; rfl, HB2.out⟩
        · have e0 : ((k : Int) == 0) = false := beq_eq_false_iff_ne.2 (by omega)
          go_wp2
          go_ret
          exact ⟨by rw [HD.out]; rfl, HB2.out⟩
set_option maxRecDepth 100000 in
set_option maxHeartbeats 2000000 in
theorem before_any (a : Bytes) (d : UInt8) (z : Nat) (w : World) (hl : a.length + z ≤ 1000) (h1 : 49 ≤ d.toNat) (h2 : d.toNat ≤ 57) (ha : a = [] ∨ bl a 0 ≠ 48) :
    Calls Try.prog 28 #[.string (bs (a ++ d :: List.replicate z 48))] w fun e w' => e = .returned (.string (bs (decR a d z))) ∧ Below w.heap.size w w' := by
  have hlen : (a ++ d :: List.replicate z 48).length = a.length + z + 1 := by simp; omega
  obtain ⟨W1, cap, hconv, hrow, hbel, hsize, hcap⟩ := conv_row (a ++ d :: List.replicate z 48) w
  rw [hlen] at hconv hcap
  rw [← cur_start] at hrow
  obtain ⟨q, hq⟩ : ∃ q, a.length = q := ⟨_, rfl⟩
  obtain ⟨D, hD⟩ : ∃ D, d.toNat = D := ⟨_, rfl⟩
  rw [hq] at hl hconv hcap hrow
  rw [hD] at h1 h2
  have HQ := Lib.hid hq
  have HDD := Lib.hid hD
  have HA := Lib.hid ha
  have HROW := Lib.hid hrow
  have HBEL := Lib.hid hbel
  clear hrow hbel hlen hsize hq hD ha
  generalize a ++ d :: List.replicate z 48 = l at *
  go_enter Try.func28, Try.ntmps28
  go_wp2
  go_loopw [4] (fun i wr => ∃ k : Nat, q ≤ k ∧ k ≤ q + z ∧ i = .int .i64 k ∧ BRow wr w.heap.size (cur a d z k) ∧ Below w.heap.size w wr) (fun i _ => (intOf i).toNat)
  case atStart => exact ⟨q + z, by omega, Nat.le_refl _, by go_num, HROW.out, HBEL.out⟩
  case round =>
    obtain ⟨k, hk1, hk2, rfl, hrow, hbel⟩ := hrel
    have hcl : (cur a d z k).length = q + z + 1 := by rw [cur_length a d z k (by rw [HQ.out]; exact hk1) (by rw [HQ.out]; exact hk2), HQ.out]
    by_cases hlt : q < k
    · have hlt' : a.length < k := by rw [HQ.out]; exact hlt
      have hc : wr.cell? ⟨w.heap.size, k, none⟩ = some (.int .u8 48) := by simpa [cur_bl a d z k hlt'] using (hrow k (by omega)).1
      have hf : wr.frozen? ⟨w.heap.size, k, none⟩ = false := (hrow k (by omega)).2
      have HR : Hid (BRow (wr.setCell ⟨w.heap.size, k, none⟩ (.int .u8 57)) w.heap.size (cur a d z (k - 1))) := by
        have h9 := hrow.set k (by omega) 57 57 rfl
        rw [cur_set a d z k hlt' (by rw [HQ.out]; exact hk2)] at h9
        exact h9
      have HB : Hid (Below w.heap.size w (wr.setCell ⟨w.heap.size, k, none⟩ (.int .u8 57))) := hbel.setCell (Nat.le_refl _) _
      have hk0 : 1 ≤ k := by omega
      clear hrow hbel hcl hlt'
      go_wp2
      go_roundw
      case rel => exact ⟨k - 1, by omega, by omega, by go_num, HR.out, HB.out⟩
      case measure => simp [intOf]; omega
    · obtain rfl : k = q := by omega
      have hc : wr.cell? ⟨w.heap.size, k, none⟩ = some (.int .u8 (D : Int)) := by
        have h9 := (hrow k (by omega)).1
        rwa [show bl (cur a d z k) k = D by rw [← HQ.out, first_bl, HDD.out]] at h9
      have hf : wr.frozen? ⟨w.heap.size, k, none⟩ = false := (hrow k (by omega)).2
      have e48 : ((D : Int) == 48) = false := beq_eq_false_iff_ne.2 (by omega)
      have HB := Lib.hid hbel
      have hset : BRow (wr.setCell ⟨w.heap.size, k, none⟩ (.int .u8 ((D : Int) - 1))) w.heap.size (a ++ (d - 1) :: List.replicate z 57) := by
        have h9 := hrow.set k (by omega) (d - 1) ((D : Int) - 1) (by rw [toNat_pred d (by rw [HDD.out]; omega), HDD.out]; omega)
        rwa [← HQ.out, end_set, HQ.out] at h9
      have HB2 : Hid (Below w.heap.size w (wr.setCell ⟨w.heap.size, k, none⟩ (.int .u8 ((D : Int) - 1)))) := hbel.setCell (Nat.le_refl _) _
      have hcl2 : (a ++ (d - 1) :: List.replicate z 57).length = k + z + 1 := by
        have h9 := HQ.out
        simp; omega
      have hd1 : 1 ≤ D := by omega
      by_cases hA : k = 0 ∧ D = 49 ∧ 0 < z
      · obtain ⟨rfl, rfl, hz⟩ := hA
        have ha0 : a = [] := List.eq_nil_of_length_eq_zero HQ.out
        have hd49 : d = 49 := dec_first HDD.out
        have HD : Hid (decR a d z = List.replicate z 57) := by show _ = _; simp [decR, hz, ha0, hd49]
        have hc2 : (wr.setCell ⟨w.heap.size, 0, none⟩ (.int .u8 48)).cell? ⟨w.heap.size, 0, none⟩ = some (.int .u8 48) := World.cell?_setCell_same _ _ _ hc
        have HBK : Hid ((convert 59 9 (.slice (some ⟨w.heap.size, 1, none⟩) z (cap - 1))).run Try.prog (wr.setCell ⟨w.heap.size, 0, none⟩ (.int .u8 48)) = .ok (.string (bs (List.replicate z 57))) (wr.setCell ⟨w.heap.size, 0, none⟩ (.int .u8 48))) := by
          have h9 := BRow.back hset 1 (cap - 1) z (by omega)
          rw [ha0] at h9
          exact h9
        have hb := HBK.out
        have hcap1 : 1 < cap := by omega
        clear hrow hbel hcl hset hcl2 ha0 hd49
        go_wp2
        go_ret
        exact ⟨by rw [HD.out]; rfl, HB2.out⟩
      · have HD : Hid (decR a d z = a ++ (d - 1) :: List.replicate z 57) := by
          show _ = _
          unfold decR
          rw [if_neg]
          rintro ⟨h8, h9, h10⟩
          subst h8 h9
          have h11 := HQ.out
          have h12 := HDD.out
          exact hA ⟨h11.symm, h12.symm, h10⟩
        have HBK : Hid ((convert 59 9 (.slice (some ⟨w.heap.size, 0, none⟩) (k + z + 1) cap)).run Try.prog (wr.setCell ⟨w.heap.size, k, none⟩ (.int .u8 ((D : Int) - 1))) = .ok (.string (bs (a ++ (d - 1) :: List.replicate z 57))) (wr.setCell ⟨w.heap.size, k, none⟩ (.int .u8 ((D : Int) - 1)))) :=
          BRow.back hset 0 cap (k + z + 1) (by omega)
        have hb := HBK.out
        have hw : (k = 0 ∧ z = 0) ∨ (k = 0 ∧ 0 < z ∧ ¬ D = 49) ∨ 0 < k := by omega
        have hc2 : (wr.setCell ⟨w.heap.size, k, none⟩ (.int .u8 ((D : Int) - 1))).cell? ⟨w.heap.size, k, none⟩ = some (.int .u8 ((D : Int) - 1)) := World.cell?_setCell_same _ _ _ hc
        have hc3 : 0 < k → ∃ b0 : Nat, b0 ≠ 48 ∧ (wr.setCell ⟨w.heap.size, k, none⟩ (.int .u8 ((D : Int) - 1))).cell? ⟨w.heap.size, 0, none⟩ = some (.int .u8 (b0 : Int)) := fun h3 => by
          have hne : a ≠ [] := by intro e; rw [e] at HQ; have := HQ.out; simp at this; omega
          refine ⟨bl a 0, ?_, ?_⟩
          · rcases HA.out with h9 | h9
            · exact absurd h9 hne
            · exact h9
          · have h9 := (hset 0 (by omega)).1
            rwa [end_bl0 a _ z hne] at h9
        have HC3 := Lib.hid hc3
        clear hrow hbel hcl hset hcl2 hA hc3
        rcases hw with ⟨h3, h4⟩ | ⟨h5, h4, h3⟩ | h3
        · have hz : k + z + 1 ≤ 1 := by omega
          clear h3 h4
          go_wp2
          go_ret
          exact ⟨by rw [HD.out]; rfl, HB2.out⟩
        · have e49 : ((D : Int) - 1 == 48) = false := beq_eq_false_iff_ne.2 (by omega)
          have hcb : (wr.setCell ⟨w.heap.size, k, none⟩ (.int .u8 ((D : Int) - 1))).cell? ⟨w.heap.size, 0, none⟩ = some (.int .u8 ((D : Int) - 1)) := by rw [h5] at hc2 ⊢; exact hc2
          have hz : 1 < k + z + 1 := by omega
          have hk0 : ¬ 0 < k := by omega
          clear h3 h4 h5
          go_wp2
          go_ret
          exact ⟨by rw [HD.out]; rfl, HB2.out⟩
        · obtain ⟨b0, hb0, hcb⟩ := HC3.out h3
          have e0 : ((b0 : Int) == 48) = false := beq_eq_false_iff_ne.2 (by omega)
          go_wp2
          go_ret
          exact ⟨by rw [HD.out]; rfl, HB2.out⟩
end Go.Proofs.Ytdhibalpnccbiaa
