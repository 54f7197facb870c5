/- spec.Toolchain. -/
import Derived.Test.YtdhibalpnccbiaaTool
namespace Go.Proofs.Ytdhibalpnccbiaa
open Go.RowKit
set_option linter.unusedVariables false
theorem stroke_bl (l : Bytes) (k : Nat) (h : k < l.length) : notIn [92, 47] l[k] = (!(bl l k == 47) && !(bl l k == 92)) := by
  rw [bl_get l k h]
  have e1 : (l[k].toNat == 47) = (l[k] == 47) := by rw [Bool.eq_iff_iff]; simp only [beq_iff_eq]; exact ⟨fun e => UInt8.toNat_inj.1 e, fun e => by rw [e]; rfl⟩
  have e2 : (l[k].toNat == 92) = (l[k] == 92) := by rw [Bool.eq_iff_iff]; simp only [beq_iff_eq]; exact ⟨fun e => UInt8.toNat_inj.1 e, fun e => by rw [e]; rfl⟩
  rw [e1, e2]
  unfold notIn
  cases h1 : l[k] == 47 <;> cases h2 : l[k] == 92 <;> simp_all
theorem seps_bl (l : Bytes) (k : Nat) (h : k < l.length) : notIn [32, 9, 45] l[k] = (!(bl l k == 45) && (!(bl l k == 32) && !(bl l k == 9))) := by
  rw [bl_get l k h]
  have e0 : (l[k].toNat == 45) = (l[k] == 45) := by rw [Bool.eq_iff_iff]; simp only [beq_iff_eq]; exact ⟨fun e => UInt8.toNat_inj.1 e, fun e => by rw [e]; rfl⟩
  have e1 : (l[k].toNat == 32) = (l[k] == 32) := by rw [Bool.eq_iff_iff]; simp only [beq_iff_eq]; exact ⟨fun e => UInt8.toNat_inj.1 e, fun e => by rw [e]; rfl⟩
  have e2 : (l[k].toNat == 9) = (l[k] == 9) := by rw [Bool.eq_iff_iff]; simp only [beq_iff_eq]; exact ⟨fun e => UInt8.toNat_inj.1 e, fun e => by rw [e]; rfl⟩
  rw [e0, e1, e2]
  unfold notIn
  cases h0 : l[k] == 45 <;> cases h1 : l[k] == 32 <;> cases h2 : l[k] == 9 <;> simp_all
def tv (r : Bytes × Nat) : Value := .tuple #[.string (bs r.1), .int .i64 (r.2 : Int)]
theorem int_beq (n m : Nat) : ((n : Int) == (m : Int)) = (n == m) := by
  cases h : n == m
  · simp at h; exact beq_eq_false_iff_ne.2 (by omega)
  · simp at h; subst h; simp
theorem stroke_in {l : Bytes} {k : Nat} (h : k < l.length) (hin : notIn [92, 47] l[k] = true) : ((bl l k : Int) == 47) = false ∧ ((bl l k : Int) == 92) = false := by
  have hb := stroke_bl l k h
  rw [hin] at hb
  have a := int_beq (bl l k) 47
  have b := int_beq (bl l k) 92
  cases h9 : bl l k == 47 <;> cases h10 : bl l k == 92 <;> rw [h9, h10] at hb
  · exact ⟨a.trans h9, b.trans h10⟩
  · cases hb
  · cases hb
  · cases hb
theorem stroke_out {l : Bytes} {k : Nat} (h : k < l.length) (hin : notIn [92, 47] l[k] = false) : ((bl l k : Int) == 47) = true ∨ (((bl l k : Int) == 47) = false ∧ ((bl l k : Int) == 92) = true) := by
  have hb := stroke_bl l k h
  rw [hin] at hb
  have a := int_beq (bl l k) 47
  have b := int_beq (bl l k) 92
  cases h9 : bl l k == 47 <;> cases h10 : bl l k == 92 <;> rw [h9, h10] at hb
  · cases hb
  · exact .inr ⟨a.trans h9, b.trans h10⟩
  · exact .inl (a.trans h9)
  · exact .inl (a.trans h9)
theorem seps_in {l : Bytes} {k : Nat} (h : k < l.length) (hin : notIn [32, 9, 45] l[k] = true) : ((bl l k : Int) == 45) = false ∧ ((bl l k : Int) == 32) = false ∧ ((bl l k : Int) == 9) = false := by
  have hb := seps_bl l k h
  rw [hin] at hb
  have a := int_beq (bl l k) 45
  have b := int_beq (bl l k) 32
  have c := int_beq (bl l k) 9
  cases h9 : bl l k == 45 <;> cases h10 : bl l k == 32 <;> cases h11 : bl l k == 9 <;> rw [h9, h10, h11] at hb <;> first | exact ⟨a.trans h9, b.trans h10, c.trans h11⟩ | cases hb
theorem seps_out {l : Bytes} {k : Nat} (h : k < l.length) (hin : notIn [32, 9, 45] l[k] = false) : ((bl l k : Int) == 45) = true ∨ (((bl l k : Int) == 45) = false ∧ ((bl l k : Int) == 32) = true) ∨ (((bl l k : Int) == 45) = false ∧ ((bl l k : Int) == 32) = false ∧ ((bl l k : Int) == 9) = true) := by
  have hb := seps_bl l k h
  rw [hin] at hb
  have a := int_beq (bl l k) 45
  have b := int_beq (bl l k) 32
  have c := int_beq (bl l k) 9
  cases h9 : bl l k == 45 <;> cases h10 : bl l k == 32 <;> cases h11 : bl l k == 9 <;> rw [h9, h10, h11] at hb <;> first | exact .inl (a.trans h9) | exact .inr (.inl ⟨a.trans h9, b.trans h10⟩) | exact .inr (.inr ⟨a.trans h9, b.trans h10, c.trans h11⟩) | cases hb
set_option maxRecDepth 100000 in
set_option maxHeartbeats 1000000 in
theorem tool_no (l : Bytes) (w : World) (hl : l.length ≤ maxLen) (h : l.take 2 ≠ [103, 111]) :
    Calls Try.prog 29 #[.string (bs l)] w fun e w' => e = .returned (tv ([], 1)) ∧ Below w.heap.size w w' := by
  unfold maxLen at hl
  have h2 : (l.take 2 == [103, 111]) = false := beq_eq_false_iff_ne.2 h
  clear h
  by_cases hlen : l.length < 2
  · go_enter Try.func29, Try.ntmps29
    go_wp2
    go_ret2
    exact ⟨rfl, Below.refl _ _⟩
  · go_enter Try.func29, Try.ntmps29
    go_wp2
    go_ret2
    exact ⟨rfl, Below.refl _ _⟩
set_option maxRecDepth 100000 in
set_option maxHeartbeats 1000000 in
theorem tool_stroke (l : Bytes) (w : World) (hl : l.length ≤ maxLen) (h : l.take 2 = [103, 111]) (hs : hasStroke l = true) :
    Calls Try.prog 29 #[.string (bs l)] w fun e w' => e = .returned (tv ([], 0)) ∧ Below w.heap.size w w' := by
  unfold maxLen at hl
  have h2 : (l.take 2 == [103, 111]) = true := by rw [h]; rfl
  have hlen : 2 ≤ l.length := by have := congrArg List.length h; simp at this; omega
  have HT : Hid (tw (notIn [92, 47]) l < l.length) := by show _ < _; simpa [hasStroke] using hs
  clear h hs
  go_enter Try.func29, Try.ntmps29
  go_wp2
  go_loop [19] (fun i => ∃ k : Nat, k ≤ l.length ∧ k ≤ tw (notIn [92, 47]) l ∧ i = .int .i64 k) (fun i => l.length - (intOf i).toNat)
  case atStart => exact ⟨0, Nat.zero_le _, Nat.zero_le _, rfl⟩
  case round =>
    obtain ⟨k, hk, hkt, rfl⟩ := hrel
    have hlt : k < l.length := by have := HT.out; omega
    by_cases hin : notIn [92, 47] l[k] = true
    · have hn := tw_step _ l k hlt hkt hin
      obtain ⟨e1, e2⟩ := stroke_in hlt hin
      clear hin
      go_wp2
      go_round
      case rel => exact ⟨k + 1, by omega, by omega, by go_num⟩
      case measure => simp [intOf]; omega
    · have e1 := stroke_out hlt (by simpa using hin)
      clear hin
      rcases e1 with e1 | ⟨e1, e2⟩
      all_goals
        go_wp2
        go_ret2
        exact ⟨rfl, Below.refl _ _⟩
set_option maxRecDepth 100000 in
set_option maxHeartbeats 1000000 in
theorem tool_yes (l : Bytes) (w : World) (hl : l.length ≤ maxLen) (h : l.take 2 = [103, 111]) (hs : hasStroke l = false) (r : GV × Nat) (hr : read (bare (l.drop 2)) = r) (T : Bytes × Nat) (hT : T = if r.2 = 2 then ([], 1) else (bare (l.drop 2), r.2)) :
    Calls Try.prog 29 #[.string (bs l)] w fun e w' => e = .returned (tv T) ∧ Below w.heap.size w w' := by
  have HB : Hid ((bare (l.drop 2)).length ≤ maxLen) := by show _ ≤ _; unfold bare; rw [List.length_take, List.length_drop]; omega
  unfold maxLen at hl
  have h2 : (l.take 2 == [103, 111]) = true := by rw [h]; rfl
  have hlen : 2 ≤ l.length := by have := congrArg List.length h; simp at this; omega
  have HT : Hid (¬ tw (notIn [92, 47]) l < l.length) := by show ¬ _; simpa [hasStroke] using hs
  have HR := Lib.hid hr
  have HTT := Lib.hid hT
  clear h hs hr hT
  have hvl : (l.drop 2).length ≤ 9223372036854775807 := by rw [List.length_drop]; omega
  go_enter Try.func29, Try.ntmps29
  go_wp2
  go_loop [19] (fun i => ∃ k : Nat, k ≤ l.length ∧ k ≤ tw (notIn [92, 47]) l ∧ i = .int .i64 k) (fun i => l.length - (intOf i).toNat)
  case atStart => exact ⟨0, Nat.zero_le _, Nat.zero_le _, rfl⟩
  case round =>
    obtain ⟨k, hk, hkt, rfl⟩ := hrel
    by_cases hlt : k < l.length
    · have hin : notIn [92, 47] l[k] = true := tw_at _ l k hlt (by have := HT.out; have := tw_le (notIn [92, 47]) l; omega)
      have hn := tw_step _ l k hlt hkt hin
      obtain ⟨e1, e2⟩ := stroke_in hlt hin
      clear hin
      go_wp2
      go_round
      case rel => exact ⟨k + 1, by omega, by omega, by go_num⟩
      case measure => simp [intOf]; omega
    · clear hkt
      have hv1 : (l.drop 2).length ≤ l.length - 2 := by rw [List.length_drop]; omega
      have hv2 : l.length - 2 ≤ (l.drop 2).length := by rw [List.length_drop]; omega
      have HV1 := Lib.hid hv1
      have HV2 := Lib.hid hv2
      have HVL := Lib.hid hvl
      clear hv1 hv2 hvl
      go_wp2
      generalize List.drop 2 l = v at *
      have hv1 := HV1.out
      have hv2 := HV2.out
      have hvl := HVL.out
      clear HV1 HV2 HVL
      obtain ⟨nn, hnn⟩ : ∃ nn, l.length - 2 = nn := ⟨_, rfl⟩
      rw [hnn] at hv1 hv2 ⊢
      clear hnn
      go_loop [5, 37] (fun v5 i => v5 = .string (bs v) ∧ ∃ j : Nat, j ≤ nn ∧ j ≤ tw (notIn [32, 9, 45]) v ∧ i = .int .i64 j) (fun _ i => nn - (intOf i).toNat)
      case atStart => exact ⟨rfl, 0, Nat.zero_le _, Nat.zero_le _, rfl⟩
      case round =>
        obtain ⟨rfl, j, hj, hjt, rfl⟩ := hrel
        by_cases hjl : j < nn
        · have hjv : j < v.length := by omega
          by_cases hin : notIn [32, 9, 45] v[j] = true
          · have hn := tw_step _ v j hjv hjt hin
            obtain ⟨e1, e2, e3⟩ := seps_in hjv hin
            clear hin
            go_wp2
            go_round
            case rel => exact ⟨rfl, j + 1, by omega, by omega, by go_num⟩
            case measure => simp [intOf]; omega
          · have e1 := seps_out hjv (by simpa using hin)
            have hjj := tw_stop _ v j hjv hjt (by simpa using hin)
            have HT2 : Hid (bare v = v.take j) := by show _ = _; unfold bare; rw [← hjj]
            clear hin hjt hjj
            rcases e1 with e1 | ⟨e1, e2⟩ | ⟨e1, e2, e3⟩
            all_goals
              go_wp2_with fail
              rw [← HT2.out]
              refine (read_any _ _ HB.out).mono ?_
              rintro e w1 ⟨rfl, hb⟩
              rw [HR.out]
              have HBE := Lib.hid (hb.alloc hb.size (.cells #[.string (bs r.1.maj), .string (bs r.1.min), .string (bs r.1.pat), .string (bs r.1.kind), .string (bs r.1.pre)] 25))
              obtain ⟨g, st⟩ := r
              unfold rv gv
              by_cases hst : st = 2
              · subst hst
                have HTV : Hid (tv T = .tuple #[.string (bs []), .int .i64 1]) := by
                  show _ = _; rw [HTT.out]; rfl
                go_wp2
                go_ret2
                exact ⟨by rw [HTV.out]; rfl, HBE.out⟩
              · have e9 : ((st : Int) == 2) = false := beq_eq_false_iff_ne.2 (by omega)
                have HTV : Hid (tv T = .tuple #[.string (bs (bare v)), .int .i64 (st : Int)]) := by
                  show _ = _; rw [HTT.out, if_neg hst]; rfl
                clear hst
                go_wp2
                go_ret2
                exact ⟨by rw [HTV.out]; first | rfl | (rw [HT2.out]; rfl), HBE.out⟩
        · have HT2 : Hid (bare v = v) := by
            show _ = _; unfold bare
            rw [List.take_of_length_le (by omega)]
          go_wp2_with fail
          rw [HT2.out] at HB HR
          refine (read_any _ _ HB.out).mono ?_
          rintro e w1 ⟨rfl, hb⟩
          rw [HR.out]
          have HBE := Lib.hid (hb.alloc hb.size (.cells #[.string (bs r.1.maj), .string (bs r.1.min), .string (bs r.1.pat), .string (bs r.1.kind), .string (bs r.1.pre)] 25))
          obtain ⟨g, st⟩ := r
          unfold rv gv
          by_cases hst : st = 2
          · subst hst
            have HTV : Hid (tv T = .tuple #[.string (bs []), .int .i64 1]) := by
              show _ = _; rw [HTT.out]; rfl
            go_wp2
            go_ret2
            exact ⟨by rw [HTV.out]; rfl, HBE.out⟩
          · have e9 : ((st : Int) == 2) = false := beq_eq_false_iff_ne.2 (by omega)
            have HTV : Hid (tv T = .tuple #[.string (bs (bare v)), .int .i64 (st : Int)]) := by
              show _ = _; rw [HTT.out, if_neg hst]; rfl
            clear hst
            go_wp2
            go_ret2
            exact ⟨by rw [HTV.out]; first | rfl | (rw [HT2.out]; rfl), HBE.out⟩
theorem tool_any (l : Bytes) (w : World) (hl : l.length ≤ maxLen) :
    Calls Try.prog 29 #[.string (bs l)] w fun e w' => e = .returned (tv (toolN l)) ∧ Below w.heap.size w w' := by
  unfold toolN
  by_cases h : l.take 2 = [103, 111]
  · rw [if_neg (by simpa using h)]
    cases hs : hasStroke l
    · rw [if_neg (by simp)]
      exact tool_yes l w hl h hs _ rfl _ rfl
    · rw [if_pos rfl]
      exact tool_stroke l w hl h hs
  · rw [if_pos h]
    exact tool_no l w hl h
/-- The version in a name: the package's is the reference's, where this tells. -/
theorem tool_fine (l : Bytes) (h : (toolN l).2 = 1) : fromTool l = (toolN l).1 := by
  unfold toolN at h ⊢
  unfold fromTool
  by_cases h1 : l.take 2 = [103, 111]
  · have hn1 : ¬ (l.take 2 ≠ [103, 111]) := fun hh => hh h1
    rw [if_neg hn1] at h ⊢
    cases hs : hasStroke l
    · rw [hs] at h
      simp only [Bool.false_eq_true, if_false] at h ⊢
      rw [if_pos h1]
      by_cases h2 : (read (bare (l.drop 2))).2 = 2
      · rw [if_pos h2]
        have := (read_fine (bare (l.drop 2)) (by omega))
        rcases this with h3 | h3
        · omega
        · rw [h3.2]; simp [validB, zero]
      · rw [if_neg h2] at h ⊢
        simp only at h
        rcases read_fine (bare (l.drop 2)) (by omega) with h3 | h3
        · rw [if_pos (by simp [validB, h3.2.1])]
          try rfl
        · omega
    · rw [hs] at h
      simp at h
  · rw [if_pos h1, if_neg h1]
    simp
end Go.Proofs.Ytdhibalpnccbiaa
