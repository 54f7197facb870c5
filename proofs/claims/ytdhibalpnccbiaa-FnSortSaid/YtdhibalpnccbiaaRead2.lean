/- spec.Read: what comes ahead of a release. -/
import Derived.Test.YtdhibalpnccbiaaRead
namespace Go.Proofs.Ytdhibalpnccbiaa
open Go.RowKit
set_option linter.unusedVariables false

/-- Which word stands there. -/
def Word3 (K : Bytes) : Prop := ((K == [97, 108, 112, 104, 97]) = true ∧ (K == [98, 101, 116, 97]) = false ∧ (K == [114, 99]) = false) ∨ ((K == [97, 108, 112, 104, 97]) = false ∧ (K == [98, 101, 116, 97]) = true ∧ (K == [114, 99]) = false) ∨ ((K == [97, 108, 112, 104, 97]) = false ∧ (K == [98, 101, 116, 97]) = false ∧ (K == [114, 99]) = true)
def Word0 (K : Bytes) : Prop := (K == [97, 108, 112, 104, 97]) = false ∧ (K == [98, 101, 116, 97]) = false ∧ (K == [114, 99]) = false
theorem word_cases (K : Bytes) : (Word3 K ∧ ¬ ((K ≠ tAlpha ∧ K ≠ tBeta) ∧ K ≠ tRc)) ∨ (Word0 K ∧ ((K ≠ tAlpha ∧ K ≠ tBeta) ∧ K ≠ tRc)) := by
  by_cases h1 : K = tAlpha
  · subst h1; exact .inl ⟨.inl ⟨rfl, rfl, rfl⟩, by simp⟩
  · by_cases h2 : K = tBeta
    · subst h2; exact .inl ⟨.inr (.inl ⟨rfl, rfl, rfl⟩), by simp⟩
    · by_cases h3 : K = tRc
      · subst h3; exact .inl ⟨.inr (.inr ⟨rfl, rfl, rfl⟩), by simp⟩
      · exact .inr ⟨⟨beq_eq_false_iff_ne.2 h1, beq_eq_false_iff_ne.2 h2, beq_eq_false_iff_ne.2 h3⟩, ⟨h1, h2⟩, h3⟩
set_option maxRecDepth 100000 in
set_option maxHeartbeats 1000000 in
theorem read_k0 (l M x m Y p z : Bytes) (d : UInt8) (w : World) (hs : l.length ≤ maxLen) (h : cutI l = some (M, 46 :: x)) (h2 : cutI x = some (m, Y)) (hY : 0 < Y.length) (hb : bl Y 0 ≠ 46) (h4 : tw isL Y = 0) :
    Calls Try.prog 24 #[.string (bs l)] w fun e w' => e = .returned (.tuple #[gv zero, .int .i64 2]) ∧ Below w.heap.size w w' := by
  have HS := Lib.hid hs
  have HL := Lib.hid (cutI_len h)
  have HX : Hid (x.length ≤ maxLen) := by have := HL.out; simp at this; show _ ≤ _; omega
  have hy : Y.length ≤ maxLen := by have := cutI_len h2; have := HX.out; omega
  have HZ : Hid ((Y.drop (tw isL Y)).length ≤ maxLen) := by show _ ≤ _; rw [List.length_drop]; omega
  have H := Lib.hid h
  have H2 := Lib.hid h2
  have hne : (Y == []) = false := by cases Y <;> simp_all
  have hne2 : Y.isEmpty = false := by cases Y <;> simp_all
  have hb2 : ((bl Y 0 : Int) == 46) = false := by simp; omega
  have H4 := Lib.hid h4
  clear h h2 hb h4
  unfold maxLen at hs hy
  go_enter Try.func24, Try.ntmps24
  go_wp2_with fail
  refine (num_good _ HS.out H.out).mono ?_
  rintro e w' ⟨rfl, n, rfl⟩
  go_wp2_with fail
  refine (num_good _ HX.out H2.out).mono ?_
  rintro e w' ⟨rfl, n2, rfl⟩
  go_wp2
  go_loop [6] (fun i => ∃ k : Nat, k ≤ Y.length ∧ k ≤ tw isL Y ∧ i = .int .i64 k) (fun i => Y.length - (intOf i).toNat)
  case atStart => exact ⟨0, Nat.zero_le _, Nat.zero_le _, rfl⟩
  case round =>
    obtain ⟨k, hk, hkt, rfl⟩ := hrel
    by_cases hgo : ∃ h : k < Y.length, isL Y[k] = true
    · obtain ⟨hlt, hd⟩ := hgo
      have hn : k + 1 ≤ tw isL Y := tw_step isL Y k hlt hkt hd
      have hc := isL_bl Y k hlt
      rw [hd] at hc
      simp at hc
      obtain ⟨h1, h2⟩ := hc
      clear hd
      go_wp2
      go_round
      case rel => exact ⟨k + 1, by omega, by omega, by go_num⟩
      case measure => simp [intOf]; omega
    · obtain ⟨hkk, hstop⟩ : k = tw isL Y ∧ (Y.length ≤ k ∨ (k < Y.length ∧ bl Y k < 97) ∨ (k < Y.length ∧ 97 ≤ bl Y k ∧ 122 < bl Y k)) := by
        by_cases hlt : k < Y.length
        · have hd : isL Y[k] = false := by simpa using fun h => hgo ⟨hlt, h⟩
          refine ⟨tw_stop isL Y k hlt hkt hd, ?_⟩
          rw [isL_bl Y k hlt] at hd
          simp at hd
          omega
        · exact ⟨tw_end isL Y k (by omega) hkt, .inl (by omega)⟩
      clear hgo hkt
      obtain rfl : k = 0 := by rw [hkk]; exact H4.out
      clear hkk
      have hstop2 : (0 < Y.length ∧ bl Y 0 < 97) ∨ (0 < Y.length ∧ 97 ≤ bl Y 0 ∧ 122 < bl Y 0) := by omega
      clear hstop
      rcases hstop2 with ⟨h1, h2⟩ | ⟨h1, h2, h3⟩
      all_goals
        go_wp2
        go_region
        go_wp2
        refine bodyPost_ret (v := .tuple #[gv zero, .int .i64 2]) ?_ rfl ⟨rfl, ?_⟩
        · simp [results, Try.results24, go_sem, gv]; repeat' (first | rfl | refine ⟨?_, ?_⟩)
        repeat' (first | exact Below.refl _ _ | refine below_drewN ?_ _ | refine Below.drew ?_ | refine Below.alloc ?_ ?_ _ | refine Below.setCell ?_ ?_ _ | go_size)
set_option maxRecDepth 100000 in
set_option maxHeartbeats 1000000 in
theorem read_ko (l M x m Y p z : Bytes) (d : UInt8) (w : World) (hs : l.length ≤ maxLen) (h : cutI l = some (M, 46 :: x)) (h2 : cutI x = some (m, Y)) (hY : 0 < Y.length) (hb : bl Y 0 ≠ 46) (h4 : 0 < tw isL Y) (hW : Word0 (Y.take (tw isL Y))) :
    Calls Try.prog 24 #[.string (bs l)] w fun e w' => e = .returned (.tuple #[gv zero, .int .i64 0]) ∧ Below w.heap.size w w' := by
  have HS := Lib.hid hs
  have HL := Lib.hid (cutI_len h)
  have HX : Hid (x.length ≤ maxLen) := by have := HL.out; simp at this; show _ ≤ _; omega
  have hy : Y.length ≤ maxLen := by have := cutI_len h2; have := HX.out; omega
  have HZ : Hid ((Y.drop (tw isL Y)).length ≤ maxLen) := by show _ ≤ _; rw [List.length_drop]; omega
  have H := Lib.hid h
  have H2 := Lib.hid h2
  have hne : (Y == []) = false := by cases Y <;> simp_all
  have hne2 : Y.isEmpty = false := by cases Y <;> simp_all
  have hb2 : ((bl Y 0 : Int) == 46) = false := by simp; omega
  have H4 := Lib.hid h4
  have HW := Lib.hid hW
  clear h h2 hb h4 hW
  unfold maxLen at hs hy
  go_enter Try.func24, Try.ntmps24
  go_wp2_with fail
  refine (num_good _ HS.out H.out).mono ?_
  rintro e w' ⟨rfl, n, rfl⟩
  go_wp2_with fail
  refine (num_good _ HX.out H2.out).mono ?_
  rintro e w' ⟨rfl, n2, rfl⟩
  go_wp2
  go_loop [6] (fun i => ∃ k : Nat, k ≤ Y.length ∧ k ≤ tw isL Y ∧ i = .int .i64 k) (fun i => Y.length - (intOf i).toNat)
  case atStart => exact ⟨0, Nat.zero_le _, Nat.zero_le _, rfl⟩
  case round =>
    obtain ⟨k, hk, hkt, rfl⟩ := hrel
    by_cases hgo : ∃ h : k < Y.length, isL Y[k] = true
    · obtain ⟨hlt, hd⟩ := hgo
      have hn : k + 1 ≤ tw isL Y := tw_step isL Y k hlt hkt hd
      have hc := isL_bl Y k hlt
      rw [hd] at hc
      simp at hc
      obtain ⟨h1, h2⟩ := hc
      clear hd
      go_wp2
      go_round
      case rel => exact ⟨k + 1, by omega, by omega, by go_num⟩
      case measure => simp [intOf]; omega
    · obtain ⟨hkk, hstop⟩ : k = tw isL Y ∧ (Y.length ≤ k ∨ (k < Y.length ∧ bl Y k < 97) ∨ (k < Y.length ∧ 97 ≤ bl Y k ∧ 122 < bl Y k)) := by
        by_cases hlt : k < Y.length
        · have hd : isL Y[k] = false := by simpa using fun h => hgo ⟨hlt, h⟩
          refine ⟨tw_stop isL Y k hlt hkt hd, ?_⟩
          rw [isL_bl Y k hlt] at hd
          simp at hd
          omega
        · exact ⟨tw_end isL Y k (by omega) hkt, .inl (by omega)⟩
      clear hgo hkt
      have hk0 : 0 < k := by rw [hkk]; exact H4.out
      obtain ⟨a1, a2, a3⟩ : Word0 (Y.take k) := by rw [hkk]; exact HW.out
      have e0 : ((k : Int) == 0) = false := beq_eq_false_iff_ne.2 (by omega)
      have HK := Lib.hid hkk
      clear hkk
      rcases hstop with h1 | ⟨h1, h2⟩ | ⟨h1, h2, h3⟩
      all_goals
        go_wp2
        go_region
        go_wp2
        refine bodyPost_ret (v := .tuple #[gv zero, .int .i64 0]) ?_ rfl ⟨rfl, ?_⟩
        · simp [results, Try.results24, go_sem, gv]; repeat' (first | rfl | refine ⟨?_, ?_⟩)
        repeat' (first | exact Below.refl _ _ | refine below_drewN ?_ _ | refine Below.drew ?_ | refine Below.alloc ?_ ?_ _ | refine Below.setCell ?_ ?_ _ | go_size)
set_option maxRecDepth 100000 in
set_option maxHeartbeats 1000000 in
theorem read_kz (l M x m Y p z : Bytes) (d : UInt8) (w : World) (hs : l.length ≤ maxLen) (h : cutI l = some (M, 46 :: x)) (h2 : cutI x = some (m, Y)) (hY : 0 < Y.length) (hb : bl Y 0 ≠ 46) (h4 : 0 < tw isL Y) (hW : Word3 (Y.take (tw isL Y))) (h5 : Y.drop (tw isL Y) = []) :
    Calls Try.prog 24 #[.string (bs l)] w fun e w' => e = .returned (.tuple #[gv zero, .int .i64 0]) ∧ Below w.heap.size w w' := by
  have HS := Lib.hid hs
  have HL := Lib.hid (cutI_len h)
  have HX : Hid (x.length ≤ maxLen) := by have := HL.out; simp at this; show _ ≤ _; omega
  have hy : Y.length ≤ maxLen := by have := cutI_len h2; have := HX.out; omega
  have HZ : Hid ((Y.drop (tw isL Y)).length ≤ maxLen) := by show _ ≤ _; rw [List.length_drop]; omega
  have H := Lib.hid h
  have H2 := Lib.hid h2
  have hne : (Y == []) = false := by cases Y <;> simp_all
  have hne2 : Y.isEmpty = false := by cases Y <;> simp_all
  have hb2 : ((bl Y 0 : Int) == 46) = false := by simp; omega
  have H4 := Lib.hid h4
  have H5 := Lib.hid h5
  have HW := Lib.hid hW
  clear h h2 hb h4 h5 hW
  unfold maxLen at hs hy
  go_enter Try.func24, Try.ntmps24
  go_wp2_with fail
  refine (num_good _ HS.out H.out).mono ?_
  rintro e w' ⟨rfl, n, rfl⟩
  go_wp2_with fail
  refine (num_good _ HX.out H2.out).mono ?_
  rintro e w' ⟨rfl, n2, rfl⟩
  go_wp2
  go_loop [6] (fun i => ∃ k : Nat, k ≤ Y.length ∧ k ≤ tw isL Y ∧ i = .int .i64 k) (fun i => Y.length - (intOf i).toNat)
  case atStart => exact ⟨0, Nat.zero_le _, Nat.zero_le _, rfl⟩
  case round =>
    obtain ⟨k, hk, hkt, rfl⟩ := hrel
    by_cases hgo : ∃ h : k < Y.length, isL Y[k] = true
    · obtain ⟨hlt, hd⟩ := hgo
      have hn : k + 1 ≤ tw isL Y := tw_step isL Y k hlt hkt hd
      have hc := isL_bl Y k hlt
      rw [hd] at hc
      simp at hc
      obtain ⟨h1, h2⟩ := hc
      clear hd
      go_wp2
      go_round
      case rel => exact ⟨k + 1, by omega, by omega, by go_num⟩
      case measure => simp [intOf]; omega
    · obtain ⟨hkk, hstop⟩ : k = tw isL Y ∧ (Y.length ≤ k ∨ (k < Y.length ∧ bl Y k < 97) ∨ (k < Y.length ∧ 97 ≤ bl Y k ∧ 122 < bl Y k)) := by
        by_cases hlt : k < Y.length
        · have hd : isL Y[k] = false := by simpa using fun h => hgo ⟨hlt, h⟩
          refine ⟨tw_stop isL Y k hlt hkt hd, ?_⟩
          rw [isL_bl Y k hlt] at hd
          simp at hd
          omega
        · exact ⟨tw_end isL Y k (by omega) hkt, .inl (by omega)⟩
      clear hgo hkt
      have hk0 : 0 < k := by rw [hkk]; exact H4.out
      have hwd : Word3 (Y.take k) := by rw [hkk]; exact HW.out
      obtain rfl : k = Y.length := by
        have h7 := H5.out
        rw [← hkk, List.drop_eq_nil_iff] at h7
        omega
      rw [List.take_length] at hwd
      have e0 : ((Y.length : Int) == 0) = false := beq_eq_false_iff_ne.2 (by omega)
      have HK := Lib.hid hkk
      clear hkk hstop
      rcases hwd with ⟨a1, a2, a3⟩ | ⟨a1, a2, a3⟩ | ⟨a1, a2, a3⟩
      all_goals
        go_wp2
        go_region
        go_wp2
        refine bodyPost_ret (v := .tuple #[gv zero, .int .i64 0]) ?_ rfl ⟨rfl, ?_⟩
        · simp [results, Try.results24, go_sem, gv]; repeat' (first | rfl | refine ⟨?_, ?_⟩)
        repeat' (first | exact Below.refl _ _ | refine below_drewN ?_ _ | refine Below.drew ?_ | refine Below.alloc ?_ ?_ _ | refine Below.setCell ?_ ?_ _ | go_size)
set_option maxRecDepth 100000 in
set_option maxHeartbeats 1000000 in
theorem read_kn (l M x m Y p z : Bytes) (d : UInt8) (w : World) (hs : l.length ≤ maxLen) (h : cutI l = some (M, 46 :: x)) (h2 : cutI x = some (m, Y)) (hY : 0 < Y.length) (hb : bl Y 0 ≠ 46) (h4 : 0 < tw isL Y) (hW : Word3 (Y.take (tw isL Y))) (h5 : 0 < (Y.drop (tw isL Y)).length) (h6 : cutI (Y.drop (tw isL Y)) = none) :
    Calls Try.prog 24 #[.string (bs l)] w fun e w' => e = .returned (.tuple #[gv zero, .int .i64 2]) ∧ Below w.heap.size w w' := by
  have HS := Lib.hid hs
  have HL := Lib.hid (cutI_len h)
  have HX : Hid (x.length ≤ maxLen) := by have := HL.out; simp at this; show _ ≤ _; omega
  have hy : Y.length ≤ maxLen := by have := cutI_len h2; have := HX.out; omega
  have HZ : Hid ((Y.drop (tw isL Y)).length ≤ maxLen) := by show _ ≤ _; rw [List.length_drop]; omega
  have H := Lib.hid h
  have H2 := Lib.hid h2
  have hne : (Y == []) = false := by cases Y <;> simp_all
  have hne2 : Y.isEmpty = false := by cases Y <;> simp_all
  have hb2 : ((bl Y 0 : Int) == 46) = false := by simp; omega
  have H4 := Lib.hid h4
  have H5 := Lib.hid h5
  have H6 := Lib.hid h6
  have HW := Lib.hid hW
  clear h h2 hb h4 h5 h6 hW
  unfold maxLen at hs hy
  go_enter Try.func24, Try.ntmps24
  go_wp2_with fail
  refine (num_good _ HS.out H.out).mono ?_
  rintro e w' ⟨rfl, n, rfl⟩
  go_wp2_with fail
  refine (num_good _ HX.out H2.out).mono ?_
  rintro e w' ⟨rfl, n2, rfl⟩
  go_wp2
  go_loop [6] (fun i => ∃ k : Nat, k ≤ Y.length ∧ k ≤ tw isL Y ∧ i = .int .i64 k) (fun i => Y.length - (intOf i).toNat)
  case atStart => exact ⟨0, Nat.zero_le _, Nat.zero_le _, rfl⟩
  case round =>
    obtain ⟨k, hk, hkt, rfl⟩ := hrel
    by_cases hgo : ∃ h : k < Y.length, isL Y[k] = true
    · obtain ⟨hlt, hd⟩ := hgo
      have hn : k + 1 ≤ tw isL Y := tw_step isL Y k hlt hkt hd
      have hc := isL_bl Y k hlt
      rw [hd] at hc
      simp at hc
      obtain ⟨h1, h2⟩ := hc
      clear hd
      go_wp2
      go_round
      case rel => exact ⟨k + 1, by omega, by omega, by go_num⟩
      case measure => simp [intOf]; omega
    · obtain ⟨hkk, hstop⟩ : k = tw isL Y ∧ (Y.length ≤ k ∨ (k < Y.length ∧ bl Y k < 97) ∨ (k < Y.length ∧ 97 ≤ bl Y k ∧ 122 < bl Y k)) := by
        by_cases hlt : k < Y.length
        · have hd : isL Y[k] = false := by simpa using fun h => hgo ⟨hlt, h⟩
          refine ⟨tw_stop isL Y k hlt hkt hd, ?_⟩
          rw [isL_bl Y k hlt] at hd
          simp at hd
          omega
        · exact ⟨tw_end isL Y k (by omega) hkt, .inl (by omega)⟩
      clear hgo hkt
      have hk0 : 0 < k := by rw [hkk]; exact H4.out
      have hwd : Word3 (Y.take k) := by rw [hkk]; exact HW.out
      have hlt : k < Y.length := by have := H5.out; rw [← hkk, List.length_drop] at this; omega
      have hst2 : bl Y k < 97 ∨ (97 ≤ bl Y k ∧ 122 < bl Y k) := by omega
      have e0 : ((k : Int) == 0) = false := beq_eq_false_iff_ne.2 (by omega)
      have hdz : (Y.drop k).isEmpty = false := by
        have h7 : 0 < (Y.drop k).length := by rw [List.length_drop]; omega
        cases hz : Y.drop k with
        | nil => rw [hz] at h7; simp at h7
        | cons => rfl
      have HK := Lib.hid hkk
      clear hkk hstop
      rcases hst2 with h1 | ⟨h1, h2⟩ <;> rcases hwd with ⟨a1, a2, a3⟩ | ⟨a1, a2, a3⟩ | ⟨a1, a2, a3⟩
      all_goals
        go_wp2
        go_region
        go_wp2_with fail
        rw [HK.out]
        refine (num_bad _ HZ.out H6.out).mono ?_
        rintro e w' ⟨⟨t', r', rfl⟩, n3, rfl⟩
        go_wp2
        refine bodyPost_ret (v := .tuple #[gv zero, .int .i64 2]) ?_ rfl ⟨rfl, ?_⟩
        · simp [results, Try.results24, go_sem, gv]; repeat' (first | rfl | refine ⟨?_, ?_⟩)
        repeat' (first | exact Below.refl _ _ | refine below_drewN ?_ _ | refine Below.drew ?_ | refine Below.alloc ?_ ?_ _ | refine Below.setCell ?_ ?_ _ | go_size)
set_option maxRecDepth 100000 in
set_option maxHeartbeats 1000000 in
theorem read_ks (l M x m Y p z : Bytes) (d : UInt8) (w : World) (hs : l.length ≤ maxLen) (h : cutI l = some (M, 46 :: x)) (h2 : cutI x = some (m, Y)) (hY : 0 < Y.length) (hb : bl Y 0 ≠ 46) (h4 : 0 < tw isL Y) (hW : Word3 (Y.take (tw isL Y))) (h5 : 0 < (Y.drop (tw isL Y)).length) (h6 : cutI (Y.drop (tw isL Y)) = some (p, [])) :
    Calls Try.prog 24 #[.string (bs l)] w fun e w' => e = .returned (.tuple #[gv ⟨M, m, [], Y.take (tw isL Y), p⟩, .int .i64 1]) ∧ Below w.heap.size w w' := by
  have HS := Lib.hid hs
  have HL := Lib.hid (cutI_len h)
  have HX : Hid (x.length ≤ maxLen) := by have := HL.out; simp at this; show _ ≤ _; omega
  have hy : Y.length ≤ maxLen := by have := cutI_len h2; have := HX.out; omega
  have HZ : Hid ((Y.drop (tw isL Y)).length ≤ maxLen) := by show _ ≤ _; rw [List.length_drop]; omega
  have H := Lib.hid h
  have H2 := Lib.hid h2
  have hne : (Y == []) = false := by cases Y <;> simp_all
  have hne2 : Y.isEmpty = false := by cases Y <;> simp_all
  have hb2 : ((bl Y 0 : Int) == 46) = false := by simp; omega
  have H4 := Lib.hid h4
  have H5 := Lib.hid h5
  have H6 := Lib.hid h6
  have HW := Lib.hid hW
  clear h h2 hb h4 h5 h6 hW
  unfold maxLen at hs hy
  go_enter Try.func24, Try.ntmps24
  go_wp2_with fail
  refine (num_good _ HS.out H.out).mono ?_
  rintro e w' ⟨rfl, n, rfl⟩
  go_wp2_with fail
  refine (num_good _ HX.out H2.out).mono ?_
  rintro e w' ⟨rfl, n2, rfl⟩
  go_wp2
  go_loop [6] (fun i => ∃ k : Nat, k ≤ Y.length ∧ k ≤ tw isL Y ∧ i = .int .i64 k) (fun i => Y.length - (intOf i).toNat)
  case atStart => exact ⟨0, Nat.zero_le _, Nat.zero_le _, rfl⟩
  case round =>
    obtain ⟨k, hk, hkt, rfl⟩ := hrel
    by_cases hgo : ∃ h : k < Y.length, isL Y[k] = true
    · obtain ⟨hlt, hd⟩ := hgo
      have hn : k + 1 ≤ tw isL Y := tw_step isL Y k hlt hkt hd
      have hc := isL_bl Y k hlt
      rw [hd] at hc
      simp at hc
      obtain ⟨h1, h2⟩ := hc
      clear hd
      go_wp2
      go_round
      case rel => exact ⟨k + 1, by omega, by omega, by go_num⟩
      case measure => simp [intOf]; omega
    · obtain ⟨hkk, hstop⟩ : k = tw isL Y ∧ (Y.length ≤ k ∨ (k < Y.length ∧ bl Y k < 97) ∨ (k < Y.length ∧ 97 ≤ bl Y k ∧ 122 < bl Y k)) := by
        by_cases hlt : k < Y.length
        · have hd : isL Y[k] = false := by simpa using fun h => hgo ⟨hlt, h⟩
          refine ⟨tw_stop isL Y k hlt hkt hd, ?_⟩
          rw [isL_bl Y k hlt] at hd
          simp at hd
          omega
        · exact ⟨tw_end isL Y k (by omega) hkt, .inl (by omega)⟩
      clear hgo hkt
      have hk0 : 0 < k := by rw [hkk]; exact H4.out
      have hwd : Word3 (Y.take k) := by rw [hkk]; exact HW.out
      have hlt : k < Y.length := by have := H5.out; rw [← hkk, List.length_drop] at this; omega
      have hst2 : bl Y k < 97 ∨ (97 ≤ bl Y k ∧ 122 < bl Y k) := by omega
      have e0 : ((k : Int) == 0) = false := beq_eq_false_iff_ne.2 (by omega)
      have hdz : (Y.drop k).isEmpty = false := by
        have h7 : 0 < (Y.drop k).length := by rw [List.length_drop]; omega
        cases hz : Y.drop k with
        | nil => rw [hz] at h7; simp at h7
        | cons => rfl
      have HK := Lib.hid hkk
      clear hkk hstop
      rcases hst2 with h1 | ⟨h1, h2⟩ <;> rcases hwd with ⟨a1, a2, a3⟩ | ⟨a1, a2, a3⟩ | ⟨a1, a2, a3⟩
      all_goals
        go_wp2
        go_region
        go_wp2_with fail
        rw [HK.out]
        refine (num_good _ HZ.out H6.out).mono ?_
        rintro e w' ⟨rfl, n3, rfl⟩
        go_wp2
        refine bodyPost_ret (v := .tuple #[gv ⟨M, m, [], Y.take (tw isL Y), p⟩, .int .i64 1]) ?_ rfl ⟨rfl, ?_⟩
        · simp [results, Try.results24, go_sem, gv]; repeat' (first | rfl | refine ⟨?_, ?_⟩)
        repeat' (first | exact Below.refl _ _ | refine below_drewN ?_ _ | refine Below.drew ?_ | refine Below.alloc ?_ ?_ _ | refine Below.setCell ?_ ?_ _ | go_size)
set_option maxRecDepth 100000 in
set_option maxHeartbeats 1000000 in
theorem read_kd (l M x m Y p z : Bytes) (d : UInt8) (w : World) (hs : l.length ≤ maxLen) (h : cutI l = some (M, 46 :: x)) (h2 : cutI x = some (m, Y)) (hY : 0 < Y.length) (hb : bl Y 0 ≠ 46) (h4 : 0 < tw isL Y) (hW : Word3 (Y.take (tw isL Y))) (h5 : 0 < (Y.drop (tw isL Y)).length) (h6 : cutI (Y.drop (tw isL Y)) = some (p, d :: z)) :
    Calls Try.prog 24 #[.string (bs l)] w fun e w' => e = .returned (.tuple #[gv zero, .int .i64 2]) ∧ Below w.heap.size w w' := by
  have HS := Lib.hid hs
  have HL := Lib.hid (cutI_len h)
  have HX : Hid (x.length ≤ maxLen) := by have := HL.out; simp at this; show _ ≤ _; omega
  have hy : Y.length ≤ maxLen := by have := cutI_len h2; have := HX.out; omega
  have HZ : Hid ((Y.drop (tw isL Y)).length ≤ maxLen) := by show _ ≤ _; rw [List.length_drop]; omega
  have H := Lib.hid h
  have H2 := Lib.hid h2
  have hne : (Y == []) = false := by cases Y <;> simp_all
  have hne2 : Y.isEmpty = false := by cases Y <;> simp_all
  have hb2 : ((bl Y 0 : Int) == 46) = false := by simp; omega
  have H4 := Lib.hid h4
  have H5 := Lib.hid h5
  have H6 := Lib.hid h6
  have HW := Lib.hid hW
  clear h h2 hb h4 h5 h6 hW
  unfold maxLen at hs hy
  go_enter Try.func24, Try.ntmps24
  go_wp2_with fail
  refine (num_good _ HS.out H.out).mono ?_
  rintro e w' ⟨rfl, n, rfl⟩
  go_wp2_with fail
  refine (num_good _ HX.out H2.out).mono ?_
  rintro e w' ⟨rfl, n2, rfl⟩
  go_wp2
  go_loop [6] (fun i => ∃ k : Nat, k ≤ Y.length ∧ k ≤ tw isL Y ∧ i = .int .i64 k) (fun i => Y.length - (intOf i).toNat)
  case atStart => exact ⟨0, Nat.zero_le _, Nat.zero_le _, rfl⟩
  case round =>
    obtain ⟨k, hk, hkt, rfl⟩ := hrel
    by_cases hgo : ∃ h : k < Y.length, isL Y[k] = true
    · obtain ⟨hlt, hd⟩ := hgo
      have hn : k + 1 ≤ tw isL Y := tw_step isL Y k hlt hkt hd
      have hc := isL_bl Y k hlt
      rw [hd] at hc
      simp at hc
      obtain ⟨h1, h2⟩ := hc
      clear hd
      go_wp2
      go_round
      case rel => exact ⟨k + 1, by omega, by omega, by go_num⟩
      case measure => simp [intOf]; omega
    · obtain ⟨hkk, hstop⟩ : k = tw isL Y ∧ (Y.length ≤ k ∨ (k < Y.length ∧ bl Y k < 97) ∨ (k < Y.length ∧ 97 ≤ bl Y k ∧ 122 < bl Y k)) := by
        by_cases hlt : k < Y.length
        · have hd : isL Y[k] = false := by simpa using fun h => hgo ⟨hlt, h⟩
          refine ⟨tw_stop isL Y k hlt hkt hd, ?_⟩
          rw [isL_bl Y k hlt] at hd
          simp at hd
          omega
        · exact ⟨tw_end isL Y k (by omega) hkt, .inl (by omega)⟩
      clear hgo hkt
      have hk0 : 0 < k := by rw [hkk]; exact H4.out
      have hwd : Word3 (Y.take k) := by rw [hkk]; exact HW.out
      have hlt : k < Y.length := by have := H5.out; rw [← hkk, List.length_drop] at this; omega
      have hst2 : bl Y k < 97 ∨ (97 ≤ bl Y k ∧ 122 < bl Y k) := by omega
      have e0 : ((k : Int) == 0) = false := beq_eq_false_iff_ne.2 (by omega)
      have hdz : (Y.drop k).isEmpty = false := by
        have h7 : 0 < (Y.drop k).length := by rw [List.length_drop]; omega
        cases hz : Y.drop k with
        | nil => rw [hz] at h7; simp at h7
        | cons => rfl
      have HK := Lib.hid hkk
      clear hkk hstop
      rcases hst2 with h1 | ⟨h1, h2⟩ <;> rcases hwd with ⟨a1, a2, a3⟩ | ⟨a1, a2, a3⟩ | ⟨a1, a2, a3⟩
      all_goals
        go_wp2
        go_region
        go_wp2_with fail
        rw [HK.out]
        refine (num_good _ HZ.out H6.out).mono ?_
        rintro e w' ⟨rfl, n3, rfl⟩
        go_wp2
        refine bodyPost_ret (v := .tuple #[gv zero, .int .i64 2]) ?_ rfl ⟨rfl, ?_⟩
        · simp [results, Try.results24, go_sem, gv]; repeat' (first | rfl | refine ⟨?_, ?_⟩)
        repeat' (first | exact Below.refl _ _ | refine below_drewN ?_ _ | refine Below.drew ?_ | refine Below.alloc ?_ ?_ _ | refine Below.setCell ?_ ?_ _ | go_size)
end Go.Proofs.Ytdhibalpnccbiaa
