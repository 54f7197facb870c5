/- gover.Parse: what comes ahead of a release. -/
import Derived.Test.YtdhibalpnccbiaaParse2
import Derived.RegionTactic
namespace Go.Proofs.Ytdhibalpnccbiaa
open Go.RowKit
set_option linter.unusedVariables false

set_option maxRecDepth 100000 in
set_option maxHeartbeats 1000000 in
theorem parse_k0 (l M x m Y p z : Bytes) (d : UInt8) (w : World) (hs : l.length ≤ maxLen) (h : cutI l = some (M, 46 :: x)) (h2 : cutI x = some (m, Y)) (hY : 0 < Y.length) (hb : bl Y 0 ≠ 46) (h3 : (Y.takeWhile notD).all isL = true) (h4 : tw notD Y = 0) :
    Calls Try.prog 66 #[.string (bs l)] w fun e w' => e = .returned (gv zero) ∧ Below w.heap.size w w' := by
  have HS := Lib.hid hs
  have HL := Lib.hid (cutI_len h)
  have HX : Hid (x.length ≤ maxLen) := by have := HL.out; simp at this; show _ ≤ _; omega
  have hy : Y.length ≤ maxLen := by have := cutI_len h2; have := HX.out; omega
  have HZ : Hid ((Y.drop (tw notD Y)).length ≤ maxLen) := by show _ ≤ _; rw [List.length_drop]; omega
  have H := Lib.hid h
  have H2 := Lib.hid h2
  have H3 := Lib.hid h3
  have hne : (Y == []) = false := by cases Y <;> simp_all
  have hne2 : Y.isEmpty = false := by cases Y <;> simp_all
  have hb2 : ((bl Y 0 : Int) == 46) = false := by simp; omega
  have H4 := Lib.hid h4
  clear h h2 h3 hb h4
  unfold maxLen at hs hy
  go_enter Try.func66, Try.ntmps66
  go_wp2_with fail
  refine (cut_some _ HS.out H.out).mono ?_
  rintro e w' ⟨rfl, n, rfl⟩
  go_wp2_with fail
  refine (cut_some _ HX.out H2.out).mono ?_
  rintro e w' ⟨rfl, n2, rfl⟩
  go_wp2
  go_loop [5] (fun i => ∃ k : Nat, k ≤ Y.length ∧ k ≤ tw notD Y ∧ i = .int .i64 k) (fun i => Y.length - (intOf i).toNat)
  case atStart => exact ⟨0, Nat.zero_le _, Nat.zero_le _, rfl⟩
  case round =>
    obtain ⟨k, hk, hkt, rfl⟩ := hrel
    by_cases hgo : ∃ h : k < Y.length, notD Y[k] = true
    · obtain ⟨hlt, hd⟩ := hgo
      have hn : k + 1 ≤ tw notD Y := tw_step notD Y k hlt hkt hd
      have hl := all_at isL notD Y k hlt (by omega) H3.out
      have hc := isL_bl Y k hlt
      rw [hl] at hc
      simp at hc
      obtain ⟨h1, h2⟩ := hc
      have h5 : 48 ≤ bl Y k := by omega
      have h6 : 57 < bl Y k := by omega
      clear hd hl
      go_wp2
      go_round
      case rel => exact ⟨k + 1, by omega, by omega, by go_num⟩
      case measure => simp [intOf]; omega
    · obtain ⟨hkk, hstop⟩ : k = tw notD Y ∧ (Y.length ≤ k ∨ (k < Y.length ∧ 48 ≤ bl Y k ∧ bl Y k ≤ 57)) := by
        by_cases hlt : k < Y.length
        · have hd : notD Y[k] = false := by simpa using fun h => hgo ⟨hlt, h⟩
          refine ⟨tw_stop notD Y k hlt hkt hd, .inr ⟨hlt, ?_⟩⟩
          rw [notD_bl Y k hlt] at hd
          simp at hd
          exact hd
        · exact ⟨tw_end notD Y k (by omega) hkt, .inl (by omega)⟩
      clear hgo hkt
      obtain rfl : k = 0 := by rw [hkk]; exact H4.out
      have hlt : ¬ Y.length ≤ 0 := by omega
      obtain ⟨h, h', h''⟩ : 0 < Y.length ∧ 48 ≤ bl Y 0 ∧ bl Y 0 ≤ 57 := by omega
      clear hkk hlt hstop
      go_wp2
      refine bodyPost_ret (v := gv zero) (by simp [results, Try.results66, go_sem]; try rfl) rfl ⟨rfl, ?_⟩
      repeat' (first | exact Below.refl _ _ | refine below_drewN ?_ _ | refine Below.drew ?_ | refine Below.alloc ?_ ?_ _ | refine Below.setCell ?_ ?_ _ | go_size)
set_option maxRecDepth 100000 in
set_option maxHeartbeats 1000000 in
theorem parse_kz (l M x m Y p z : Bytes) (d : UInt8) (w : World) (hs : l.length ≤ maxLen) (h : cutI l = some (M, 46 :: x)) (h2 : cutI x = some (m, Y)) (hY : 0 < Y.length) (hb : bl Y 0 ≠ 46) (h3 : (Y.takeWhile notD).all isL = true) (h4 : 0 < tw notD Y) (h5 : Y.drop (tw notD Y) = []) :
    Calls Try.prog 66 #[.string (bs l)] w fun e w' => e = .returned (gv ⟨M, m, [], Y.take (tw notD Y), []⟩) ∧ Below w.heap.size w w' := by
  have HS := Lib.hid hs
  have HL := Lib.hid (cutI_len h)
  have HX : Hid (x.length ≤ maxLen) := by have := HL.out; simp at this; show _ ≤ _; omega
  have hy : Y.length ≤ maxLen := by have := cutI_len h2; have := HX.out; omega
  have HZ : Hid ((Y.drop (tw notD Y)).length ≤ maxLen) := by show _ ≤ _; rw [List.length_drop]; omega
  have H := Lib.hid h
  have H2 := Lib.hid h2
  have H3 := Lib.hid h3
  have hne : (Y == []) = false := by cases Y <;> simp_all
  have hne2 : Y.isEmpty = false := by cases Y <;> simp_all
  have hb2 : ((bl Y 0 : Int) == 46) = false := by simp; omega
  have H4 := Lib.hid h4
  have H5 := Lib.hid h5
  clear h h2 h3 hb h4 h5
  unfold maxLen at hs hy
  go_enter Try.func66, Try.ntmps66
  go_wp2_with fail
  refine (cut_some _ HS.out H.out).mono ?_
  rintro e w' ⟨rfl, n, rfl⟩
  go_wp2_with fail
  refine (cut_some _ HX.out H2.out).mono ?_
  rintro e w' ⟨rfl, n2, rfl⟩
  go_wp2
  go_loop [5] (fun i => ∃ k : Nat, k ≤ Y.length ∧ k ≤ tw notD Y ∧ i = .int .i64 k) (fun i => Y.length - (intOf i).toNat)
  case atStart => exact ⟨0, Nat.zero_le _, Nat.zero_le _, rfl⟩
  case round =>
    obtain ⟨k, hk, hkt, rfl⟩ := hrel
    by_cases hgo : ∃ h : k < Y.length, notD Y[k] = true
    · obtain ⟨hlt, hd⟩ := hgo
      have hn : k + 1 ≤ tw notD Y := tw_step notD Y k hlt hkt hd
      have hl := all_at isL notD Y k hlt (by omega) H3.out
      have hc := isL_bl Y k hlt
      rw [hl] at hc
      simp at hc
      obtain ⟨h1, h2⟩ := hc
      have h5 : 48 ≤ bl Y k := by omega
      have h6 : 57 < bl Y k := by omega
      clear hd hl
      go_wp2
      go_round
      case rel => exact ⟨k + 1, by omega, by omega, by go_num⟩
      case measure => simp [intOf]; omega
    · obtain ⟨hkk, hstop⟩ : k = tw notD Y ∧ (Y.length ≤ k ∨ (k < Y.length ∧ 48 ≤ bl Y k ∧ bl Y k ≤ 57)) := by
        by_cases hlt : k < Y.length
        · have hd : notD Y[k] = false := by simpa using fun h => hgo ⟨hlt, h⟩
          refine ⟨tw_stop notD Y k hlt hkt hd, .inr ⟨hlt, ?_⟩⟩
          rw [notD_bl Y k hlt] at hd
          simp at hd
          exact hd
        · exact ⟨tw_end notD Y k (by omega) hkt, .inl (by omega)⟩
      clear hgo hkt
      have hk0 : 0 < k := by rw [hkk]; exact H4.out
      obtain rfl : k = Y.length := by
        have h7 := H5.out
        rw [← hkk, List.drop_eq_nil_iff] at h7
        omega
      have e0 : ((Y.length : Int) == 0) = false := beq_eq_false_iff_ne.2 (by omega)
      have HK := Lib.hid hkk
      clear hkk hstop
      go_wp2
      go_region
      go_wp2
      refine bodyPost_ret (v := gv ⟨M, m, [], Y.take (tw notD Y), []⟩) ?_ rfl ⟨rfl, ?_⟩
      · simp [results, Try.results66, go_sem, gv]
        refine ⟨rfl, ?_, rfl⟩
        rw [← HK.out, List.take_length]
      repeat' (first | exact Below.refl _ _ | refine below_drewN ?_ _ | refine Below.drew ?_ | refine Below.alloc ?_ ?_ _ | refine Below.setCell ?_ ?_ _ | go_size)
set_option maxRecDepth 100000 in
set_option maxHeartbeats 1000000 in
theorem parse_kn (l M x m Y p z : Bytes) (d : UInt8) (w : World) (hs : l.length ≤ maxLen) (h : cutI l = some (M, 46 :: x)) (h2 : cutI x = some (m, Y)) (hY : 0 < Y.length) (hb : bl Y 0 ≠ 46) (h3 : (Y.takeWhile notD).all isL = true) (h4 : 0 < tw notD Y) (h5 : 0 < (Y.drop (tw notD Y)).length) (h6 : cutI (Y.drop (tw notD Y)) = none) :
    Calls Try.prog 66 #[.string (bs l)] w fun e w' => e = .returned (gv zero) ∧ Below w.heap.size w w' := by
  have HS := Lib.hid hs
  have HL := Lib.hid (cutI_len h)
  have HX : Hid (x.length ≤ maxLen) := by have := HL.out; simp at this; show _ ≤ _; omega
  have hy : Y.length ≤ maxLen := by have := cutI_len h2; have := HX.out; omega
  have HZ : Hid ((Y.drop (tw notD Y)).length ≤ maxLen) := by show _ ≤ _; rw [List.length_drop]; omega
  have H := Lib.hid h
  have H2 := Lib.hid h2
  have H3 := Lib.hid h3
  have hne : (Y == []) = false := by cases Y <;> simp_all
  have hne2 : Y.isEmpty = false := by cases Y <;> simp_all
  have hb2 : ((bl Y 0 : Int) == 46) = false := by simp; omega
  have H4 := Lib.hid h4
  have H5 := Lib.hid h5
  have H6 := Lib.hid h6
  clear h h2 h3 hb h4 h5 h6
  unfold maxLen at hs hy
  go_enter Try.func66, Try.ntmps66
  go_wp2_with fail
  refine (cut_some _ HS.out H.out).mono ?_
  rintro e w' ⟨rfl, n, rfl⟩
  go_wp2_with fail
  refine (cut_some _ HX.out H2.out).mono ?_
  rintro e w' ⟨rfl, n2, rfl⟩
  go_wp2
  go_loop [5] (fun i => ∃ k : Nat, k ≤ Y.length ∧ k ≤ tw notD Y ∧ i = .int .i64 k) (fun i => Y.length - (intOf i).toNat)
  case atStart => exact ⟨0, Nat.zero_le _, Nat.zero_le _, rfl⟩
  case round =>
    obtain ⟨k, hk, hkt, rfl⟩ := hrel
    by_cases hgo : ∃ h : k < Y.length, notD Y[k] = true
    · obtain ⟨hlt, hd⟩ := hgo
      have hn : k + 1 ≤ tw notD Y := tw_step notD Y k hlt hkt hd
      have hl := all_at isL notD Y k hlt (by omega) H3.out
      have hc := isL_bl Y k hlt
      rw [hl] at hc
      simp at hc
      obtain ⟨h1, h2⟩ := hc
      have h5 : 48 ≤ bl Y k := by omega
      have h6 : 57 < bl Y k := by omega
      clear hd hl
      go_wp2
      go_round
      case rel => exact ⟨k + 1, by omega, by omega, by go_num⟩
      case measure => simp [intOf]; omega
    · obtain ⟨hkk, hstop⟩ : k = tw notD Y ∧ (Y.length ≤ k ∨ (k < Y.length ∧ 48 ≤ bl Y k ∧ bl Y k ≤ 57)) := by
        by_cases hlt : k < Y.length
        · have hd : notD Y[k] = false := by simpa using fun h => hgo ⟨hlt, h⟩
          refine ⟨tw_stop notD Y k hlt hkt hd, .inr ⟨hlt, ?_⟩⟩
          rw [notD_bl Y k hlt] at hd
          simp at hd
          exact hd
        · exact ⟨tw_end notD Y k (by omega) hkt, .inl (by omega)⟩
      clear hgo hkt
      have hk0 : 0 < k := by rw [hkk]; exact H4.out
      have hlt : k < Y.length := by have := H5.out; rw [← hkk, List.length_drop] at this; omega
      obtain ⟨h', h''⟩ : 48 ≤ bl Y k ∧ bl Y k ≤ 57 := by omega
      have e0 : ((k : Int) == 0) = false := by simp; omega
      have hdz : (Y.drop k).isEmpty = false := by
        have h7 : 0 < (Y.drop k).length := by rw [List.length_drop]; omega
        cases hz : Y.drop k with
        | nil => rw [hz] at h7; simp at h7
        | cons => rfl
      have HK := Lib.hid hkk
      clear hkk hstop
      go_wp2
      go_region
      go_wp2_with fail
      rw [HK.out]
      refine (cut_none _ HZ.out H6.out).mono ?_
      rintro e w' ⟨rfl, n3, rfl⟩
      go_wp2
      refine bodyPost_ret (v := gv zero) ?_ rfl ⟨rfl, ?_⟩
      · simp [results, Try.results66, go_sem, gv]; exact ⟨rfl, rfl, rfl, rfl, rfl⟩
      repeat' (first | exact Below.refl _ _ | refine below_drewN ?_ _ | refine Below.drew ?_ | refine Below.alloc ?_ ?_ _ | refine Below.setCell ?_ ?_ _ | go_size)
set_option maxRecDepth 100000 in
set_option maxHeartbeats 1000000 in
theorem parse_ks (l M x m Y p z : Bytes) (d : UInt8) (w : World) (hs : l.length ≤ maxLen) (h : cutI l = some (M, 46 :: x)) (h2 : cutI x = some (m, Y)) (hY : 0 < Y.length) (hb : bl Y 0 ≠ 46) (h3 : (Y.takeWhile notD).all isL = true) (h4 : 0 < tw notD Y) (h5 : 0 < (Y.drop (tw notD Y)).length) (h6 : cutI (Y.drop (tw notD Y)) = some (p, [])) :
    Calls Try.prog 66 #[.string (bs l)] w fun e w' => e = .returned (gv ⟨M, m, [], Y.take (tw notD Y), p⟩) ∧ Below w.heap.size w w' := by
  have HS := Lib.hid hs
  have HL := Lib.hid (cutI_len h)
  have HX : Hid (x.length ≤ maxLen) := by have := HL.out; simp at this; show _ ≤ _; omega
  have hy : Y.length ≤ maxLen := by have := cutI_len h2; have := HX.out; omega
  have HZ : Hid ((Y.drop (tw notD Y)).length ≤ maxLen) := by show _ ≤ _; rw [List.length_drop]; omega
  have H := Lib.hid h
  have H2 := Lib.hid h2
  have H3 := Lib.hid h3
  have hne : (Y == []) = false := by cases Y <;> simp_all
  have hne2 : Y.isEmpty = false := by cases Y <;> simp_all
  have hb2 : ((bl Y 0 : Int) == 46) = false := by simp; omega
  have H4 := Lib.hid h4
  have H5 := Lib.hid h5
  have H6 := Lib.hid h6
  clear h h2 h3 hb h4 h5 h6
  unfold maxLen at hs hy
  go_enter Try.func66, Try.ntmps66
  go_wp2_with fail
  refine (cut_some _ HS.out H.out).mono ?_
  rintro e w' ⟨rfl, n, rfl⟩
  go_wp2_with fail
  refine (cut_some _ HX.out H2.out).mono ?_
  rintro e w' ⟨rfl, n2, rfl⟩
  go_wp2
  go_loop [5] (fun i => ∃ k : Nat, k ≤ Y.length ∧ k ≤ tw notD Y ∧ i = .int .i64 k) (fun i => Y.length - (intOf i).toNat)
  case atStart => exact ⟨0, Nat.zero_le _, Nat.zero_le _, rfl⟩
  case round =>
    obtain ⟨k, hk, hkt, rfl⟩ := hrel
    by_cases hgo : ∃ h : k < Y.length, notD Y[k] = true
    · obtain ⟨hlt, hd⟩ := hgo
      have hn : k + 1 ≤ tw notD Y := tw_step notD Y k hlt hkt hd
      have hl := all_at isL notD Y k hlt (by omega) H3.out
      have hc := isL_bl Y k hlt
      rw [hl] at hc
      simp at hc
      obtain ⟨h1, h2⟩ := hc
      have h5 : 48 ≤ bl Y k := by omega
      have h6 : 57 < bl Y k := by omega
      clear hd hl
      go_wp2
      go_round
      case rel => exact ⟨k + 1, by omega, by omega, by go_num⟩
      case measure => simp [intOf]; omega
    · obtain ⟨hkk, hstop⟩ : k = tw notD Y ∧ (Y.length ≤ k ∨ (k < Y.length ∧ 48 ≤ bl Y k ∧ bl Y k ≤ 57)) := by
        by_cases hlt : k < Y.length
        · have hd : notD Y[k] = false := by simpa using fun h => hgo ⟨hlt, h⟩
          refine ⟨tw_stop notD Y k hlt hkt hd, .inr ⟨hlt, ?_⟩⟩
          rw [notD_bl Y k hlt] at hd
          simp at hd
          exact hd
        · exact ⟨tw_end notD Y k (by omega) hkt, .inl (by omega)⟩
      clear hgo hkt
      have hk0 : 0 < k := by rw [hkk]; exact H4.out
      have hlt : k < Y.length := by have := H5.out; rw [← hkk, List.length_drop] at this; omega
      obtain ⟨h', h''⟩ : 48 ≤ bl Y k ∧ bl Y k ≤ 57 := by omega
      have e0 : ((k : Int) == 0) = false := by simp; omega
      have hdz : (Y.drop k).isEmpty = false := by
        have h7 : 0 < (Y.drop k).length := by rw [List.length_drop]; omega
        cases hz : Y.drop k with
        | nil => rw [hz] at h7; simp at h7
        | cons => rfl
      have HK := Lib.hid hkk
      clear hkk hstop
      go_wp2
      go_region
      go_wp2_with fail
      rw [HK.out]
      refine (cut_some _ HZ.out H6.out).mono ?_
      rintro e w' ⟨rfl, n3, rfl⟩
      go_wp2
      refine bodyPost_ret (v := gv ⟨M, m, [], Y.take (tw notD Y), p⟩) ?_ rfl ⟨rfl, ?_⟩
      · simp [results, Try.results66, go_sem, gv]; rfl
      repeat' (first | exact Below.refl _ _ | refine below_drewN ?_ _ | refine Below.drew ?_ | refine Below.alloc ?_ ?_ _ | refine Below.setCell ?_ ?_ _ | go_size)
set_option maxRecDepth 100000 in
set_option maxHeartbeats 1000000 in
theorem parse_kd (l M x m Y p z : Bytes) (d : UInt8) (w : World) (hs : l.length ≤ maxLen) (h : cutI l = some (M, 46 :: x)) (h2 : cutI x = some (m, Y)) (hY : 0 < Y.length) (hb : bl Y 0 ≠ 46) (h3 : (Y.takeWhile notD).all isL = true) (h4 : 0 < tw notD Y) (h5 : 0 < (Y.drop (tw notD Y)).length) (h6 : cutI (Y.drop (tw notD Y)) = some (p, d :: z)) :
    Calls Try.prog 66 #[.string (bs l)] w fun e w' => e = .returned (gv zero) ∧ Below w.heap.size w w' := by
  have HS := Lib.hid hs
  have HL := Lib.hid (cutI_len h)
  have HX : Hid (x.length ≤ maxLen) := by have := HL.out; simp at this; show _ ≤ _; omega
  have hy : Y.length ≤ maxLen := by have := cutI_len h2; have := HX.out; omega
  have HZ : Hid ((Y.drop (tw notD Y)).length ≤ maxLen) := by show _ ≤ _; rw [List.length_drop]; omega
  have H := Lib.hid h
  have H2 := Lib.hid h2
  have H3 := Lib.hid h3
  have hne : (Y == []) = false := by cases Y <;> simp_all
  have hne2 : Y.isEmpty = false := by cases Y <;> simp_all
  have hb2 : ((bl Y 0 : Int) == 46) = false := by simp; omega
  have H4 := Lib.hid h4
  have H5 := Lib.hid h5
  have H6 := Lib.hid h6
  clear h h2 h3 hb h4 h5 h6
  unfold maxLen at hs hy
  go_enter Try.func66, Try.ntmps66
  go_wp2_with fail
  refine (cut_some _ HS.out H.out).mono ?_
  rintro e w' ⟨rfl, n, rfl⟩
  go_wp2_with fail
  refine (cut_some _ HX.out H2.out).mono ?_
  rintro e w' ⟨rfl, n2, rfl⟩
  go_wp2
  go_loop [5] (fun i => ∃ k : Nat, k ≤ Y.length ∧ k ≤ tw notD Y ∧ i = .int .i64 k) (fun i => Y.length - (intOf i).toNat)
  case atStart => exact ⟨0, Nat.zero_le _, Nat.zero_le _, rfl⟩
  case round =>
    obtain ⟨k, hk, hkt, rfl⟩ := hrel
    by_cases hgo : ∃ h : k < Y.length, notD Y[k] = true
    · obtain ⟨hlt, hd⟩ := hgo
      have hn : k + 1 ≤ tw notD Y := tw_step notD Y k hlt hkt hd
      have hl := all_at isL notD Y k hlt (by omega) H3.out
      have hc := isL_bl Y k hlt
      rw [hl] at hc
      simp at hc
      obtain ⟨h1, h2⟩ := hc
      have h5 : 48 ≤ bl Y k := by omega
      have h6 : 57 < bl Y k := by omega
      clear hd hl
      go_wp2
      go_round
      case rel => exact ⟨k + 1, by omega, by omega, by go_num⟩
      case measure => simp [intOf]; omega
    · obtain ⟨hkk, hstop⟩ : k = tw notD Y ∧ (Y.length ≤ k ∨ (k < Y.length ∧ 48 ≤ bl Y k ∧ bl Y k ≤ 57)) := by
        by_cases hlt : k < Y.length
        · have hd : notD Y[k] = false := by simpa using fun h => hgo ⟨hlt, h⟩
          refine ⟨tw_stop notD Y k hlt hkt hd, .inr ⟨hlt, ?_⟩⟩
          rw [notD_bl Y k hlt] at hd
          simp at hd
          exact hd
        · exact ⟨tw_end notD Y k (by omega) hkt, .inl (by omega)⟩
      clear hgo hkt
      have hk0 : 0 < k := by rw [hkk]; exact H4.out
      have hlt : k < Y.length := by have := H5.out; rw [← hkk, List.length_drop] at this; omega
      obtain ⟨h', h''⟩ : 48 ≤ bl Y k ∧ bl Y k ≤ 57 := by omega
      have e0 : ((k : Int) == 0) = false := by simp; omega
      have hdz : (Y.drop k).isEmpty = false := by
        have h7 : 0 < (Y.drop k).length := by rw [List.length_drop]; omega
        cases hz : Y.drop k with
        | nil => rw [hz] at h7; simp at h7
        | cons => rfl
      have HK := Lib.hid hkk
      clear hkk hstop
      go_wp2
      go_region
      go_wp2_with fail
      rw [HK.out]
      refine (cut_some _ HZ.out H6.out).mono ?_
      rintro e w' ⟨rfl, n3, rfl⟩
      go_wp2
      refine bodyPost_ret (v := gv zero) ?_ rfl ⟨rfl, ?_⟩
      · simp [results, Try.results66, go_sem, gv]; exact ⟨rfl, rfl, rfl, rfl, rfl⟩
      repeat' (first | exact Below.refl _ _ | refine below_drewN ?_ _ | refine Below.drew ?_ | refine Below.alloc ?_ ?_ _ | refine Below.setCell ?_ ?_ _ | go_size)

theorem bl_head_ne {c : UInt8} {y : Bytes} (hc : ¬ c = 46) : bl (c :: y) 0 ≠ 46 := fun e => hc (UInt8.toNat_inj.1 (by simpa using e))
theorem parse_any (l : Bytes) (w : World) (hs : l.length ≤ maxLen) :
    Calls Try.prog 66 #[.string (bs l)] w fun e w' => e = .returned (gv (parse l)) ∧ Below w.heap.size w w' := by
  unfold parse
  rcases h : cutI l with _ | ⟨M, _ | ⟨c, x⟩⟩
  · exact parse_1 l w hs h
  · exact parse_2 l M w hs h
  · by_cases hc : c = 46
    · subst hc
      simp only [if_true]
      unfold parse2
      rcases h2 : cutI x with _ | ⟨m, _ | ⟨c2, y⟩⟩
      · exact parse_4 l M x w hs h h2
      · by_cases hl : cmpB m [50, 49] < 0
        · simp only [if_pos hl]; exact parse_5 l M x m w hs h h2 hl
        · simp only [if_neg hl]; exact parse_6 l M x m w hs h h2 hl
      · by_cases hc2 : c2 = 46
        · subst hc2
          simp only [if_true]
          unfold parse3
          rcases h3 : cutI y with _ | ⟨p, _ | ⟨d, z⟩⟩
          · exact parse_7 l M x m y [] [] 0 w hs h h2 h3
          · exact parse_8 l M x m y p [] 0 w hs h h2 h3
          · exact parse_9 l M x m y p z d w hs h h2 h3
        · simp only [if_neg hc2]
          unfold parse4
          have hY : 0 < (c2 :: y).length := by simp
          have hb := bl_head_ne (y := y) hc2
          generalize c2 :: y = Y at *
          by_cases ha : (Y.takeWhile notD).all isL = false
          · rw [if_pos ha]; exact parse_bad l M x m Y w hs h h2 hY hb ha
          · rw [if_neg ha]
            have ha' : (Y.takeWhile notD).all isL = true := by simpa using ha
            rw [← take_tw, ← drop_tw]
            by_cases h4 : tw notD Y = 0
            · rw [if_pos (by rw [h4]; rfl)]
              exact parse_k0 l M x m Y [] [] 0 w hs h h2 hY hb ha' h4
            · have h4' : 0 < tw notD Y := by omega
              rw [if_neg (by intro e; have h7 := congrArg List.length e; rw [List.length_take, Nat.min_eq_left (tw_le notD Y)] at h7; exact h4 h7)]
              by_cases h5 : Y.drop (tw notD Y) = []
              · rw [if_pos h5]; exact parse_kz l M x m Y [] [] 0 w hs h h2 hY hb ha' h4' h5
              · rw [if_neg h5]
                have h5' : 0 < (Y.drop (tw notD Y)).length := List.length_pos_iff.2 h5
                rcases h6 : cutI (Y.drop (tw notD Y)) with _ | ⟨p, _ | ⟨d, z⟩⟩
                · exact parse_kn l M x m Y [] [] 0 w hs h h2 hY hb ha' h4' h5' h6
                · exact parse_ks l M x m Y p [] 0 w hs h h2 hY hb ha' h4' h5' h6
                · exact parse_kd l M x m Y p z d w hs h h2 hY hb ha' h4' h5' h6
    · simp only [if_neg hc]; exact parse_3 l M x c w hs h hc
end Go.Proofs.Ytdhibalpnccbiaa
