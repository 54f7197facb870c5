/- gover.Compare. -/
import Derived.Test.YtdhibalpnccbiaaL2
namespace Go.Proofs.Ytdhibalpnccbiaa
open Go.RowKit
set_option linter.unusedVariables false
theorem cmpS_eq {a b : Bytes} (h : (a == b) = true) : 0 = cmpS a b := by
  simp at h; simp [cmpS, h]
theorem cmpS_less {a b : Bytes} (h : (a == b) = false) (h2 : Op.bytesLess a b = true) : -1 = cmpS a b := by
  simp at h; simp [bytesLess_eq] at h2; simp [cmpS, h, h2]
theorem cmpS_more {a b : Bytes} (h : (a == b) = false) (h2 : Op.bytesLess a b = false) : 1 = cmpS a b := by
  simp at h; simp [bytesLess_eq] at h2; simp [cmpS, h, h2]
set_option maxHeartbeats 400000 in
theorem cmpStr (a b : Bytes) (w : World) : Calls Try.prog 103 #[.string (bs a), .string (bs b)] w fun e w' => e = .returned (.int .i64 (cmpS a b)) ∧ w = w' := by
  cases h : a == b
  · cases h2 : Op.bytesLess a b
    · have H := Lib.hid (cmpS_more h h2)
      go_enter Try.func103, Try.ntmps103
      go_wp2
      go_ret
      exact ⟨ret_int H.out, rfl⟩
    · have H := Lib.hid (cmpS_less h h2)
      go_enter Try.func103, Try.ntmps103
      go_wp2
      go_ret
      exact ⟨ret_int H.out, rfl⟩
  · have H := Lib.hid (cmpS_eq h)
    have h2 : Op.bytesLess a b = false := by
      simp at h; subst h; simp [bytesLess_eq]
    go_enter Try.func103, Try.ntmps103
    go_wp2
    go_ret
    exact ⟨ret_int H.out, rfl⟩
set_option maxRecDepth 100000 in
set_option maxHeartbeats 1000000 in
theorem cmp92 (x y : Bytes) (w : World) (hx : x.length ≤ maxLen) (hy : y.length ≤ maxLen) :
    Calls Try.prog 92 #[.string (bs x), .string (bs y)] w fun e w' => e = .returned (.int .i64 (cmpG (parse x) (parse y))) ∧ Below w.heap.size w w' := by
  have HX := Lib.hid hx
  have HY := Lib.hid hy
  clear hx hy
  go_enter Try.func92, Try.ntmps92
  go_wp2_with fail
  refine (parse_any _ _ HX.out).mono ?_
  rintro e w1 ⟨rfl, hb⟩
  obtain ⟨gx, hgx⟩ : ∃ g, parse x = g := ⟨_, rfl⟩
  obtain ⟨gy, hgy⟩ : ∃ g, parse y = g := ⟨_, rfl⟩
  have HG : Hid (cmpG (parse x) (parse y) = cmpG gx gy) := by show _ = _; rw [hgx, hgy]
  rw [hgx]
  have HGY := Lib.hid hgy
  clear hgx hgy
  obtain ⟨M, m, p, k, q⟩ := gx
  unfold gv
  have hz := hb.size
  have HB := Lib.hid (hb.alloc hz (.cells #[.string (bs M), .string (bs m), .string (bs p), .string (bs k), .string (bs q)] 69))
  go_wp2_with fail
  refine (parse_any _ _ HY.out).mono ?_
  rintro e w2 ⟨rfl, hb2⟩
  rw [HGY.out]
  obtain ⟨M', m', p', k', q'⟩ := gy
  unfold gv
  have c0 := cell_later hb2 (a := ⟨w1.heap.size, 0, none⟩) (v := .string (bs M)) (by simp)
  have c1 := cell_later hb2 (a := ⟨w1.heap.size, 1, none⟩) (v := .string (bs m)) (by simp)
  have c2 := cell_later hb2 (a := ⟨w1.heap.size, 2, none⟩) (v := .string (bs p)) (by simp)
  have c3 := cell_later hb2 (a := ⟨w1.heap.size, 3, none⟩) (v := .string (bs k)) (by simp)
  have c4 := cell_later hb2 (a := ⟨w1.heap.size, 4, none⟩) (v := .string (bs q)) (by simp)
  have hz2 : w1.heap.size < w2.heap.size := by have := hb2.size; simp at this; omega
  have HB2 := Lib.hid ((below_next HB.out hb2).alloc (by have := hb.size; omega) (.cells #[.string (bs M'), .string (bs m'), .string (bs p'), .string (bs k'), .string (bs q')] 69))
  clear hb hb2
  go_wp2_with fail
  refine (cmpInt_any M M' _).mono ?_
  rintro e w' ⟨rfl, rfl⟩
  by_cases n0 : cmpB M M' = 0
  · have e0 : (cmpB M M' != 0) = false := by simp [n0]
    have HN0 := Lib.hid n0
    clear n0
    go_wp2_with fail
    refine (cmpInt_any m m' _).mono ?_
    rintro e w' ⟨rfl, rfl⟩
    by_cases n1 : cmpB m m' = 0
    · have e1 : (cmpB m m' != 0) = false := by simp [n1]
      have HN1 := Lib.hid n1
      clear n1
      go_wp2_with fail
      refine (cmpInt_any p p' _).mono ?_
      rintro e w' ⟨rfl, rfl⟩
      by_cases n2 : cmpB p p' = 0
      · have e2 : (cmpB p p' != 0) = false := by simp [n2]
        have HN2 := Lib.hid n2
        clear n2
        go_wp2_with fail
        refine (cmpStr k k' _).mono ?_
        rintro e w' ⟨rfl, rfl⟩
        by_cases n3 : cmpS k k' = 0
        · have e3 : (cmpS k k' != 0) = false := by simp [n3]
          have HN3 := Lib.hid n3
          clear n3
          go_wp2_with fail
          refine (cmpInt_any q q' _).mono ?_
          rintro e w' ⟨rfl, rfl⟩
          by_cases n4 : cmpB q q' = 0
          · have e4 : (cmpB q q' != 0) = false := by simp [n4]
            have HN4 := Lib.hid n4
            clear n4
            go_wp2
            go_ret
            exact ⟨by rw [HG.out]; simp [cmpG, HN0.out, HN1.out, HN2.out, HN3.out, HN4.out], HB2.out⟩
          · have e4 : (cmpB q q' != 0) = true := by simp [n4]
            have HN4 := Lib.hid n4
            clear n4
            go_wp2
            go_ret
            exact ⟨by rw [HG.out]; simp [cmpG, HN0.out, HN1.out, HN2.out, HN3.out], HB2.out⟩
        · have e3 : (cmpS k k' != 0) = true := by simp [n3]
          have HN3 := Lib.hid n3
          clear n3
          go_wp2
          go_ret
          exact ⟨by rw [HG.out]; simp [cmpG, HN0.out, HN1.out, HN2.out, HN3.out], HB2.out⟩
      · have e2 : (cmpB p p' != 0) = true := by simp [n2]
        have HN2 := Lib.hid n2
        clear n2
        go_wp2
        go_ret
        exact ⟨by rw [HG.out]; simp [cmpG, HN0.out, HN1.out, HN2.out], HB2.out⟩
    · have e1 : (cmpB m m' != 0) = true := by simp [n1]
      have HN1 := Lib.hid n1
      clear n1
      go_wp2
      go_ret
      exact ⟨by rw [HG.out]; simp [cmpG, HN0.out, HN1.out], HB2.out⟩
  · have e0 : (cmpB M M' != 0) = true := by simp [n0]
    have HN0 := Lib.hid n0
    clear n0
    go_wp2
    go_ret
    exact ⟨by rw [HG.out]; simp [cmpG, HN0.out], HB2.out⟩
end Go.Proofs.Ytdhibalpnccbiaa
