/- spec.CompareSemantic: two versions. -/
import Derived.Test.YtdhibalpnccbiaaCmpS
namespace Go.Proofs.Ytdhibalpnccbiaa
open Go.RowKit
set_option linter.unusedVariables false
set_option maxRecDepth 100000 in
set_option maxHeartbeats 1000000 in
theorem cs_0 (x y : Bytes) (w : World) (hx : x.length ≤ 900) (hy : y.length ≤ 900) (S T : SV) (h1 : semP x = some S) (h2 : semP y = some T) (n0 : cmpB S.maj T.maj ≠ 0) :
    Calls Try.prog 41 #[.string (bs x), .string (bs y)] w fun e w' => e = .returned (.int .i64 (cmpV x y)) ∧ Below w.heap.size w w' := by
  have HX : Hid (x.length ≤ 1000) := Lib.hid (by omega)
  have HY : Hid (y.length ≤ 1000) := Lib.hid (by omega)
  have H1 := Lib.hid h1
  have H2 := Lib.hid h2
  have hv := cmpV_ss h1 h2
  rw [thenC_1 n0] at hv
  have HV := Lib.hid hv
  have q0 : (cmpB S.maj T.maj != 0) = true := by simp [n0]
  clear hx hy h1 h2 hv n0
  go_enter Try.func41, Try.ntmps41
  go_wp2_with fail
  refine (smt_ok _ HX.out H1.out).mono ?_
  rintro e w1 ⟨rfl, hbw1⟩
  unfold sxv
  unfold toX
  obtain ⟨M, m, p, sh, q, u⟩ := S
  obtain ⟨M', m', p', sh', q', u'⟩ := T
  simp only at *
  generalize (if sh = [46, 48, 46, 48] then 1 else if sh = [46, 48] then 2 else 3) = t1
  have HB := Lib.hid (hbw1.alloc hbw1.size (.cells #[.string (bs M), .string (bs m), .string (bs p), .string (bs q), .string (bs u), .int .i64 t1] 37))
  go_wp2_with fail
  refine (smt_ok _ HY.out H2.out).mono ?_
  rintro e w2 ⟨rfl, hbw2⟩
  unfold sxv
  unfold toX
  simp only at *
  generalize (if sh' = [46, 48, 46, 48] then 1 else if sh' = [46, 48] then 2 else 3) = t2
  have c0 := cell_later hbw2 (a := ⟨w1.heap.size, 0, none⟩) (v := .string (bs M)) (by simp)
  have c1 := cell_later hbw2 (a := ⟨w1.heap.size, 1, none⟩) (v := .string (bs m)) (by simp)
  have c2 := cell_later hbw2 (a := ⟨w1.heap.size, 2, none⟩) (v := .string (bs p)) (by simp)
  have c3 := cell_later hbw2 (a := ⟨w1.heap.size, 3, none⟩) (v := .string (bs q)) (by simp)
  have hz2 : w1.heap.size < w2.heap.size := by have := hbw2.size; simp at this; omega
  have HB2 := Lib.hid ((below_next HB.out hbw2).alloc (by have := hbw1.size; omega) (.cells #[.string (bs M'), .string (bs m'), .string (bs p'), .string (bs q'), .string (bs u'), .int .i64 t2] 37))
  clear hbw1 hbw2
  go_wp2
  refine wp_loop_rounds 4 ?_
  rw [rounds_succ]
  go_wp2
  go_quiet ((go_at_call 26; first | exact Calls.quiet_of_same (nums_q _ _ _) | exact calls_again (nums_any _ _ _)))
  go_wp2
  go_ret
  refine ⟨by rw [HV.out]; rfl, ?_⟩
  repeat' (first | exact HB2.out | refine below_drewN ?_ _ | refine Below.drew ?_)
set_option maxRecDepth 100000 in
set_option maxHeartbeats 1000000 in
theorem cs_1 (x y : Bytes) (w : World) (hx : x.length ≤ 900) (hy : y.length ≤ 900) (S T : SV) (h1 : semP x = some S) (h2 : semP y = some T) (n0 : cmpB S.maj T.maj = 0) (n1 : cmpB S.min T.min ≠ 0) :
    Calls Try.prog 41 #[.string (bs x), .string (bs y)] w fun e w' => e = .returned (.int .i64 (cmpV x y)) ∧ Below w.heap.size w w' := by
  have HX : Hid (x.length ≤ 1000) := Lib.hid (by omega)
  have HY : Hid (y.length ≤ 1000) := Lib.hid (by omega)
  have H1 := Lib.hid h1
  have H2 := Lib.hid h2
  have hv := cmpV_ss h1 h2
  rw [thenC_0 n0, thenC_1 n1] at hv
  have HV := Lib.hid hv
  have q0 : (cmpB S.maj T.maj != 0) = false := by simp [n0]
  have q1 : (cmpB S.min T.min != 0) = true := by simp [n1]
  clear hx hy h1 h2 hv n0 n1
  go_enter Try.func41, Try.ntmps41
  go_wp2_with fail
  refine (smt_ok _ HX.out H1.out).mono ?_
  rintro e w1 ⟨rfl, hbw1⟩
  unfold sxv
  unfold toX
  obtain ⟨M, m, p, sh, q, u⟩ := S
  obtain ⟨M', m', p', sh', q', u'⟩ := T
  simp only at *
  generalize (if sh = [46, 48, 46, 48] then 1 else if sh = [46, 48] then 2 else 3) = t1
  have HB := Lib.hid (hbw1.alloc hbw1.size (.cells #[.string (bs M), .string (bs m), .string (bs p), .string (bs q), .string (bs u), .int .i64 t1] 37))
  go_wp2_with fail
  refine (smt_ok _ HY.out H2.out).mono ?_
  rintro e w2 ⟨rfl, hbw2⟩
  unfold sxv
  unfold toX
  simp only at *
  generalize (if sh' = [46, 48, 46, 48] then 1 else if sh' = [46, 48] then 2 else 3) = t2
  have c0 := cell_later hbw2 (a := ⟨w1.heap.size, 0, none⟩) (v := .string (bs M)) (by simp)
  have c1 := cell_later hbw2 (a := ⟨w1.heap.size, 1, none⟩) (v := .string (bs m)) (by simp)
  have c2 := cell_later hbw2 (a := ⟨w1.heap.size, 2, none⟩) (v := .string (bs p)) (by simp)
  have c3 := cell_later hbw2 (a := ⟨w1.heap.size, 3, none⟩) (v := .string (bs q)) (by simp)
  have hz2 : w1.heap.size < w2.heap.size := by have := hbw2.size; simp at this; omega
  have HB2 := Lib.hid ((below_next HB.out hbw2).alloc (by have := hbw1.size; omega) (.cells #[.string (bs M'), .string (bs m'), .string (bs p'), .string (bs q'), .string (bs u'), .int .i64 t2] 37))
  clear hbw1 hbw2
  go_wp2
  refine wp_loop_rounds 4 ?_
  rw [rounds_succ]
  go_wp2
  go_quiet ((go_at_call 26; first | exact Calls.quiet_of_same (nums_q _ _ _) | exact calls_again (nums_any _ _ _)))
  go_wp2
  rw [rounds_succ]
  go_wp2
  go_quiet ((go_at_call 26; first | exact Calls.quiet_of_same (nums_q _ _ _) | exact calls_again (nums_any _ _ _)))
  go_wp2
  go_ret
  refine ⟨by rw [HV.out]; rfl, ?_⟩
  repeat' (first | exact HB2.out | refine below_drewN ?_ _ | refine Below.drew ?_)
set_option maxRecDepth 100000 in
set_option maxHeartbeats 1000000 in
theorem cs_2 (x y : Bytes) (w : World) (hx : x.length ≤ 900) (hy : y.length ≤ 900) (S T : SV) (h1 : semP x = some S) (h2 : semP y = some T) (n0 : cmpB S.maj T.maj = 0) (n1 : cmpB S.min T.min = 0) (n2 : cmpB S.pat T.pat ≠ 0) :
    Calls Try.prog 41 #[.string (bs x), .string (bs y)] w fun e w' => e = .returned (.int .i64 (cmpV x y)) ∧ Below w.heap.size w w' := by
  have HX : Hid (x.length ≤ 1000) := Lib.hid (by omega)
  have HY : Hid (y.length ≤ 1000) := Lib.hid (by omega)
  have H1 := Lib.hid h1
  have H2 := Lib.hid h2
  have hv := cmpV_ss h1 h2
  rw [thenC_0 n0, thenC_0 n1, thenC_1 n2] at hv
  have HV := Lib.hid hv
  have q0 : (cmpB S.maj T.maj != 0) = false := by simp [n0]
  have q1 : (cmpB S.min T.min != 0) = false := by simp [n1]
  have q2 : (cmpB S.pat T.pat != 0) = true := by simp [n2]
  clear hx hy h1 h2 hv n0 n1 n2
  go_enter Try.func41, Try.ntmps41
  go_wp2_with fail
  refine (smt_ok _ HX.out H1.out).mono ?_
  rintro e w1 ⟨rfl, hbw1⟩
  unfold sxv
  unfold toX
  obtain ⟨M, m, p, sh, q, u⟩ := S
  obtain ⟨M', m', p', sh', q', u'⟩ := T
  simp only at *
  generalize (if sh = [46, 48, 46, 48] then 1 else if sh = [46, 48] then 2 else 3) = t1
  have HB := Lib.hid (hbw1.alloc hbw1.size (.cells #[.string (bs M), .string (bs m), .string (bs p), .string (bs q), .string (bs u), .int .i64 t1] 37))
  go_wp2_with fail
  refine (smt_ok _ HY.out H2.out).mono ?_
  rintro e w2 ⟨rfl, hbw2⟩
  unfold sxv
  unfold toX
  simp only at *
  generalize (if sh' = [46, 48, 46, 48] then 1 else if sh' = [46, 48] then 2 else 3) = t2
  have c0 := cell_later hbw2 (a := ⟨w1.heap.size, 0, none⟩) (v := .string (bs M)) (by simp)
  have c1 := cell_later hbw2 (a := ⟨w1.heap.size, 1, none⟩) (v := .string (bs m)) (by simp)
  have c2 := cell_later hbw2 (a := ⟨w1.heap.size, 2, none⟩) (v := .string (bs p)) (by simp)
  have c3 := cell_later hbw2 (a := ⟨w1.heap.size, 3, none⟩) (v := .string (bs q)) (by simp)
  have hz2 : w1.heap.size < w2.heap.size := by have := hbw2.size; simp at this; omega
  have HB2 := Lib.hid ((below_next HB.out hbw2).alloc (by have := hbw1.size; omega) (.cells #[.string (bs M'), .string (bs m'), .string (bs p'), .string (bs q'), .string (bs u'), .int .i64 t2] 37))
  clear hbw1 hbw2
  go_wp2
  refine wp_loop_rounds 4 ?_
  rw [rounds_succ]
  go_wp2
  go_quiet ((go_at_call 26; first | exact Calls.quiet_of_same (nums_q _ _ _) | exact calls_again (nums_any _ _ _)))
  go_wp2
  rw [rounds_succ]
  go_wp2
  go_quiet ((go_at_call 26; first | exact Calls.quiet_of_same (nums_q _ _ _) | exact calls_again (nums_any _ _ _)))
  go_wp2
  rw [rounds_succ]
  go_wp2
  go_quiet ((go_at_call 26; first | exact Calls.quiet_of_same (nums_q _ _ _) | exact calls_again (nums_any _ _ _)))
  go_wp2
  go_ret
  refine ⟨by rw [HV.out]; rfl, ?_⟩
  repeat' (first | exact HB2.out | refine below_drewN ?_ _ | refine Below.drew ?_)
set_option maxRecDepth 100000 in
set_option maxHeartbeats 1000000 in
theorem cs_3 (x y : Bytes) (w : World) (hx : x.length ≤ 900) (hy : y.length ≤ 900) (S T : SV) (h1 : semP x = some S) (h2 : semP y = some T) (n0 : cmpB S.maj T.maj = 0) (n1 : cmpB S.min T.min = 0) (n2 : cmpB S.pat T.pat = 0) :
    Calls Try.prog 41 #[.string (bs x), .string (bs y)] w fun e w' => e = .returned (.int .i64 (cmpV x y)) ∧ Below w.heap.size w w' := by
  have HX : Hid (x.length ≤ 1000) := Lib.hid (by omega)
  have HY : Hid (y.length ≤ 1000) := Lib.hid (by omega)
  have H1 := Lib.hid h1
  have H2 := Lib.hid h2
  have hv := cmpV_ss h1 h2
  rw [thenC_0 n0, thenC_0 n1, thenC_0 n2] at hv
  have HV := Lib.hid hv
  have HPC := Lib.hid (fun W => preS_any S.pre T.pre W (Nat.le_trans (sem_pre_len h1) hx) (Nat.le_trans (sem_pre_len h2) hy) (sem_dash h1) (sem_dash h2) (sem_segs h1) (sem_segs h2))
  have q0 : (cmpB S.maj T.maj != 0) = false := by simp [n0]
  have q1 : (cmpB S.min T.min != 0) = false := by simp [n1]
  have q2 : (cmpB S.pat T.pat != 0) = false := by simp [n2]
  clear hx hy h1 h2 hv n0 n1 n2
  go_enter Try.func41, Try.ntmps41
  go_wp2_with fail
  refine (smt_ok _ HX.out H1.out).mono ?_
  rintro e w1 ⟨rfl, hbw1⟩
  unfold sxv
  unfold toX
  obtain ⟨M, m, p, sh, q, u⟩ := S
  obtain ⟨M', m', p', sh', q', u'⟩ := T
  simp only at *
  generalize (if sh = [46, 48, 46, 48] then 1 else if sh = [46, 48] then 2 else 3) = t1
  have HB := Lib.hid (hbw1.alloc hbw1.size (.cells #[.string (bs M), .string (bs m), .string (bs p), .string (bs q), .string (bs u), .int .i64 t1] 37))
  go_wp2_with fail
  refine (smt_ok _ HY.out H2.out).mono ?_
  rintro e w2 ⟨rfl, hbw2⟩
  unfold sxv
  unfold toX
  simp only at *
  generalize (if sh' = [46, 48, 46, 48] then 1 else if sh' = [46, 48] then 2 else 3) = t2
  have c0 := cell_later hbw2 (a := ⟨w1.heap.size, 0, none⟩) (v := .string (bs M)) (by simp)
  have c1 := cell_later hbw2 (a := ⟨w1.heap.size, 1, none⟩) (v := .string (bs m)) (by simp)
  have c2 := cell_later hbw2 (a := ⟨w1.heap.size, 2, none⟩) (v := .string (bs p)) (by simp)
  have c3 := cell_later hbw2 (a := ⟨w1.heap.size, 3, none⟩) (v := .string (bs q)) (by simp)
  have hz2 : w1.heap.size < w2.heap.size := by have := hbw2.size; simp at this; omega
  have HB2 := Lib.hid ((below_next HB.out hbw2).alloc (by have := hbw1.size; omega) (.cells #[.string (bs M'), .string (bs m'), .string (bs p'), .string (bs q'), .string (bs u'), .int .i64 t2] 37))
  clear hbw1 hbw2
  go_wp2
  refine wp_loop_rounds 4 ?_
  rw [rounds_succ]
  go_wp2
  go_quiet ((go_at_call 26; first | exact Calls.quiet_of_same (nums_q _ _ _) | exact calls_again (nums_any _ _ _)))
  go_wp2
  rw [rounds_succ]
  go_wp2
  go_quiet ((go_at_call 26; first | exact Calls.quiet_of_same (nums_q _ _ _) | exact calls_again (nums_any _ _ _)))
  go_wp2
  rw [rounds_succ]
  go_wp2
  go_quiet ((go_at_call 26; first | exact Calls.quiet_of_same (nums_q _ _ _) | exact calls_again (nums_any _ _ _)))
  go_wp2
  rw [rounds_succ]
  go_wp2_with fail
  refine (HPC.out _).mono ?_
  rintro e w3 ⟨rfl, hb3⟩
  go_wp2
  go_ret
  refine ⟨by rw [HV.out]; rfl, below_next ?_ hb3⟩
  repeat' (first | exact HB2.out | refine below_drewN ?_ _ | refine Below.drew ?_)
theorem cs_any (x y : Bytes) (w : World) (hx : x.length ≤ 900) (hy : y.length ≤ 900) :
    Calls Try.prog 41 #[.string (bs x), .string (bs y)] w fun e w' => e = .returned (.int .i64 (cmpV x y)) ∧ Below w.heap.size w w' := by
  cases h1 : semP x with
  | none =>
    cases h2 : semP y with
    | none => exact cs_nn x y w hx hy h1 h2
    | some T => exact cs_ns x y w hx hy T h1 h2
  | some S =>
    cases h2 : semP y with
    | none => exact cs_sn x y w hx hy S h1 h2
    | some T =>
      by_cases n0 : cmpB S.maj T.maj = 0
      · by_cases n1 : cmpB S.min T.min = 0
        · by_cases n2 : cmpB S.pat T.pat = 0
          · exact cs_3 x y w hx hy S T h1 h2 n0 n1 n2
          · exact cs_2 x y w hx hy S T h1 h2 n0 n1 n2
        · exact cs_1 x y w hx hy S T h1 h2 n0 n1
      · exact cs_0 x y w hx hy S T h1 h2 n0
end Go.Proofs.Ytdhibalpnccbiaa
