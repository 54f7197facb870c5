/- spec.Compare. -/
import Derived.Test.YtdhibalpnccbiaaCmp
import Derived.LoopN
namespace Go.Proofs.Ytdhibalpnccbiaa
open Go.RowKit
set_option linter.unusedVariables false
theorem nums_q (a b : Bytes) (w : World) : Calls Try.prog 26 #[.string (bs a), .string (bs b)] w fun e w' => e = .returned (.int .i64 (cmpB a b)) ∧ w' = w :=
  (nums_any a b w).mono fun _ _ ⟨h1, h2⟩ => ⟨h1, h2.symm⟩
/-- A quiet call in a world that has drawn before. -/
theorem calls_again {f : FuncId} {args : Array Value} {w : World} {a n : Nat} {v : Value} (h : Calls Try.prog f args (w.drewN (a + n)) fun e w' => e = .returned v ∧ w.drewN (a + n) = w') :
    Calls Try.prog f args (w.drewN (a + n)) fun e w' => e = .returned v ∧ ∃ k, w' = w.drewN (a + k) :=
  h.mono fun _ _ hh => ⟨hh.1, n, hh.2.symm⟩
set_option maxRecDepth 100000 in
set_option maxHeartbeats 1000000 in
theorem cmp60_0 (M m p k q M' m' p' k' q' : Bytes) (w : World)  (h : cmpB M M' ≠ 0) :
    Calls Try.prog 60 #[gv ⟨M, m, p, k, q⟩, gv ⟨M', m', p', k', q'⟩] w fun e w' => e = .returned (.int .i64 (cmpB M M')) ∧ Below w.heap.size w w' := by
  have e9 : (cmpB M M' != 0) = true := by simp [h]
  clear h
  unfold gv
  go_enter Try.func60, Try.ntmps60
  go_wp2
  refine wp_loop_rounds 4 ?_
  rw [rounds_succ]
  go_wp2
  go_quiet ((go_at_call 26; first | exact Calls.quiet_of_same (nums_q _ _ _) | exact calls_again (nums_any _ _ _)))
  go_wp2
  go_ret
  refine ⟨rfl, ?_⟩
  repeat' (first | exact Below.refl _ _ | refine below_drewN ?_ _ | refine Below.drew ?_ | refine Below.alloc ?_ ?_ _ | refine Below.setCell ?_ ?_ _ | go_size)
set_option maxRecDepth 100000 in
set_option maxHeartbeats 1000000 in
theorem cmp60_1 (M m p k q M' m' p' k' q' : Bytes) (w : World) (n0 : cmpB M M' = 0) (h : cmpB m m' ≠ 0) :
    Calls Try.prog 60 #[gv ⟨M, m, p, k, q⟩, gv ⟨M', m', p', k', q'⟩] w fun e w' => e = .returned (.int .i64 (cmpB m m')) ∧ Below w.heap.size w w' := by
  have e0 : (cmpB M M' != 0) = false := by simp [n0]
  clear n0
  have e9 : (cmpB m m' != 0) = true := by simp [h]
  clear h
  unfold gv
  go_enter Try.func60, Try.ntmps60
  go_wp2
  refine wp_loop_rounds 4 ?_
  rw [rounds_succ]
  go_wp2
  go_quiet ((go_at_call 26; first | exact Calls.quiet_of_same (nums_q _ _ _) | exact calls_again (nums_any _ _ _)))
  go_wp2
  rw [rounds_succ]
  go_wp2
  go_quiet ((go_at_call 26; first | exact Calls.quiet_of_same (nums_q _ _ _) | exact calls_again (nums_any _ _ _)))
  go_wp2
  go_ret
  refine ⟨rfl, ?_⟩
  repeat' (first | exact Below.refl _ _ | refine below_drewN ?_ _ | refine Below.drew ?_ | refine Below.alloc ?_ ?_ _ | refine Below.setCell ?_ ?_ _ | go_size)
set_option maxRecDepth 100000 in
set_option maxHeartbeats 1000000 in
theorem cmp60_2 (M m p k q M' m' p' k' q' : Bytes) (w : World) (n0 : cmpB M M' = 0) (n1 : cmpB m m' = 0) (h : cmpB p p' ≠ 0) :
    Calls Try.prog 60 #[gv ⟨M, m, p, k, q⟩, gv ⟨M', m', p', k', q'⟩] w fun e w' => e = .returned (.int .i64 (cmpB p p')) ∧ Below w.heap.size w w' := by
  have e0 : (cmpB M M' != 0) = false := by simp [n0]
  have e1 : (cmpB m m' != 0) = false := by simp [n1]
  clear n0 n1
  have e9 : (cmpB p p' != 0) = true := by simp [h]
  clear h
  unfold gv
  go_enter Try.func60, Try.ntmps60
  go_wp2
  refine wp_loop_rounds 4 ?_
  rw [rounds_succ]
  go_wp2
  go_quiet ((go_at_call 26; first | exact Calls.quiet_of_same (nums_q _ _ _) | exact calls_again (nums_any _ _ _)))
  go_wp2
  rw [rounds_succ]
  go_wp2
  go_quiet ((go_at_call 26; first | exact Calls.quiet_of_same (nums_q _ _ _) | exact calls_again (nums_any _ _ _)))
  go_wp2
  rw [rounds_succ]
  go_wp2
  go_quiet ((go_at_call 26; first | exact Calls.quiet_of_same (nums_q _ _ _) | exact calls_again (nums_any _ _ _)))
  go_wp2
  go_ret
  refine ⟨rfl, ?_⟩
  repeat' (first | exact Below.refl _ _ | refine below_drewN ?_ _ | refine Below.drew ?_ | refine Below.alloc ?_ ?_ _ | refine Below.setCell ?_ ?_ _ | go_size)
set_option maxRecDepth 100000 in
set_option maxHeartbeats 1000000 in
theorem cmp60_3 (M m p k q M' m' p' k' q' : Bytes) (w : World) (n0 : cmpB M M' = 0) (n1 : cmpB m m' = 0) (n2 : cmpB p p' = 0) (h : (k == k') = false) (h2 : Op.bytesLess k k' = true) :
    Calls Try.prog 60 #[gv ⟨M, m, p, k, q⟩, gv ⟨M', m', p', k', q'⟩] w fun e w' => e = .returned (.int .i64 (-1)) ∧ Below w.heap.size w w' := by
  have e0 : (cmpB M M' != 0) = false := by simp [n0]
  have e1 : (cmpB m m' != 0) = false := by simp [n1]
  have e2 : (cmpB p p' != 0) = false := by simp [n2]
  clear n0 n1 n2
  unfold gv
  go_enter Try.func60, Try.ntmps60
  go_wp2
  refine wp_loop_rounds 4 ?_
  rw [rounds_succ]
  go_wp2
  go_quiet ((go_at_call 26; first | exact Calls.quiet_of_same (nums_q _ _ _) | exact calls_again (nums_any _ _ _)))
  go_wp2
  rw [rounds_succ]
  go_wp2
  go_quiet ((go_at_call 26; first | exact Calls.quiet_of_same (nums_q _ _ _) | exact calls_again (nums_any _ _ _)))
  go_wp2
  rw [rounds_succ]
  go_wp2
  go_quiet ((go_at_call 26; first | exact Calls.quiet_of_same (nums_q _ _ _) | exact calls_again (nums_any _ _ _)))
  go_wp2
  rw [rounds_succ]
  go_wp2_with fail
  go_ret
  refine ⟨rfl, ?_⟩
  repeat' (first | exact Below.refl _ _ | refine below_drewN ?_ _ | refine Below.drew ?_ | refine Below.alloc ?_ ?_ _ | refine Below.setCell ?_ ?_ _ | go_size)
set_option maxRecDepth 100000 in
set_option maxHeartbeats 1000000 in
theorem cmp60_4 (M m p k q M' m' p' k' q' : Bytes) (w : World) (n0 : cmpB M M' = 0) (n1 : cmpB m m' = 0) (n2 : cmpB p p' = 0) (h : (k == k') = false) (h2 : Op.bytesLess k k' = false) :
    Calls Try.prog 60 #[gv ⟨M, m, p, k, q⟩, gv ⟨M', m', p', k', q'⟩] w fun e w' => e = .returned (.int .i64 1) ∧ Below w.heap.size w w' := by
  have e0 : (cmpB M M' != 0) = false := by simp [n0]
  have e1 : (cmpB m m' != 0) = false := by simp [n1]
  have e2 : (cmpB p p' != 0) = false := by simp [n2]
  clear n0 n1 n2
  unfold gv
  go_enter Try.func60, Try.ntmps60
  go_wp2
  refine wp_loop_rounds 4 ?_
  rw [rounds_succ]
  go_wp2
  go_quiet ((go_at_call 26; first | exact Calls.quiet_of_same (nums_q _ _ _) | exact calls_again (nums_any _ _ _)))
  go_wp2
  rw [rounds_succ]
  go_wp2
  go_quiet ((go_at_call 26; first | exact Calls.quiet_of_same (nums_q _ _ _) | exact calls_again (nums_any _ _ _)))
  go_wp2
  rw [rounds_succ]
  go_wp2
  go_quiet ((go_at_call 26; first | exact Calls.quiet_of_same (nums_q _ _ _) | exact calls_again (nums_any _ _ _)))
  go_wp2
  rw [rounds_succ]
  go_wp2_with fail
  go_ret
  refine ⟨rfl, ?_⟩
  repeat' (first | exact Below.refl _ _ | refine below_drewN ?_ _ | refine Below.drew ?_ | refine Below.alloc ?_ ?_ _ | refine Below.setCell ?_ ?_ _ | go_size)
set_option maxRecDepth 100000 in
set_option maxHeartbeats 1000000 in
theorem cmp60_5 (M m p k q M' m' p' k' q' : Bytes) (w : World) (n0 : cmpB M M' = 0) (n1 : cmpB m m' = 0) (n2 : cmpB p p' = 0) (h : (k == k') = true) :
    Calls Try.prog 60 #[gv ⟨M, m, p, k, q⟩, gv ⟨M', m', p', k', q'⟩] w fun e w' => e = .returned (.int .i64 (cmpB q q')) ∧ Below w.heap.size w w' := by
  have e0 : (cmpB M M' != 0) = false := by simp [n0]
  have e1 : (cmpB m m' != 0) = false := by simp [n1]
  have e2 : (cmpB p p' != 0) = false := by simp [n2]
  clear n0 n1 n2
  unfold gv
  go_enter Try.func60, Try.ntmps60
  go_wp2
  refine wp_loop_rounds 4 ?_
  rw [rounds_succ]
  go_wp2
  go_quiet ((go_at_call 26; first | exact Calls.quiet_of_same (nums_q _ _ _) | exact calls_again (nums_any _ _ _)))
  go_wp2
  rw [rounds_succ]
  go_wp2
  go_quiet ((go_at_call 26; first | exact Calls.quiet_of_same (nums_q _ _ _) | exact calls_again (nums_any _ _ _)))
  go_wp2
  rw [rounds_succ]
  go_wp2
  go_quiet ((go_at_call 26; first | exact Calls.quiet_of_same (nums_q _ _ _) | exact calls_again (nums_any _ _ _)))
  go_wp2
  rw [rounds_succ]
  go_wp2_with fail
  refine (nums_any q q' _).mono ?_
  rintro e w' ⟨rfl, rfl⟩
  go_wp2
  go_ret
  refine ⟨rfl, ?_⟩
  repeat' (first | exact Below.refl _ _ | refine below_drewN ?_ _ | refine Below.drew ?_ | refine Below.alloc ?_ ?_ _ | refine Below.setCell ?_ ?_ _ | go_size)
theorem cmp60 (x y : GV) (w : World) : Calls Try.prog 60 #[gv x, gv y] w fun e w' => e = .returned (.int .i64 (cmpG x y)) ∧ Below w.heap.size w w' := by
  obtain ⟨M, m, p, k, q⟩ := x
  obtain ⟨M', m', p', k', q'⟩ := y
  by_cases n0 : cmpB M M' = 0
  · by_cases n1 : cmpB m m' = 0
    · by_cases n2 : cmpB p p' = 0
      · cases h : k == k'
        · cases h2 : Op.bytesLess k k'
          · have e := cmpS_more h h2
            exact (cmp60_4 M m p k q M' m' p' k' q' w n0 n1 n2 h h2).mono fun _ _ ⟨a, b⟩ => ⟨by rw [a]; simp [cmpG, n0, n1, n2, ← e], b⟩
          · have e := cmpS_less h h2
            exact (cmp60_3 M m p k q M' m' p' k' q' w n0 n1 n2 h h2).mono fun _ _ ⟨a, b⟩ => ⟨by rw [a]; simp [cmpG, n0, n1, n2, ← e], b⟩
        · have e := cmpS_eq h
          exact (cmp60_5 M m p k q M' m' p' k' q' w n0 n1 n2 h).mono fun _ _ ⟨a, b⟩ => ⟨by rw [a]; simp [cmpG, n0, n1, n2, ← e], b⟩
      · exact (cmp60_2 M m p k q M' m' p' k' q' w n0 n1 n2).mono fun _ _ ⟨a, b⟩ => ⟨by rw [a]; simp [cmpG, n0, n1, n2], b⟩
    · exact (cmp60_1 M m p k q M' m' p' k' q' w n0 n1).mono fun _ _ ⟨a, b⟩ => ⟨by rw [a]; simp [cmpG, n0, n1], b⟩
  · exact (cmp60_0 M m p k q M' m' p' k' q' w n0).mono fun _ _ ⟨a, b⟩ => ⟨by rw [a]; simp [cmpG, n0], b⟩
end Go.Proofs.Ytdhibalpnccbiaa
