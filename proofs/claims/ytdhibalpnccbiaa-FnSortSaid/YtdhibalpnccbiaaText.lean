/- laws.text: a number below 256, written. -/
import Derived.Test.YtdhibalpnccbiaaPrev
import Derived.LoopN
namespace Go.Proofs.Ytdhibalpnccbiaa
open Go.RowKit
set_option linter.unusedVariables false
def fig (n : Nat) : UInt8 := UInt8.ofNat (48 + n % 10)
def decT (n : Nat) : Bytes := if n < 10 then [fig n] else if n < 100 then [fig (n / 10), fig n] else [fig (n / 100), fig (n / 10), fig n]
theorem fig_toNat (n : Nat) : (fig n).toNat = 48 + n % 10 := by
  unfold fig
  rw [UInt8.toNat_ofNat']
  omega
theorem one_byte (W : World) (b : Nat) (n : Nat) (x : Int) (hx : x = ((48 + n % 10 : Nat) : Int)) (h : W.cell? ⟨b, 0, none⟩ = some (.int .u8 x)) :
    (convert 59 9 (.slice (some ⟨b, 0, none⟩) 1 1)).run Try.prog W = .ok (.string (bs [fig n])) W := by
  refine run_convert_bytes_back W 59 9 5 ⟨b, 0, none⟩ 1 [fig n] Try.underlying59 Try.underlying5 Try.underlying9 ?_
  intro j hj
  match j, hj with
  | 0, _ =>
    have ea : (⟨b, 0, none⟩ : Addr).add 0 = ⟨b, 0, none⟩ := by simp [Addr.add]
    rw [ea, h, hx]
    simp [fig_toNat]
theorem one_new (n : Nat) (x : Int) (hx : x = ((48 + n % 10 : Nat) : Int)) (W : World) :
    (convert 59 9 (.slice (some ⟨W.heap.size, 0, none⟩) 1 1)).run Try.prog (W.alloc (.cells #[.int .u8 x] 5)) = .ok (.string (bs [fig n])) (W.alloc (.cells #[.int .u8 x] 5)) :=
  one_byte _ _ n x hx (by simp)
theorem one_new1 (n : Nat) (x : Int) (hx : x = ((48 + n % 10 : Nat) : Int)) (W : World) (o : Obj) :
    (convert 59 9 (.slice (some ⟨W.heap.size + 1, 0, none⟩) 1 1)).run Try.prog ((W.alloc o).alloc (.cells #[.int .u8 x] 5)) = .ok (.string (bs [fig n])) ((W.alloc o).alloc (.cells #[.int .u8 x] 5)) := by
  have h := one_new n x hx (W.alloc o)
  rwa [show (W.alloc o).heap.size = W.heap.size + 1 by simp] at h
theorem one_new2 (n : Nat) (x : Int) (hx : x = ((48 + n % 10 : Nat) : Int)) (W : World) (o o2 : Obj) :
    (convert 59 9 (.slice (some ⟨W.heap.size + 1 + 1, 0, none⟩) 1 1)).run Try.prog (((W.alloc o).alloc o2).alloc (.cells #[.int .u8 x] 5)) = .ok (.string (bs [fig n])) (((W.alloc o).alloc o2).alloc (.cells #[.int .u8 x] 5)) := by
  have h := one_new n x hx ((W.alloc o).alloc o2)
  rwa [show ((W.alloc o).alloc o2).heap.size = W.heap.size + 1 + 1 by simp] at h
set_option maxRecDepth 100000 in
set_option maxHeartbeats 400000 in
theorem text_1 (n : Nat) (w : World) (h : n < 10) : Calls Try.prog 42 #[.int .i64 n] w fun e w' => e = .returned (.string (bs (decT n))) ∧ Below w.heap.size w w' := by
  have HD : Hid (decT n = [fig n]) := by show _ = _; unfold decT; rw [if_pos h]
  have f1 := one_new n (48 + (n : Int) % 10) (by omega)
  have e1 : ((n : Int) / 10 == 0) = true := by simp; omega
  go_enter Try.func42, Try.ntmps42
  go_wp2
  refine wp_loop_rounds 1 ?_
  rw [rounds_succ]
  go_wp2
  go_ret
  refine ⟨by rw [HD.out]; rfl, ?_⟩
  repeat' (first | exact Below.refl _ _ | refine below_drewN ?_ _ | refine Below.drew ?_ | refine Below.alloc ?_ ?_ _ | refine Below.setCell ?_ ?_ _ | go_size)
set_option maxRecDepth 100000 in
set_option maxHeartbeats 400000 in
theorem text_2 (n : Nat) (w : World) (h0 : 10 ≤ n) (h : n < 100) : Calls Try.prog 42 #[.int .i64 n] w fun e w' => e = .returned (.string (bs (decT n))) ∧ Below w.heap.size w w' := by
  have HD : Hid (decT n = [fig (n / 10), fig n]) := by show _ = _; unfold decT; rw [if_neg (by omega), if_pos h]
  have f1 := one_new n (48 + (n : Int) % 10) (by omega)
  have f2 := one_new1 (n / 10) (48 + (n : Int) / 10 % 10) (by omega)
  have e1 : ((n : Int) / 10 == 0) = false := beq_eq_false_iff_ne.2 (by omega)
  have e2 : ((n : Int) / 10 / 10 == 0) = true := by simp; omega
  go_enter Try.func42, Try.ntmps42
  go_wp2
  refine wp_loop_rounds 2 ?_
  rw [rounds_succ]
  go_wp2
  rw [rounds_succ]
  go_wp2
  go_ret
  refine ⟨by rw [HD.out]; rfl, ?_⟩
  repeat' (first | exact Below.refl _ _ | refine below_drewN ?_ _ | refine Below.drew ?_ | refine Below.alloc ?_ ?_ _ | refine Below.setCell ?_ ?_ _ | go_size)
set_option maxRecDepth 100000 in
set_option maxHeartbeats 400000 in
theorem text_3 (n : Nat) (w : World) (h0 : 100 ≤ n) (h : n < 256) : Calls Try.prog 42 #[.int .i64 n] w fun e w' => e = .returned (.string (bs (decT n))) ∧ Below w.heap.size w w' := by
  have HD : Hid (decT n = [fig (n / 100), fig (n / 10), fig n]) := by show _ = _; unfold decT; rw [if_neg (by omega), if_neg (by omega)]
  have f1 := one_new n (48 + (n : Int) % 10) (by omega)
  have f2 := one_new1 (n / 10) (48 + (n : Int) / 10 % 10) (by omega)
  have f3 := one_new2 (n / 100) (48 + (n : Int) / 10 / 10 % 10) (by omega)
  have e1 : ((n : Int) / 10 == 0) = false := beq_eq_false_iff_ne.2 (by omega)
  have e2 : ((n : Int) / 10 / 10 == 0) = false := beq_eq_false_iff_ne.2 (by omega)
  have e3 : ((n : Int) / 10 / 10 / 10 == 0) = true := by simp; omega
  go_enter Try.func42, Try.ntmps42
  go_wp2
  refine wp_loop_rounds 3 ?_
  rw [rounds_succ]
  go_wp2
  rw [rounds_succ]
  go_wp2
  rw [rounds_succ]
  go_wp2
  go_ret
  refine ⟨by rw [HD.out]; rfl, ?_⟩
  repeat' (first | exact Below.refl _ _ | refine below_drewN ?_ _ | refine Below.drew ?_ | refine Below.alloc ?_ ?_ _ | refine Below.setCell ?_ ?_ _ | go_size)
theorem text_any (n : Nat) (w : World) (h : n < 256) : Calls Try.prog 42 #[.int .i64 n] w fun e w' => e = .returned (.string (bs (decT n))) ∧ Below w.heap.size w w' := by
  by_cases h1 : n < 10
  · exact text_1 n w h1
  · by_cases h2 : n < 100
    · exact text_2 n w (by omega) h2
    · exact text_3 n w (by omega) h
end Go.Proofs.Ytdhibalpnccbiaa
