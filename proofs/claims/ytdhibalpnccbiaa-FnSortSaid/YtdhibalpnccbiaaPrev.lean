/- Prev; FnPrev: the walk. -/
import Derived.Test.YtdhibalpnccbiaaDec
import Derived.Test.YtdhibalpnccbiaaPlain5
namespace Go.Proofs.Ytdhibalpnccbiaa
open Go.RowKit
set_option linter.unusedVariables false
@[go_sem] theorem bs_append (a b : Bytes) : bs a ++ bs b = bs (a ++ b) := by
  show ByteArray.mk a.toArray ++ ByteArray.mk b.toArray = ByteArray.mk (a ++ b).toArray
  rw [ByteArray.mk_append_mk]
@[go_sem] theorem bs_append_mk (a : Bytes) (b : Array UInt8) : bs a ++ ByteArray.mk b = bs (a ++ b.toList) := by
  show ByteArray.mk a.toArray ++ ByteArray.mk b = ByteArray.mk (a ++ b.toList).toArray
  rw [ByteArray.mk_append_mk]
@[go_sem] theorem mk_append_bs (a : Array UInt8) (b : Bytes) : ByteArray.mk a ++ bs b = bs (a.toList ++ b) := by
  show ByteArray.mk a ++ ByteArray.mk b.toArray = ByteArray.mk (a.toList ++ b).toArray
  rw [ByteArray.mk_append_mk]
theorem add_run (x y z : Bytes) (h : x.length + y.length ≤ 9223372036854775807) (e : x ++ y = z) (W : World) : (Op.stringOp .add (bs x) (bs y)).run Try.prog W = .ok (.string (bs z)) W := by
  rw [run_string_add_sum W (bs x) (bs y) (by simpa using h), bs_append, e]
theorem add_run_mk (x : Bytes) (y : Array UInt8) (z : Bytes) (h : x.length + y.size ≤ 9223372036854775807) (e : x ++ y.toList = z) (W : World) : (Op.stringOp .add (bs x) (ByteArray.mk y)).run Try.prog W = .ok (.string (bs z)) W := by
  rw [run_string_add_sum W (bs x) (ByteArray.mk y) (by rw [bs_size]; exact h), bs_append_mk, e]
theorem mk_add_run (x : Array UInt8) (y z : Bytes) (h : x.size + y.length ≤ 9223372036854775807) (e : x.toList ++ y = z) (W : World) : (Op.stringOp .add (ByteArray.mk x) (bs y)).run Try.prog W = .ok (.string (bs z)) W := by
  rw [run_string_add_sum W (ByteArray.mk x) (bs y) (by rw [bs_size]; exact h), mk_append_bs, e]
theorem keep2 {w W W' : World} {a b : Addr} {u v : Value} (h : W.cell? a = some u ∧ W.cell? b = some v ∧ Below w.heap.size w W) (hb : Below W.heap.size W W') : W'.cell? a = some u ∧ W'.cell? b = some v ∧ Below w.heap.size w W' :=
  ⟨cell_later hb h.1, cell_later hb h.2.1, below_next h.2.2 hb⟩
set_option maxRecDepth 100000 in
set_option maxHeartbeats 400000 in
theorem prev50 (l : Bytes) (w : World) (hs : l.length ≤ 1000) (M m : Bytes) (hM : M.length ≤ 1000) (a : Bytes) (d : UInt8) (z : Nat) (hg : ∃ p k q, parse l = ⟨M, m, p, k, q⟩) (hm : m = a ++ d :: List.replicate z 48) (hlz : a.length + z ≤ 1000) (h0 : ¬ cmpB m [49] ≤ 0)
    (h1 : 49 ≤ d.toNat) (h2 : d.toNat ≤ 57) (ha : a = [] ∨ bl a 0 ≠ 48) :
    Calls Try.prog 50 #[.string (bs l)] w fun e w' => e = .returned (.string (bs (M ++ 46 :: decR a d z))) ∧ Below w.heap.size w w' := by
  have HS : Hid (l.length ≤ maxLen) := by show _ ≤ _; unfold maxLen; omega
  obtain ⟨p, k, q, hg⟩ := hg
  have HG := Lib.hid hg
  have HD : Hid (∀ W, Calls Try.prog 68 #[.string (bs m)] W fun e w' => e = .returned (.string (bs (decR a d z))) ∧ Below W.heap.size W w') := by
    intro W; rw [hm]; exact decInt_any a d z W hlz h1 h2 ha
  have hdl : (decR a d z).length ≤ 2001 := by
    unfold decR; split <;> simp <;> omega
  have hadd1 := add_run_mk M #[46] (M ++ [46]) (by simp; omega) rfl
  have hadd2 := add_run (M ++ [46]) (decR a d z) (M ++ 46 :: decR a d z) (by simp; omega) (by simp)
  clear hg hm ha
  go_enter Try.func50, Try.ntmps50
  go_wp2_with fail
  refine (parse_any _ _ HS.out).mono ?_
  rintro e w1 ⟨rfl, hb⟩
  rw [HG.out]
  unfold gv
  have hz := hb.size
  go_wp2_with fail
  refine (cmpInt_any m [49] _).mono ?_
  rintro e w' ⟨rfl, rfl⟩
  have HB := Lib.hid (hb.alloc hz (.cells #[.string (bs M), .string (bs m), .string (bs p), .string (bs k), .string (bs q)] 69))
  go_wp2
  go_region_held3 (fun w' => w'.cell? ⟨w1.heap.size, 0, none⟩ = some (.string (bs M)) ∧ w'.cell? ⟨w1.heap.size, 1, none⟩ = some (.string (bs m)) ∧ Below w.heap.size w w') (first | exact ⟨by simp, by simp, HB.out.drew⟩ | exact keep2 (by assumption) hb2) (first | (go_at_call 68; refine (HD.out _).mono ?_; rintro e w' ⟨rfl, hb2⟩))
  all_goals
    go_wp2
    go_ret
    exact ⟨rfl, (show _ ∧ _ ∧ Below w.heap.size w _ by assumption).2.2⟩
theorem prev27 (l : Bytes) (w : World) (hs : l.length ≤ 1000) (M m : Bytes) (hM : M.length ≤ 1000) (a : Bytes) (d : UInt8) (z : Nat) (hg : ∃ p k q, parse l = ⟨M, m, p, k, q⟩) (hm : m = a ++ d :: List.replicate z 48) (hlz : a.length + z ≤ 1000) (h0 : ¬ cmpB m [49] ≤ 0)
    (h1 : 49 ≤ d.toNat) (h2 : d.toNat ≤ 57) (ha : a = [] ∨ bl a 0 ≠ 48) :
    Calls Try.prog 27 #[.string (bs l)] w fun e w' => e = .returned (.string (bs (M ++ 46 :: decR a d z))) ∧ Below w.heap.size w w' := by
  have HC := Lib.hid (prev50 l w hs M m hM a d z hg hm hlz h0 h1 h2 ha)
  clear hg hm h0 h1 h2 ha
  go_enter Try.func27, Try.ntmps27
  go_wp2_with fail
  refine HC.out.mono ?_
  rintro e w' ⟨rfl, hb⟩
  go_wp2
  go_ret
  exact ⟨rfl, hb⟩
end Go.Proofs.Ytdhibalpnccbiaa
