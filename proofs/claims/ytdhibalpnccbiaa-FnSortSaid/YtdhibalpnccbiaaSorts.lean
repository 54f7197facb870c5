/- spec.Mod, Either, Sorts; ModCompare at go and toolchain. -/
import Derived.Test.YtdhibalpnccbiaaCmp2
import Derived.Test.YtdhibalpnccbiaaTool2
import Derived.Deep.Cut
namespace Go.Proofs.Ytdhibalpnccbiaa
open Go.RowKit
set_option linter.unusedVariables false
/-- A block of five cells that was laid ahead of a call: behind the call it stands, and may be written. -/
theorem box5 {w w1 : World} {a b c d e : Value} {T : TypeId} (hb : Below (w.alloc (.cells #[a, b, c, d, e] T)).heap.size (w.alloc (.cells #[a, b, c, d, e] T)) w1) :
    (w1.cell? ⟨w.heap.size, 0, none⟩ = some a ∧ w1.cell? ⟨w.heap.size, 1, none⟩ = some b ∧ w1.cell? ⟨w.heap.size, 2, none⟩ = some c ∧ w1.cell? ⟨w.heap.size, 3, none⟩ = some d ∧ w1.cell? ⟨w.heap.size, 4, none⟩ = some e) ∧
    (w1.frozen? ⟨w.heap.size, 0, none⟩ = false ∧ w1.frozen? ⟨w.heap.size, 1, none⟩ = false ∧ w1.frozen? ⟨w.heap.size, 2, none⟩ = false ∧ w1.frozen? ⟨w.heap.size, 3, none⟩ = false ∧ w1.frozen? ⟨w.heap.size, 4, none⟩ = false) ∧
    w.heap.size < w1.heap.size ∧ Below w.heap.size w w1 := by
  have hsz := hb.size
  rw [show (w.alloc (.cells #[a, b, c, d, e] T)).heap.size = w.heap.size + 1 by simp] at hsz hb
  have hf : ∀ j, w1.frozen? ⟨w.heap.size, j, none⟩ = false := fun j => by
    rw [hb.frozen (p := ⟨w.heap.size, j, none⟩) (by simp)]
    simp [go_sem]
  refine ⟨⟨?_, ?_, ?_, ?_, ?_⟩, ⟨hf 0, hf 1, hf 2, hf 3, hf 4⟩, by omega, ((Below.refl _ _).alloc (Nat.le_refl _) _).trans (hb.mono (by omega))⟩
  all_goals
    rw [hb.cell (by simp)]
    simp
/-- What spec.Mod computes. -/
def modR (path v : Bytes) : GV × Nat := if path = tToolchain then (if (toolN v).2 = 0 then (zero, 0) else read (toolN v).1) else read v
theorem toolN_len (v : Bytes) : (toolN v).1.length ≤ v.length := by
  unfold toolN
  split
  · simp
  · split
    · simp
    · split
      · simp
      · unfold bare; simp; omega
set_option maxRecDepth 100000 in
set_option maxHeartbeats 400000 in
theorem mod_0 (v nm : Bytes) (w : World) (hv : v.length ≤ maxLen) (ht : toolN v = (nm, 0)) :
    Calls Try.prog 31 #[.string (bs tToolchain), .string (bs v)] w fun e w' => e = .returned (rv (zero, 0)) ∧ Below w.heap.size w w' := by
  have HV := Lib.hid hv
  have HTT := Lib.hid ht
  unfold tToolchain
  clear hv ht
  go_enter Try.func31, Try.ntmps31
  go_wp2_with fail
  refine (tool_any _ _ HV.out).mono ?_
  rintro e w1 ⟨rfl, hb⟩
  rw [HTT.out]
  unfold tv
  obtain ⟨⟨c0, c1, c2, c3, c4⟩, ⟨f0, f1, f2, f3, f4⟩, hz, hbel⟩ := box5 hb
  have HB := Lib.hid hbel
  clear hb hbel
  go_wp2
  refine bodyPost_ret (v := .tuple #[gv zero, .int .i64 0]) ?_ rfl ⟨rfl, ?_⟩
  · simp [results, Try.results31, go_sem, gv, c0, c1, c2, c3, c4]; repeat' (first | rfl | refine ⟨?_, ?_⟩)
  · exact (((((HB.out.setCell (Nat.le_refl _) _).setCell (Nat.le_refl _) _).setCell (Nat.le_refl _) _).setCell (Nat.le_refl _) _).setCell (Nat.le_refl _) _)
set_option maxRecDepth 100000 in
set_option maxHeartbeats 400000 in
theorem mod_1 (v nm : Bytes) (st : Nat) (w : World) (hv : v.length ≤ maxLen) (ht : toolN v = (nm, st)) (h0 : st ≠ 0) (g : GV) (s : Nat) (hr : read nm = (g, s)) :
    Calls Try.prog 31 #[.string (bs tToolchain), .string (bs v)] w fun e w' => e = .returned (rv (g, s)) ∧ Below w.heap.size w w' := by
  have HV := Lib.hid hv
  have HTT := Lib.hid ht
  have HN : Hid (nm.length ≤ maxLen) := by have := toolN_len v; rw [ht] at this; exact Nat.le_trans this hv
  have HR := Lib.hid hr
  have e0 : ((st : Int) == 0) = false := beq_eq_false_iff_ne.2 (by omega)
  unfold tToolchain
  clear hv ht h0 hr
  go_enter Try.func31, Try.ntmps31
  go_wp2_with fail
  refine (tool_any _ _ HV.out).mono ?_
  rintro e w1 ⟨rfl, hb⟩
  rw [HTT.out]
  unfold tv
  go_wp2_with fail
  refine (read_any _ _ HN.out).mono ?_
  rintro e w2 ⟨rfl, hb2⟩
  rw [HR.out]
  unfold rv gv
  obtain ⟨⟨c0, c1, c2, c3, c4⟩, ⟨f0, f1, f2, f3, f4⟩, hz, hbel⟩ := box5 (below_next hb hb2)
  have HB := Lib.hid hbel
  clear hb hb2 hbel
  go_wp2
  refine bodyPost_ret (v := .tuple #[gv g, .int .i64 (s : Int)]) ?_ rfl ⟨rfl, ?_⟩
  · simp [results, Try.results31, go_sem, gv, c0, c1, c2, c3, c4]
  · exact (((((HB.out.setCell (Nat.le_refl _) _).setCell (Nat.le_refl _) _).setCell (Nat.le_refl _) _).setCell (Nat.le_refl _) _).setCell (Nat.le_refl _) _)
set_option maxRecDepth 100000 in
set_option maxHeartbeats 400000 in
theorem mod_2 (path v : Bytes) (w : World) (hv : v.length ≤ maxLen) (hp : path ≠ tToolchain) (g : GV) (s : Nat) (hr : read v = (g, s)) :
    Calls Try.prog 31 #[.string (bs path), .string (bs v)] w fun e w' => e = .returned (rv (g, s)) ∧ Below w.heap.size w w' := by
  have HV := Lib.hid hv
  have HR := Lib.hid hr
  have e0 : (path == [116, 111, 111, 108, 99, 104, 97, 105, 110]) = false := beq_eq_false_iff_ne.2 hp
  clear hv hr hp
  go_enter Try.func31, Try.ntmps31
  go_wp2_with fail
  refine (read_any _ _ HV.out).mono ?_
  rintro e w2 ⟨rfl, hb⟩
  rw [HR.out]
  unfold rv gv
  obtain ⟨⟨c0, c1, c2, c3, c4⟩, ⟨f0, f1, f2, f3, f4⟩, hz, hbel⟩ := box5 hb
  have HB := Lib.hid hbel
  clear hb hbel
  go_wp2
  refine bodyPost_ret (v := .tuple #[gv g, .int .i64 (s : Int)]) ?_ rfl ⟨rfl, ?_⟩
  · simp [results, Try.results31, go_sem, gv, c0, c1, c2, c3, c4]
  · exact (((((HB.out.setCell (Nat.le_refl _) _).setCell (Nat.le_refl _) _).setCell (Nat.le_refl _) _).setCell (Nat.le_refl _) _).setCell (Nat.le_refl _) _)
theorem mod_any (path v : Bytes) (w : World) (hv : v.length ≤ maxLen) :
    Calls Try.prog 31 #[.string (bs path), .string (bs v)] w fun e w' => e = .returned (rv (modR path v)) ∧ Below w.heap.size w w' := by
  unfold modR
  by_cases hp : path = tToolchain
  · rw [if_pos hp, hp]
    by_cases h0 : (toolN v).2 = 0
    · rw [if_pos h0]; exact mod_0 v _ w hv (Prod.ext rfl h0)
    · rw [if_neg h0]; exact mod_1 v _ _ w hv rfl h0 _ _ rfl
  · rw [if_neg hp]; exact mod_2 path v w hv hp _ _ rfl
/-- What spec.Either computes. -/
def eitherR (v : Bytes) : GV × Nat := if (read v).2 = 2 then modR tToolchain v else read v
set_option maxRecDepth 100000 in
set_option maxHeartbeats 400000 in
theorem either_1 (v : Bytes) (w : World) (hv : v.length ≤ maxLen) (g0 : GV) (hr : read v = (g0, 2)) (g : GV) (s : Nat) (hm : modR tToolchain v = (g, s)) :
    Calls Try.prog 59 #[.string (bs v)] w fun e w' => e = .returned (rv (g, s)) ∧ Below w.heap.size w w' := by
  have HV := Lib.hid hv
  have HR := Lib.hid hr
  have HM := Lib.hid hm
  clear hv hr hm
  go_enter Try.func59, Try.ntmps59
  go_wp2_with fail
  refine (read_any _ _ HV.out).mono ?_
  rintro e w1 ⟨rfl, hb⟩
  rw [HR.out]
  unfold rv
  unfold gv
  have hz1 := hb.size
  go_wp2_with fail
  refine (mod_any tToolchain v _ HV.out).mono ?_
  rintro e w2 ⟨rfl, hb2⟩
  rw [HM.out]
  unfold rv
  unfold gv
  obtain ⟨⟨c0, c1, c2, c3, c4⟩, ⟨f0, f1, f2, f3, f4⟩, hz, hbel⟩ := box5 (below_next (hb.alloc hz1 _) hb2)
  have HB := Lib.hid hbel
  clear hb hb2 hbel hz1
  go_wp2
  refine bodyPost_ret (v := .tuple #[gv g, .int .i64 (s : Int)]) ?_ rfl ⟨rfl, ?_⟩
  · simp [results, Try.results59, go_sem, gv, c0, c1, c2, c3, c4]
  · exact (((((HB.out.setCell (Nat.le_refl _) _).setCell (Nat.le_refl _) _).setCell (Nat.le_refl _) _).setCell (Nat.le_refl _) _).setCell (Nat.le_refl _) _)
set_option maxRecDepth 100000 in
set_option maxHeartbeats 400000 in
theorem either_2 (v : Bytes) (w : World) (hv : v.length ≤ maxLen) (g : GV) (s : Nat) (hr : read v = (g, s)) (h2 : s ≠ 2) :
    Calls Try.prog 59 #[.string (bs v)] w fun e w' => e = .returned (rv (g, s)) ∧ Below w.heap.size w w' := by
  have HV := Lib.hid hv
  have HR := Lib.hid hr
  have e0 : ((s : Int) == 2) = false := beq_eq_false_iff_ne.2 (by omega)
  clear hv hr h2
  go_enter Try.func59, Try.ntmps59
  go_wp2_with fail
  refine (read_any _ _ HV.out).mono ?_
  rintro e w1 ⟨rfl, hb⟩
  rw [HR.out]
  unfold rv
  unfold gv
  have hz1 := hb.size
  obtain ⟨⟨c0, c1, c2, c3, c4⟩, ⟨f0, f1, f2, f3, f4⟩, hz, hbel⟩ := box5 hb
  have hs2 : w1.heap.size < (w1.alloc (.cells #[.string (bs g.maj), .string (bs g.min), .string (bs g.pat), .string (bs g.kind), .string (bs g.pre)] 25)).heap.size := by simp
  have b2 := (Below.refl w1.heap.size w1).alloc (Nat.le_refl _) (.cells #[.string (bs g.maj), .string (bs g.min), .string (bs g.pat), .string (bs g.kind), .string (bs g.pre)] 25)
  have d0 := cell_later b2 c0
  have d1 := cell_later b2 c1
  have d2 := cell_later b2 c2
  have d3 := cell_later b2 c3
  have d4 := cell_later b2 c4
  have g0 := (b2.frozen (p := ⟨w.heap.size, 0, none⟩) hz).trans f0
  have g1 := (b2.frozen (p := ⟨w.heap.size, 1, none⟩) hz).trans f1
  have g2 := (b2.frozen (p := ⟨w.heap.size, 2, none⟩) hz).trans f2
  have g3 := (b2.frozen (p := ⟨w.heap.size, 3, none⟩) hz).trans f3
  have g4 := (b2.frozen (p := ⟨w.heap.size, 4, none⟩) hz).trans f4
  have k0 : (w1.alloc (.cells #[.string (bs g.maj), .string (bs g.min), .string (bs g.pat), .string (bs g.kind), .string (bs g.pre)] 25)).cell? ⟨w1.heap.size, 0, none⟩ = some (.string (bs g.maj)) := by simp
  have k1 : (w1.alloc (.cells #[.string (bs g.maj), .string (bs g.min), .string (bs g.pat), .string (bs g.kind), .string (bs g.pre)] 25)).cell? ⟨w1.heap.size, 1, none⟩ = some (.string (bs g.min)) := by simp
  have k2 : (w1.alloc (.cells #[.string (bs g.maj), .string (bs g.min), .string (bs g.pat), .string (bs g.kind), .string (bs g.pre)] 25)).cell? ⟨w1.heap.size, 2, none⟩ = some (.string (bs g.pat)) := by simp
  have k3 : (w1.alloc (.cells #[.string (bs g.maj), .string (bs g.min), .string (bs g.pat), .string (bs g.kind), .string (bs g.pre)] 25)).cell? ⟨w1.heap.size, 3, none⟩ = some (.string (bs g.kind)) := by simp
  have k4 : (w1.alloc (.cells #[.string (bs g.maj), .string (bs g.min), .string (bs g.pat), .string (bs g.kind), .string (bs g.pre)] 25)).cell? ⟨w1.heap.size, 4, none⟩ = some (.string (bs g.pre)) := by simp
  have HB := Lib.hid (hbel.alloc (Nat.le_of_lt hz) (.cells #[.string (bs g.maj), .string (bs g.min), .string (bs g.pat), .string (bs g.kind), .string (bs g.pre)] 25))
  clear hb hbel hz1 b2 c0 c1 c2 c3 c4 f0 f1 f2 f3 f4
  go_upto_region 4 with (fail)
  generalize w1.alloc (.cells #[.string (bs g.maj), .string (bs g.min), .string (bs g.pat), .string (bs g.kind), .string (bs g.pre)] 25) = W2 at *
  go_wp2
  refine bodyPost_ret (v := .tuple #[gv g, .int .i64 (s : Int)]) ?_ rfl ⟨rfl, ?_⟩
  · simp [results, Try.results59, go_sem, gv, d0, d1, d2, d3, d4]
  · exact (((((HB.out.setCell (Nat.le_refl _) _).setCell (Nat.le_refl _) _).setCell (Nat.le_refl _) _).setCell (Nat.le_refl _) _).setCell (Nat.le_refl _) _)
theorem either_any (v : Bytes) (w : World) (hv : v.length ≤ maxLen) :
    Calls Try.prog 59 #[.string (bs v)] w fun e w' => e = .returned (rv (eitherR v)) ∧ Below w.heap.size w w' := by
  unfold eitherR
  by_cases h : (read v).2 = 2
  · rw [if_pos h]; exact either_1 v w hv _ (Prod.ext rfl h) _ _ rfl
  · rw [if_neg h]; exact either_2 v w hv _ _ rfl h
end Go.Proofs.Ytdhibalpnccbiaa
