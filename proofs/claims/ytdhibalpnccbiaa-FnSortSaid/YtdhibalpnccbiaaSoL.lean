/- zzIndex, at a text without strokes. -/
import Derived.Test.YtdhibalpnccbiaaBase
import Derived.Test.YtdhibalpnccbiaaOrd2
import Derived.Sort.Statements
import Derived.Test.YtdhibalpnccbiaaMods
import Derived.RegionTactic
namespace Go.Proofs.Ytdhibalpnccbiaa
open Go.RowKit
set_option linter.unusedVariables false
/-- No stroke. -/
def noStroke (l : Bytes) : Prop := ∀ c ∈ l, c.toNat ≠ 47
set_option maxHeartbeats 1000000 in
set_option maxRecDepth 100000 in
theorem idx85 (l : Bytes) (w : World) (hs : l.length ≤ 80) (hn : noStroke l) :
    Calls Try.prog 85 #[.string (bs l), .string (bs [47])] w fun e w' => e = .returned (.int .i64 (-1)) ∧ w' = w := by

  have HN := Lib.hid hn
  clear hn
  go_enter Try.func85, Try.ntmps85
  go_wp2
  go_loop [5] (fun i => ∃ k : Nat, k ≤ l.length ∧ i = .int .i64 k) (fun i => l.length - (intOf i).toNat)
  case atStart => exact ⟨0, Nat.zero_le _, rfl⟩
  case round =>
    obtain ⟨k, hk, rfl⟩ := hrel
    by_cases hlt : k < l.length
    · have h1 : (k : Int) + 1 ≤ (l.length : Int) := by omega
      have h2 : (List.take 1 (List.drop k l) == [47]) = false := by
        rw [List.drop_eq_getElem_cons hlt]
        have := HN.out l[k] (List.getElem_mem hlt)
        simp only [List.take_succ_cons, List.take_zero, beq_eq_false_iff_ne, ne_eq, List.cons.injEq, and_true]
        intro e
        exact this (by rw [e]; rfl)
      go_wp2
      go_round
      case rel => exact ⟨k + 1, by omega, by go_num⟩
      case measure => simp [intOf]; omega
    · have h1 : ¬ (k : Int) + 1 ≤ (l.length : Int) := by omega
      go_wp2
      go_ret
      exact ⟨rfl, rfl⟩
end Go.Proofs.Ytdhibalpnccbiaa

namespace Go.Proofs.Ytdhibalpnccbiaa
open Go.Sort
set_option linter.unusedVariables false
/-- A path and a version. -/
abbrev Ver := Bytes × Bytes
def ordV (a b : Ver) : Int := thenC (cmpS a.1 b.1) (modC a.1 a.2 b.2)
def vlt (a b : Ver) : Bool := decide (ordV a b < 0)
theorem ord_dep {f : Bytes → Bytes → Int} (hf : Ord3 f) (hz : ∀ a b, f a b = 0 → a = b) {g : Bytes → Bytes → Bytes → Int} (hg : ∀ a, Ord3 (g a)) : Ord3 (fun (a b : Ver) => thenC (f a.1 b.1) (g a.1 a.2 b.2)) := by
  refine ⟨fun a b => ?_, fun a b => ?_, fun a b c h1 h2 => ?_⟩
  · unfold thenC
    split
    · exact hf.rng _ _
    · exact (hg _).rng _ _
  · unfold thenC
    have h := hf.back a.1 b.1
    by_cases e : f a.1 b.1 = 0
    · rw [hz _ _ e] at h ⊢
      have e0 := hf.self b.1
      simp only [e0, ne_eq, not_true, if_false]
      exact (hg _).back _ _
    · have e2 : f b.1 a.1 ≠ 0 := by omega
      simp only [ne_eq, e, e2, not_false_eq_true, if_true]
      exact h
  · unfold thenC at h1 h2 ⊢
    by_cases e : f a.1 b.1 = 0
    · rw [hz _ _ e] at h1 ⊢
      rw [hf.self b.1, if_neg (by simp)] at h1
      by_cases e2 : f b.1 c.1 = 0
      · rw [if_neg (by simp [e2])] at h2 ⊢
        exact (hg _).le _ _ _ h1 h2
      · rw [if_pos e2] at h2 ⊢
        exact h2
    · rw [if_pos e] at h1
      by_cases e2 : f b.1 c.1 = 0
      · rw [hz _ _ e2] at e h1
        rw [if_pos e]
        exact h1
      · rw [if_pos e2] at h2
        have h3 := hf.le _ _ _ h1 h2
        by_cases e3 : f a.1 c.1 = 0
        · exact absurd (hf.eq h1 h2 e3).1 e
        · rw [if_pos e3]; exact h3
theorem ord_ver : Ord3 ordV := ord_dep ord_S (fun _ _ => cmpS_zero) ord_mod
theorem swo_ver : SWO vlt := by
  refine ⟨fun x => ?_, fun x y z h1 h2 => ?_, fun x y z h1 h2 => ?_⟩
  · unfold vlt; rw [ord_ver.self]; rfl
  · unfold vlt at *
    rw [decide_eq_true_eq] at *
    have h3 := ord_ver.le x y z (by omega) (by omega)
    by_cases e : ordV x z = 0
    · have := ord_ver.eq (a := x) (b := y) (c := z) (by omega) (by omega) e; omega
    · omega
  · unfold vlt at *
    rw [decide_eq_false_iff_not] at *
    have b1 := ord_ver.back x y
    have b2 := ord_ver.back y z
    have b3 := ord_ver.back x z
    have h3 := ord_ver.le z y x (by omega) (by omega)
    omega
/-- What the sort's own test asks, path by path. -/
theorem vlt_path {a b : Ver} (h : a.1 ≠ b.1) : vlt a b = decide (a.1 < b.1) := by
  unfold vlt ordV thenC cmpS
  by_cases h2 : a.1 < b.1
  · simp [h, h2]
  · simp [h, h2]
theorem vlt_same {a b : Ver} (h : a.1 = b.1) : vlt a b = decide (modC a.1 a.2 b.2 < 0) := by
  unfold vlt ordV thenC
  rw [h, ord_S.self]
  simp
theorem modC_self (p x : Bytes) : modC p x x = 0 := (ord_mod p).self x
end Go.Proofs.Ytdhibalpnccbiaa

namespace Go.Proofs.Ytdhibalpnccbiaa
open Go.RowKit
set_option linter.unusedVariables false
theorem mc61 (path x y : Bytes) (w : World) (hx : x.length ≤ maxLen) (hy : y.length ≤ maxLen) :
    Calls Try.prog 61 #[.string (bs path), .string (bs x), .string (bs y)] w fun e w' => e = .returned (.int .i64 (modC path x y)) ∧ Below w.heap.size w w' := by
  unfold modC
  by_cases h1 : path = tGo
  · subst h1
    rw [if_pos rfl]
    exact mc_go x y w hx hy
  · by_cases h2 : path = tToolchain
    · subst h2
      rw [if_neg h1, if_pos rfl]
      exact mc_tool x y w hx hy
    · rw [if_neg h1, if_neg h2]
      exact mc_other path x y w hx hy h1 h2
/-- Fit for the law: short, no stroke in the version. -/
def Good (v : Ver) : Prop := v.1.length ≤ 80 ∧ v.2.length ≤ 80 ∧ noStroke v.2
set_option maxHeartbeats 2000000 in
set_option maxRecDepth 100000 in
theorem less84 (W : World) (cb blk n c i j : Nat) (a b : Ver) (hi : i < n) (hj : j < n) (hn : n ≤ 1000)
    (h0 : W.cell? ⟨cb, 0, none⟩ = some (.slice (some ⟨blk, 0, none⟩) n c))
    (a0 : W.cell? ⟨blk, i * 2, none⟩ = some (.string (bs a.1))) (a1 : W.cell? ⟨blk, i * 2 + 1, none⟩ = some (.string (bs a.2)))
    (b0 : W.cell? ⟨blk, j * 2, none⟩ = some (.string (bs b.1))) (b1 : W.cell? ⟨blk, j * 2 + 1, none⟩ = some (.string (bs b.2)))
    (ga : Good a) (gb : Good b) :
    Calls Try.prog 84 #[.int .i64 i, .int .i64 j, .pointer (some ⟨cb, 0, none⟩)] W fun e w' => e = .returned (.bool (vlt a b)) ∧ Below W.heap.size W w' := by
  obtain ⟨a, av⟩ := a
  obtain ⟨b, bv⟩ := b
  obtain ⟨ga1, ga2, ga3⟩ := ga
  obtain ⟨gb1, gb2, gb3⟩ := gb
  simp only at a0 a1 b0 b1 ga1 ga2 ga3 gb1 gb2 gb3
  have HIA := Lib.hid (fun w => idx85 av w ga2 ga3)
  have HIB := Lib.hid (fun w => idx85 bv w gb2 gb3)
  have HMC := Lib.hid (fun w => mc61 a av bv w (by unfold maxLen; omega) (by unfold maxLen; omega))
  clear ga3 gb3
  have hlc : cb < W.heap.size := World.block_lt_of_cell? _ _ h0
  have hlb : blk < W.heap.size := World.block_lt_of_cell? _ _ a0
  by_cases hp : a = b
  · subst hp
    by_cases hv : av = bv
    · subst hv
      have HV : Hid (vlt (a, av) (a, av) = false) := Lib.hid (swo_ver.irrefl _)
      have HB : Hid (Below W.heap.size W ((W.alloc (.cells #[.string (bs a), .string (bs av)] 66)).alloc (.cells #[.string (bs a), .string (bs av)] 66))) := Lib.hid (((Below.refl _ _).alloc (Nat.le_refl _) _).alloc (by simp) _)
      go_enter Try.func84, Try.ntmps84
      go_wp2_with fail
      refine (HIA.out _).mono ?_
      rintro e w' ⟨rfl, rfl⟩
      go_wp2_with fail
      refine (HIB.out _).mono ?_
      rintro e w' ⟨rfl, rfl⟩
      go_wp2
      go_ret
      exact ⟨by rw [HV.out]; rfl, HB.out⟩
    · have e1 : (av == bv) = false := by simpa using hv
      have e2 : (av != bv) = true := by simpa using hv
      have HV : Hid (vlt (a, av) (a, bv) = decide (modC a av bv < 0)) := Lib.hid (vlt_same rfl)
      have HB : Hid (Below W.heap.size W ((W.alloc (.cells #[.string (bs a), .string (bs av)] 66)).alloc (.cells #[.string (bs a), .string (bs bv)] 66))) := Lib.hid (((Below.refl _ _).alloc (Nat.le_refl _) _).alloc (by simp) _)
      clear hv
      go_enter Try.func84, Try.ntmps84
      go_wp2_with fail
      refine (HIA.out _).mono ?_
      rintro e w' ⟨rfl, rfl⟩
      go_wp2_with fail
      refine (HIB.out _).mono ?_
      rintro e w' ⟨rfl, rfl⟩
      go_wp2_with fail
      refine (HMC.out _).mono ?_
      rintro e w' ⟨rfl, hb⟩
      have HB2 := Lib.hid (HB.out.trans (hb.mono (by simp; omega)))
      clear hb
      go_wp2
      go_ret
      exact ⟨by rw [HV.out]; rfl, HB2.out⟩
  · have e1 : (a == b) = false := by simpa using hp
    have e2 : (a != b) = true := by simpa using hp
    have HV : Hid (vlt (a, av) (b, bv) = decide (a < b)) := Lib.hid (vlt_path hp)
    have HB : Hid (Below W.heap.size W ((W.alloc (.cells #[.string (bs a), .string (bs av)] 66)).alloc (.cells #[.string (bs b), .string (bs bv)] 66))) := Lib.hid (((Below.refl _ _).alloc (Nat.le_refl _) _).alloc (by simp) _)
    clear hp
    go_enter Try.func84, Try.ntmps84
    go_wp2
    go_ret
    exact ⟨by rw [HV.out, ← bytesLess_eq]; rfl, HB.out⟩
end Go.Proofs.Ytdhibalpnccbiaa
