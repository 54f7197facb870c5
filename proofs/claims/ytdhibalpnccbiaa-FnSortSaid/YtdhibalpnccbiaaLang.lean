/- spec.Go.Lang. -/
import Derived.Test.YtdhibalpnccbiaaPrevP
import Derived.Test.YtdhibalpnccbiaaSorts3
namespace Go.Proofs.Ytdhibalpnccbiaa
open Go.RowKit
set_option linter.unusedVariables false
set_option maxRecDepth 100000 in
set_option maxHeartbeats 400000 in
theorem lang37 (g : GV) (w : World) (hl : g.maj.length ≤ 1000) (hl2 : g.min.length ≤ 1000) :
    Calls Try.prog 37 #[gv g] w fun e w' => e = .returned (.string (bs (lang g))) ∧ Below w.heap.size w w' := by
  obtain ⟨M, m, p, k, q⟩ := g
  simp only at hl hl2
  have hadd1 := add_run_mk M #[46] (M ++ [46]) (by simp; omega) rfl
  have hadd2 := add_run (M ++ [46]) m (M ++ 46 :: m) (by simp; omega) (by simp)
  unfold gv
  by_cases h0 : M = []
  · subst h0
    have HF : Hid (lang ⟨[], m, p, k, q⟩ = []) := Lib.hid (by simp [lang])
    clear hadd1 hadd2
    go_enter Try.func37, Try.ntmps37
    go_wp2
    go_ret
    exact ⟨by rw [HF.out]; rfl, (Below.refl _ _).alloc (Nat.le_refl _) _⟩
  have e0 : (M == []) = false := by simpa using h0
  have e0' : M.isEmpty = false := by simpa using h0
  by_cases h1 : M = [49]
  · subst h1
    by_cases h2 : m = [48]
    · subst h2
      have HF : Hid (lang ⟨[49], [48], p, k, q⟩ = [49]) := Lib.hid (by simp [lang])
      clear hadd1 hadd2
      go_enter Try.func37, Try.ntmps37
      go_wp2
      go_ret
      exact ⟨by rw [HF.out]; rfl, (Below.refl _ _).alloc (Nat.le_refl _) _⟩
    · have e2 : (m == [48]) = false := by simpa using h2
      have HF : Hid (lang ⟨[49], m, p, k, q⟩ = [49] ++ 46 :: m) := Lib.hid (by simp [lang, h2])
      clear h2
      go_enter Try.func37, Try.ntmps37
      go_wp2
      go_ret
      exact ⟨by rw [HF.out]; rfl, (Below.refl _ _).alloc (Nat.le_refl _) _⟩
  · have e1 : (M == [49]) = false := by simpa using h1
    have HF : Hid (lang ⟨M, m, p, k, q⟩ = M ++ 46 :: m) := Lib.hid (by simp [lang, h0, h1])
    clear h0 h1
    go_enter Try.func37, Try.ntmps37
    go_wp2
    go_ret
    exact ⟨by rw [HF.out]; simp, (Below.refl _ _).alloc (Nat.le_refl _) _⟩
end Go.Proofs.Ytdhibalpnccbiaa
