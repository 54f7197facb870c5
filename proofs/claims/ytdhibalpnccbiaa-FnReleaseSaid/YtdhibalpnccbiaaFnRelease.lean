/-
  FnRelease answers true for every two numbers: a version without a patch comes ahead of the release of the language from 21 on. No condition.
-/
import Derived.Test.YtdhibalpnccbiaaFacts
import Derived.Test.YtdhibalpnccbiaaL8
import Derived.ProofKit
import Derived.OpenShut
import Derived.ShutString
namespace Go.Proofs.Ytdhibalpnccbiaa.fnRelease
open Go.ChangeShapes Go.WideShapes Go.ChangeAt Go.RowKit
open Go.ChangeMaps (open_string shut_string)
set_option linter.unusedVariables false

theorem own : ownKnob Try.prog.godebug = none := by kernel_rfl

theorem walk (a0 a1 : Int) (w0 : (Lit.int .u8 a0).wf = true) (w1 : (Lit.int .u8 a1).wf = true) (w : World) :
    Calls Try.prog 17 #[.int .u8 a0, .int .u8 a1] w fun e w' => e = .returned (.bool true) ∧ Below w.heap.size w w' := by
  have f : ∀ a : Int, (Lit.int .u8 a).wf = true → a = ((a.toNat : Nat) : Int) ∧ a.toNat < 256 := by
    intro a h
    have h2 : (decide (IntKind.u8.min ≤ a) && decide (a ≤ IntKind.u8.max)) = true := h
    rw [Bool.and_eq_true, decide_eq_true_eq, decide_eq_true_eq] at h2
    have m0 : IntKind.u8.min = 0 := by decide
    have m1 : IntKind.u8.max = 255 := by decide
    rw [m0, m1] at h2
    omega
  obtain ⟨e0, l0⟩ := f a0 w0
  obtain ⟨e1, l1⟩ := f a1 w1
  rw [e0, e1]
  exact law17 _ _ w l0 l1

set_option maxRecDepth 100000 in
theorem lifted (os : Os) (started : os.Started) (H : Type) (enc : TypeId × Value → H) :
    ReturnsInHanded {} Try.checked os 17 .any (Rows.fnReleaseSpec.pre6 enc Try.prog Try.f17 Rows.fnReleaseRow.domain false) (Rows.fnReleaseSpec.post enc Try.prog Try.f17 false true false false) := by
  refine returnsInHanded_of_change (C := Try.checked) own started (by kernel_rfl) Try.func17
    (ChangeSpec.witness6 (enc := enc) (C := Try.checked) false ⟨#[], #[.int .u8 0, .int .u8 0], []⟩ 8 (by kernel_rfl) (by kernel_rfl) (by kernel_rfl) (by kernel_rfl)) ?_
  intro W base args ds gs before hval0 hW hcnd _
  have hval : ∀ (j : Nat) t v, Try.f17.params[j]? = some t → args[j]? = some v → Value.okWide Try.prog W .any base t v := hval0
  have hW' := hW
  obtain ⟨p, q, hA0, hV, rfl, hfz, hnd⟩ := hW
  have hA : DataW.TrodAll enc Try.prog W 0 (fun _ => true) true Try.f17.params.toList args.toList ds p := hA0
  rw [Try.params17] at hA hval
  obtain ⟨v0, vs0, d0, ds0, p0, q0, hargs, rfl, rfl, h0, r0⟩ := trodAll_cons hA
  obtain ⟨v1, vs1, d1, ds1, p1, q1, rfl, rfl, rfl, h1, r1⟩ := trodAll_cons r0
  obtain ⟨rfl, rfl, rfl⟩ := trodAll_nil r1
  obtain rfl : args = #[v0, v1] := by cases args; simp_all
  obtain ⟨rfl, rfl⟩ := trodVars_none hV
  obtain ⟨a0, rfl, rfl, rfl, w0⟩ := open_int Try.underlying5 (hval 0 5 v0 rfl rfl) h0
  obtain ⟨a1, rfl, rfl, rfl, w1⟩ := open_int Try.underlying5 (hval 1 5 v1 rfl rfl) h1
  clear hA0 hval0
  refine (walk a0 a1 w0 w1 W).mono fun e W' ⟨he, bel⟩ => ?_
  subst he
  exact ⟨_, rfl, _, _, _, [], _, [], hW', trodAll_mk1 (shut_bool Try.underlying4 _), (trodAll_cons_mk (shut_int Try.underlying5 w0) (trodAll_cons_mk (shut_int Try.underlying5 w1) trodAll_mk0)), rfl, bel.frame _, fun h => by cases h⟩

theorem closed : joinedFacts Try.prog 17 Try.f17 Rows.fnReleaseSpec Rows.fnReleaseRow = true := by
  unfold joinedFacts
  rw [mayEnter, liftsFinal, make]
  kernel_rfl

theorem over : Rows.fnReleaseRow.holds Try.pinned (OpenSpec.ofChange Rows.fnReleaseSpec) :=
  OpenClaim.holds_of_wide 17 Try.f17 rfl rfl rfl rfl rfl rfl rfl ⟨rfl, rfl, rfl, rfl, rfl⟩ rfl rfl rfl rfl rfl (by kernel_rfl) Try.func17 closed
    (of_decide_eq_true (by kernel_rfl)) (by unfold Func.isWrapper; first | (rw [if_pos (by decide +kernel)]; kernel_rfl) | (rw [if_neg (by decide +kernel)]; exact ⟨rfl, rfl⟩))
    (fun os started H enc _ => lifted os started H enc)

/-- The statement. -/
theorem proved : Rows.FnReleaseSaid := over
#print axioms proved
end Go.Proofs.Ytdhibalpnccbiaa.fnRelease
