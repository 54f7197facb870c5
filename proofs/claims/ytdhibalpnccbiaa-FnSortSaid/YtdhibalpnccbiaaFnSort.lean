/-
  FnSort answers true for every list of versions: sorted by paths, and those of one path as they are compared; each is there as often as it was. No condition.
-/
import Derived.Test.YtdhibalpnccbiaaFacts
import Derived.Test.YtdhibalpnccbiaaSoF
import Derived.ProofKit
import Derived.OpenShut
import Derived.Deep.SlicePairs
import Derived.Carry
namespace Go.Proofs.Ytdhibalpnccbiaa.fnSort
open Go.ChangeShapes Go.WideShapes Go.ChangeAt Go.RowKit Go.Deep
set_option linter.unusedVariables false

theorem own : ownKnob Try.prog.godebug = none := by kernel_rfl
theorem laidOut : laidOutB Try.prog = true := by kernel_rfl
theorem cells52 : Try.prog.cellsOf 52 = 2 := by kernel_rfl
theorem cells9 : Try.prog.cellsOf 9 = 1 := by kernel_rfl
/-- The text in a cell. -/
def strOf : Value → Bytes
  | .string s => s.data.toList
  | _ => []
/-- The list that lies in two families of cells. -/
def listOf (V0 V1 : Nat → Value) (n : Nat) : Array Ver := ((List.range n).map fun i => (strOf (V0 i), strOf (V1 i))).toArray
theorem size_listOf (V0 V1 : Nat → Value) (n : Nat) : (listOf V0 V1 n).size = n := by simp [listOf]
theorem get_listOf (V0 V1 : Nat → Value) (n i : Nat) (h : i < n) : (listOf V0 V1 n)[i]! = (strOf (V0 i), strOf (V1 i)) := by
  rw [getElem!_pos _ i (by rw [size_listOf]; exact h)]
  simp [listOf]

set_option maxHeartbeats 1600000 in
set_option maxRecDepth 100000 in
theorem lifted (os : Os) (started : os.Started) (H : Type) (enc : TypeId × Value → H) :
    ReturnsInHanded {} Try.checked os 20 .any (Rows.fnSortSpec.pre6 enc Try.prog Try.f20 Rows.fnSortRow.domain false) (Rows.fnSortSpec.post enc Try.prog Try.f20 false true false false) := by
  refine returnsInHanded_of_change (C := Try.checked) own started (by kernel_rfl) Try.func20
    (ChangeSpec.witness6 (enc := enc) (C := Try.checked) false ⟨#[], #[.slice none 0 0], []⟩ 8 (by kernel_rfl) (by kernel_rfl) (by kernel_rfl) (by kernel_rfl)) ?_
  intro W base args ds gs before hval0 hW hcnd _
  have hval : ∀ (j : Nat) t v, Try.f20.params[j]? = some t → args[j]? = some v → Value.okWide Try.prog W .any base t v := hval0
  have hW' := hW
  obtain ⟨p, q, hA0, hV, rfl, hfz, hnd⟩ := hW
  have hA : DataW.TrodAll enc Try.prog W 0 (fun _ => true) true Try.f20.params.toList args.toList ds p := hA0
  rw [Try.params20] at hA hval
  obtain ⟨v0, d0, rfl, rfl, h0⟩ := trodAll_one hA
  obtain ⟨rfl, rfl⟩ := trodVars_none hV
  have h0k := h0
  obtain ⟨fuel, hf⟩ := h0
  clear hA0 hval0
  simp only [List.append_nil] at hW'
  have hlt : ∀ x ∈ p, x.block < W.heap.size := fun x hx => by simpa using hW'.lt x hx
  obtain ⟨a0, len, cap, rfl⟩ := okWide_slice Try.underlying49 (hval 0 49 v0 rfl rfl)
  have key : ∃ d, Lst W a0 d ∧ d.size = len ∧ Lens d ∧ len ≤ maxLen := by
    rcases open_slice_pairs Try.underlying49 Try.underlying52 cells52 rfl rfl cells9 cells9 hf with ⟨hcs, hx⟩ | ⟨a, len', cap', m, n, V0, V1, D0, D1, P0, P1, hcs, _, hl, hm, hmm, hx, hel⟩
    · simp [Value.cells] at hcs
      obtain ⟨rfl, rfl, rfl⟩ := hcs
      exact ⟨#[], ⟨fun i hi => absurd hi (Nat.not_lt_zero _)⟩, rfl, fun i hi => absurd hi (Nat.not_lt_zero _), Nat.zero_le _⟩
    · simp [Value.cells] at hcs
      obtain ⟨rfl, rfl, rfl⟩ := hcs
      simp only [if_true] at hmm
      subst hmm
      have each : ∀ i, i < len → ∃ b o, a = ⟨b, o, none⟩ ∧ W.cell? ⟨b, o + i * 2, none⟩ = some (.string (bs (strOf (V0 i)))) ∧ W.cell? ⟨b, o + i * 2 + 1, none⟩ = some (.string (bs (strOf (V1 i)))) ∧ (strOf (V0 i)).length ≤ maxLen ∧ (strOf (V1 i)).length ≤ maxLen := by
        intro i hi
        obtain ⟨e0, e1, t0, t1⟩ := hel i (by omega)
        obtain ⟨s0, hs0, _, hz0⟩ := DataW.trod_string Try.underlying9 t0
        obtain ⟨s1, hs1, _, hz1⟩ := DataW.trod_string Try.underlying9 t1
        obtain ⟨b, off, spot⟩ := a
        have hspot : spot = none := by
          have e00 := (hel 0 (by omega)).1
          simpa [Addr.add] using World.cell?_spot e00
        subst hspot
        simp only [List.cons.injEq, and_true] at hs0 hs1
        rw [hs0] at e0 ⊢
        rw [hs1] at e1 ⊢
        refine ⟨b, off, rfl, ?_, ?_, hz0, hz1⟩
        · show W.cell? _ = some (.string (bs s0.data.toList))
          rw [← bs_of s0, ← add_plain]; exact e0
        · show W.cell? _ = some (.string (bs s1.data.toList))
          rw [← bs_of s1, Nat.add_assoc, ← add_plain]; exact e1
      refine ⟨listOf V0 V1 len, ⟨fun i hi => ?_⟩, size_listOf _ _ _, fun i hi => ?_, Nat.le_trans hl hm⟩
      · rw [size_listOf] at hi
        obtain ⟨b, o, rfl, h1, h2, _, _⟩ := each i hi
        rw [get_listOf _ _ _ _ hi]
        exact ⟨b, o, rfl, h1, h2⟩
      · rw [size_listOf] at hi
        obtain ⟨b, o, _, _, _, h3, h4⟩ := each i hi
        rw [get_listOf _ _ _ _ hi]
        exact ⟨h3, h4⟩
  obtain ⟨d, hL, hd, hle, hn⟩ := key
  refine (law20 a0 len cap d W hL hd hle hn).mono fun e W' ⟨he, bel⟩ => ?_
  subst he
  exact ⟨_, rfl, _, _, _, [], _, [], hW', trodAll_mk1 (shut_bool Try.underlying4 _), trodAll_mk1 (Below.trod laidOut (by kernel_rfl) (of_decide_eq_true (by kernel_rfl)) h0k bel hlt), rfl, bel.frame _, fun h => by cases h⟩

theorem closed : joinedFacts Try.prog 20 Try.f20 Rows.fnSortSpec Rows.fnSortRow = true := by
  unfold joinedFacts
  rw [mayEnter, liftsFinal, make]
  kernel_rfl

theorem over : Rows.fnSortRow.holds Try.pinned (OpenSpec.ofChange Rows.fnSortSpec) :=
  OpenClaim.holds_of_wide 20 Try.f20 rfl rfl rfl rfl rfl rfl rfl ⟨rfl, rfl, rfl, rfl, rfl⟩ rfl rfl rfl rfl rfl (by kernel_rfl) Try.func20 closed
    (of_decide_eq_true (by kernel_rfl)) (by unfold Func.isWrapper; first | (rw [if_pos (by decide +kernel)]; kernel_rfl) | (rw [if_neg (by decide +kernel)]; exact ⟨rfl, rfl⟩))
    (fun os started H enc _ => lifted os started H enc)

/-- The statement. -/
theorem proved : Rows.FnSortSaid := over
#print axioms proved
end Go.Proofs.Ytdhibalpnccbiaa.fnSort
