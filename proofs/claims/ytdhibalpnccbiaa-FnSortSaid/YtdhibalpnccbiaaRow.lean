/- A row of bytes of the call's own: made of a text, written, read back. -/
import Derived.Test.YtdhibalpnccbiaaL2
import Derived.Laws.IdiomStrings
namespace Go.Proofs.Ytdhibalpnccbiaa
open Go.RowKit
set_option linter.unusedVariables false

/-- Block b of w begins with the bytes l, which may be written. -/
def BRow (w : World) (b : Nat) (l : Bytes) : Prop := ∀ j, j < l.length → w.cell? ⟨b, j, none⟩ = some (.int .u8 (bl l j)) ∧ w.frozen? ⟨b, j, none⟩ = false
theorem conv_row (l : Bytes) (w : World) : ∃ W1 cap, (convert 9 59 (.string (bs l))).run Try.prog w = .ok (.slice (some ⟨w.heap.size, 0, none⟩) l.length cap) W1 ∧ BRow W1 w.heap.size l ∧ Below w.heap.size w W1 ∧ W1.heap.size = w.heap.size + 1 ∧ l.length ≤ cap := by
  have h := run_bytes_of_string (P := Try.prog) w 9 59 5 (bs l) Try.underlying9 Try.underlying59 Try.underlying5
  rw [bs_size] at h
  have hcap : l.length ≤ grownCap w l.length 0 5 := by
    exact grownCap_ge w _ _ _
  generalize grownCap w l.length 0 5 = cap at h hcap
  refine ⟨_, cap, h, ?_, ((Below.refl _ _).drew.alloc (Nat.le_refl _) _), by simp, hcap⟩
  intro j hj
  have e : ((bytesRow (bs l) cap))[j]? = some (.int .u8 (bl l j)) := by
    unfold bytesRow
    rw [Array.getElem?_append_left (by simp; simpa [bs] using hj)]
    rw [Array.getElem?_map]
    have : (bs l).data[j]? = some l[j] := by simp [bs, hj]
    rw [this, bl_get l j hj]
    rfl
  refine ⟨(World.cell?_alloc_mark w.drew _ _ _ j).trans e, ?_⟩
  refine (World.frozen?_alloc_mark w.drew _ _ _ _ j).trans ?_
  have : j < (bytesRow (bs l) cap).size := by
    unfold bytesRow
    simp [bs]
    omega
  simp
  omega
theorem bl_set (l : Bytes) (i j : Nat) (c : UInt8) (hi : i < l.length) : bl (l.set i c) j = if i = j then c.toNat else bl l j := by
  unfold bl
  rw [List.getElem?_set]
  by_cases h : i = j
  · subst h; simp [hi]
  · simp [h]
theorem BRow.set {w : World} {b : Nat} {l : Bytes} (h : BRow w b l) (i : Nat) (hi : i < l.length) (c : UInt8) (x : Int) (hx : x = (c.toNat : Int)) : BRow (w.setCell ⟨b, i, none⟩ (.int .u8 x)) b (l.set i c) := by
  intro j hj
  rw [List.length_set] at hj
  subst hx
  refine ⟨?_, by rw [World.frozen?_setCell]; exact (h j hj).2⟩
  rw [bl_set l i j c hi]
  by_cases hij : i = j
  · subst hij
    rw [if_pos rfl]
    exact World.cell?_setCell_same _ _ _ (h i hi).1
  · rw [if_neg hij, World.cell?_setCell_other _ _ _ _ (by intro e; cases e; exact hij rfl)]
    exact (h j hj).1
theorem BRow.drewN {w : World} {b : Nat} {l : Bytes} (h : BRow w b l) (n : Nat) : BRow (w.drewN n) b l := h
theorem BRow.drew {w : World} {b : Nat} {l : Bytes} (h : BRow w b l) : BRow w.drew b l := h
theorem BRow.back {w : World} {b : Nat} {l : Bytes} (h : BRow w b l) (k cap : Nat) (n : Nat) (hn : n = l.length - k) : (convert 59 9 (.slice (some ⟨b, k, none⟩) n cap)).run Try.prog w = .ok (.string (bs (l.drop k))) w := by
  have e : n = (l.drop k).length := by rw [List.length_drop]; exact hn
  subst e
  refine run_convert_bytes_back w 59 9 5 ⟨b, k, none⟩ cap (l.drop k) Try.underlying59 Try.underlying5 Try.underlying9 ?_
  intro j hj
  rw [List.length_drop] at hj
  have := (h (k + j) (by omega)).1
  rw [bl_get l (k + j) (by omega)] at this
  rw [List.getElem_drop]
  have ea : (⟨b, k, none⟩ : Addr).add j = ⟨b, k + j, none⟩ := by by_cases h0 : j = 0 <;> simp [Addr.add, h0]
  rw [ea]
  exact this
end Go.Proofs.Ytdhibalpnccbiaa
