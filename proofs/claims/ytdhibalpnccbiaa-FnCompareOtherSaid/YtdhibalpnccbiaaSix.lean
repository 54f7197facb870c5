/- A block of six cells of the call's own. -/
import Derived.Test.YtdhibalpnccbiaaParts
namespace Go.Proofs.Ytdhibalpnccbiaa
open Go.RowKit
set_option linter.unusedVariables false

def Six (w : World) (b : Nat) (v0 v1 v2 v3 v4 v5 : Value) : Prop :=
  (w.cell? ⟨b, 0, none⟩ = some v0 ∧ w.cell? ⟨b, 1, none⟩ = some v1 ∧ w.cell? ⟨b, 2, none⟩ = some v2 ∧ w.cell? ⟨b, 3, none⟩ = some v3 ∧ w.cell? ⟨b, 4, none⟩ = some v4 ∧ w.cell? ⟨b, 5, none⟩ = some v5) ∧
  (w.frozen? ⟨b, 0, none⟩ = false ∧ w.frozen? ⟨b, 1, none⟩ = false ∧ w.frozen? ⟨b, 2, none⟩ = false ∧ w.frozen? ⟨b, 3, none⟩ = false ∧ w.frozen? ⟨b, 4, none⟩ = false ∧ w.frozen? ⟨b, 5, none⟩ = false)
theorem Six.new (w : World) (v0 v1 v2 v3 v4 v5 : Value) (T : TypeId) : Six (w.alloc (.cells #[v0, v1, v2, v3, v4, v5] T)) w.heap.size v0 v1 v2 v3 v4 v5 := by
  refine ⟨⟨?_, ?_, ?_, ?_, ?_, ?_⟩, ?_, ?_, ?_, ?_, ?_, ?_⟩ <;> simp [go_sem]
theorem Six.lt {w : World} {b : Nat} {v0 v1 v2 v3 v4 v5 : Value} (h : Six w b v0 v1 v2 v3 v4 v5) : b < w.heap.size := World.block_lt_of_cell? _ _ h.1.1
theorem Six.later {w w' : World} {b : Nat} {v0 v1 v2 v3 v4 v5 : Value} (h : Six w b v0 v1 v2 v3 v4 v5) (hb : Below w.heap.size w w') : Six w' b v0 v1 v2 v3 v4 v5 := by
  have hlt := h.lt
  obtain ⟨⟨c0, c1, c2, c3, c4, c5⟩, f0, f1, f2, f3, f4, f5⟩ := h
  refine ⟨⟨cell_later hb c0, cell_later hb c1, cell_later hb c2, cell_later hb c3, cell_later hb c4, cell_later hb c5⟩, ?_, ?_, ?_, ?_, ?_, ?_⟩
  · exact (hb.frozen (p := ⟨b, 0, none⟩) hlt).trans f0
  · exact (hb.frozen (p := ⟨b, 1, none⟩) hlt).trans f1
  · exact (hb.frozen (p := ⟨b, 2, none⟩) hlt).trans f2
  · exact (hb.frozen (p := ⟨b, 3, none⟩) hlt).trans f3
  · exact (hb.frozen (p := ⟨b, 4, none⟩) hlt).trans f4
  · exact (hb.frozen (p := ⟨b, 5, none⟩) hlt).trans f5
theorem Six.drewN {w : World} {b : Nat} {v0 v1 v2 v3 v4 v5 : Value} (h : Six w b v0 v1 v2 v3 v4 v5) (n : Nat) : Six (w.drewN n) b v0 v1 v2 v3 v4 v5 := h
theorem Six.other {w : World} {b b' i : Nat} {v0 v1 v2 v3 v4 v5 : Value} (h : Six w b v0 v1 v2 v3 v4 v5) (hne : b ≠ b') (v : Value) : Six (w.setCell ⟨b', i, none⟩ v) b v0 v1 v2 v3 v4 v5 := by
  obtain ⟨⟨c0, c1, c2, c3, c4, c5⟩, f0, f1, f2, f3, f4, f5⟩ := h
  have e : ∀ i j, (⟨b', i, none⟩ : Addr) ≠ ⟨b, j, none⟩ := by intro i j h; cases h; exact hne rfl
  refine ⟨⟨?_, ?_, ?_, ?_, ?_, ?_⟩, ?_, ?_, ?_, ?_, ?_, ?_⟩ <;> simp [World.cell?_setCell_other _ _ _ _ (e _ _), c0, c1, c2, c3, c4, c5, f0, f1, f2, f3, f4, f5]
theorem Six.put3 {w : World} {b : Nat} {v0 v1 v2 v3 v4 v5 : Value} (h : Six w b v0 v1 v2 v3 v4 v5) (v : Value) : Six (w.setCell ⟨b, 3, none⟩ v) b v0 v1 v2 v v4 v5 := by
  obtain ⟨⟨c0, c1, c2, c3, c4, c5⟩, f0, f1, f2, f3, f4, f5⟩ := h
  refine ⟨⟨?_, ?_, ?_, ?_, ?_, ?_⟩, ?_, ?_, ?_, ?_, ?_, ?_⟩ <;> simp [go_sem, c0, c1, c2, c3, c4, c5, f0, f1, f2, f3, f4, f5]
theorem Six.put4 {w : World} {b : Nat} {v0 v1 v2 v3 v4 v5 : Value} (h : Six w b v0 v1 v2 v3 v4 v5) (v : Value) : Six (w.setCell ⟨b, 4, none⟩ v) b v0 v1 v2 v3 v v5 := by
  obtain ⟨⟨c0, c1, c2, c3, c4, c5⟩, f0, f1, f2, f3, f4, f5⟩ := h
  refine ⟨⟨?_, ?_, ?_, ?_, ?_, ?_⟩, ?_, ?_, ?_, ?_, ?_, ?_⟩ <;> simp [go_sem, c0, c1, c2, c3, c4, c5, f0, f1, f2, f3, f4, f5]
theorem Six.put5 {w : World} {b : Nat} {v0 v1 v2 v3 v4 v5 : Value} (h : Six w b v0 v1 v2 v3 v4 v5) (v : Value) : Six (w.setCell ⟨b, 5, none⟩ v) b v0 v1 v2 v3 v4 v := by
  obtain ⟨⟨c0, c1, c2, c3, c4, c5⟩, f0, f1, f2, f3, f4, f5⟩ := h
  refine ⟨⟨?_, ?_, ?_, ?_, ?_, ?_⟩, ?_, ?_, ?_, ?_, ?_, ?_⟩ <;> simp [go_sem, c0, c1, c2, c3, c4, c5, f0, f1, f2, f3, f4, f5]
end Go.Proofs.Ytdhibalpnccbiaa
