/- spec.Sorts at toolchain. -/
import Derived.Test.YtdhibalpnccbiaaSorts2
namespace Go.Proofs.Ytdhibalpnccbiaa
open Go.RowKit
set_option linter.unusedVariables false
/-- Block b of w is a box of a version, which may be written. -/
def Box (w : World) (b : Nat) (g : GV) : Prop :=
  (w.cell? ⟨b, 0, none⟩ = some (.string (bs g.maj)) ∧ w.cell? ⟨b, 1, none⟩ = some (.string (bs g.min)) ∧ w.cell? ⟨b, 2, none⟩ = some (.string (bs g.pat)) ∧ w.cell? ⟨b, 3, none⟩ = some (.string (bs g.kind)) ∧ w.cell? ⟨b, 4, none⟩ = some (.string (bs g.pre))) ∧
  (w.frozen? ⟨b, 0, none⟩ = false ∧ w.frozen? ⟨b, 1, none⟩ = false ∧ w.frozen? ⟨b, 2, none⟩ = false ∧ w.frozen? ⟨b, 3, none⟩ = false ∧ w.frozen? ⟨b, 4, none⟩ = false)
def boxOf (g : GV) : Obj := .cells #[.string (bs g.maj), .string (bs g.min), .string (bs g.pat), .string (bs g.kind), .string (bs g.pre)] 25
def put5 (w : World) (b : Nat) (g : GV) : World :=
  ((((w.setCell ⟨b, 0, none⟩ (.string (bs g.maj))).setCell ⟨b, 1, none⟩ (.string (bs g.min))).setCell ⟨b, 2, none⟩ (.string (bs g.pat))).setCell ⟨b, 3, none⟩ (.string (bs g.kind))).setCell ⟨b, 4, none⟩ (.string (bs g.pre))
theorem Box.new (w : World) (g : GV) : Box (w.alloc (boxOf g)) w.heap.size g := by
  unfold boxOf
  refine ⟨⟨?_, ?_, ?_, ?_, ?_⟩, ?_, ?_, ?_, ?_, ?_⟩ <;> simp [go_sem]
theorem Box.later {w w' : World} {b : Nat} {g : GV} (h : Box w b g) (hb : Below w.heap.size w w') : Box w' b g := by
  obtain ⟨⟨c0, c1, c2, c3, c4⟩, f0, f1, f2, f3, f4⟩ := h
  have hlt : b < w.heap.size := World.block_lt_of_cell? _ _ c0
  refine ⟨⟨cell_later hb c0, cell_later hb c1, cell_later hb c2, cell_later hb c3, cell_later hb c4⟩, ?_, ?_, ?_, ?_, ?_⟩
  · exact (hb.frozen (p := ⟨b, 0, none⟩) hlt).trans f0
  · exact (hb.frozen (p := ⟨b, 1, none⟩) hlt).trans f1
  · exact (hb.frozen (p := ⟨b, 2, none⟩) hlt).trans f2
  · exact (hb.frozen (p := ⟨b, 3, none⟩) hlt).trans f3
  · exact (hb.frozen (p := ⟨b, 4, none⟩) hlt).trans f4
theorem Box.lt {w : World} {b : Nat} {g : GV} (h : Box w b g) : b < w.heap.size := World.block_lt_of_cell? _ _ h.1.1
theorem Box.put {w : World} {b : Nat} {g : GV} (h : Box w b g) (g' : GV) : Box (put5 w b g') b g' := by
  obtain ⟨⟨c0, c1, c2, c3, c4⟩, f0, f1, f2, f3, f4⟩ := h
  unfold put5
  refine ⟨⟨?_, ?_, ?_, ?_, ?_⟩, ?_, ?_, ?_, ?_, ?_⟩ <;> simp [go_sem, c0, c1, c2, c3, c4, f0, f1, f2, f3, f4]
theorem Box.other {w : World} {b b' : Nat} {g : GV} (h : Box w b g) (hne : b ≠ b') (g' : GV) : Box (put5 w b' g') b g := by
  obtain ⟨⟨c0, c1, c2, c3, c4⟩, f0, f1, f2, f3, f4⟩ := h
  have e : ∀ i j, (⟨b', i, none⟩ : Addr) ≠ ⟨b, j, none⟩ := by intro i j h; cases h; exact hne rfl
  unfold put5
  refine ⟨⟨?_, ?_, ?_, ?_, ?_⟩, ?_, ?_, ?_, ?_, ?_⟩ <;> simp [World.cell?_setCell_other _ _ _ _ (e _ _), c0, c1, c2, c3, c4, f0, f1, f2, f3, f4]
theorem below_put {B : Nat} {a w : World} (h : Below B a w) {b : Nat} (hb : B ≤ b) (g : GV) : Below B a (put5 w b g) :=
  ((((h.setCell hb _).setCell hb _).setCell hb _).setCell hb _).setCell hb _
theorem put_size (w : World) (b : Nat) (g : GV) : (put5 w b g).heap.size = w.heap.size := by
  unfold put5; simp
set_option maxRecDepth 100000 in
set_option maxHeartbeats 2000000 in
theorem sorts_tool (x y : Bytes) (w : World) (hx : x.length ≤ maxLen) (hy : y.length ≤ maxLen) :
    Calls Try.prog 39 #[.string (bs tToolchain), .string (bs x), .string (bs y)] w fun e w' => e = .returned (sv (sortR (eitherR x) (eitherR y))) ∧ Below w.heap.size w w' := by
  have HX := Lib.hid hx
  have HY := Lib.hid hy
  clear hx hy
  obtain ⟨⟨ax, tx⟩, hrx⟩ : ∃ r, read x = r := ⟨_, rfl⟩
  obtain ⟨⟨ay, ty⟩, hry⟩ : ∃ r, read y = r := ⟨_, rfl⟩
  obtain ⟨⟨gx, sx⟩, hex⟩ : ∃ r, eitherR x = r := ⟨_, rfl⟩
  obtain ⟨⟨gy, sy⟩, hey⟩ : ∃ r, eitherR y = r := ⟨_, rfl⟩
  have HS : Hid (sv (sortR (eitherR x) (eitherR y)) = sv (sortR (gx, sx) (gy, sy))) := by show _ = _; rw [hex, hey]
  have HRX := Lib.hid hrx
  have HRY := Lib.hid hry
  have HEX := Lib.hid hex
  have HEY := Lib.hid hey
  clear hrx hry hex hey
  unfold tToolchain
  go_enter Try.func39, Try.ntmps39
  go_wp2_with fail
  refine (virt_any [116, 111, 111, 108, 99, 104, 97, 105, 110] _).mono ?_
  rintro e w' ⟨rfl, rfl⟩
  rw [show virt [116, 111, 111, 108, 99, 104, 97, 105, 110] = true from rfl]
  go_wp2_with fail
  refine (read_any _ _ HX.out).mono ?_
  rintro e w1 ⟨rfl, hb⟩
  rw [HRX.out]
  unfold rv
  unfold gv
  go_wp2_with fail
  change Calls Try.prog 24 #[.string (bs y)] (w1.alloc (boxOf ax)) _
  refine (read_any _ _ HY.out).mono ?_
  rintro e w2 ⟨rfl, hb2⟩
  rw [HRY.out]
  unfold rv
  unfold gv
  have hA := (Box.new w1 ax).later hb2
  have HB2 := Lib.hid (below_next (hb.alloc hb.size (boxOf ax)) hb2)
  have hA1 := hA.lt
  have hw1 := hb.size
  clear hb hb2
  go_wp2_with fail
  change Calls Try.prog 59 #[.string (bs x)] (w2.alloc (boxOf ay)) _
  refine (either_any _ _ HX.out).mono ?_
  rintro e w3 ⟨rfl, hb3⟩
  rw [HEX.out]
  unfold rv
  unfold gv
  have HA3 := Lib.hid ((hA.later ((Below.refl w2.heap.size w2).alloc (Nat.le_refl _) (boxOf ay))).later hb3)
  have HBy := Lib.hid ((Box.new w2 ay).later hb3)
  have HB3 := Lib.hid (below_next (HB2.out.alloc HB2.out.size (boxOf ay)) hb3)
  clear hb3 hA
  obtain ⟨⟨c0, c1, c2, c3, c4⟩, f0, f1, f2, f3, f4⟩ := HA3.out
  go_wp2_with fail
  change Calls Try.prog 59 #[.string (bs y)] (put5 w3 w1.heap.size gx) _
  have HA4 := Lib.hid (HA3.out.put gx)
  have HBy4 := Lib.hid (HBy.out.other (by omega) gx : Box (put5 w3 w1.heap.size gx) w2.heap.size ay)
  have HB4 := Lib.hid (below_put HB3.out hw1 gx)
  clear c0 c1 c2 c3 c4 f0 f1 f2 f3 f4 HA3 HBy HB3
  generalize put5 w3 w1.heap.size gx = W4 at *
  refine (either_any _ _ HY.out).mono ?_
  rintro e w5 ⟨rfl, hb5⟩
  rw [HEY.out]
  unfold rv
  unfold gv
  have HA5 := Lib.hid (HA4.out.later hb5)
  have HBy5 := Lib.hid (HBy4.out.later hb5)
  have HB5 := Lib.hid (below_next HB4.out hb5)
  clear hb5 HA4 HBy4 HB4
  obtain ⟨⟨c0, c1, c2, c3, c4⟩, f0, f1, f2, f3, f4⟩ := HA5.out
  obtain ⟨⟨d0, d1, d2, d3, d4⟩, g0, g1, g2, g3, g4⟩ := HBy5.out
  have HB6 : Hid (Below w.heap.size w (put5 w5 w2.heap.size gy)) := below_put HB5.out (by omega) gy
  by_cases h0 : sx = 0
  · subst h0
    have HQ : Hid (sv (sortR (gx, 0) (gy, sy)) = .tuple #[.int .i64 0, .int .i64 0]) := by show _ = _; simp [sortR, sv]
    go_wp2
    go_ret2
    exact ⟨by rw [HS.out, HQ.out]; rfl, HB6.out⟩
  · have e0 : ((sx : Int) == 0) = false := beq_eq_false_iff_ne.2 (by omega)
    by_cases h1 : sy = 0
    · subst h1
      have HQ : Hid (sv (sortR (gx, sx) (gy, 0)) = .tuple #[.int .i64 0, .int .i64 0]) := by show _ = _; simp [sortR, sv]
      clear h0
      go_wp2
      go_ret2
      exact ⟨by rw [HS.out, HQ.out]; rfl, HB6.out⟩
    · have e1 : ((sy : Int) == 0) = false := beq_eq_false_iff_ne.2 (by omega)
      have HQ : Hid (sv (sortR (gx, sx) (gy, sy)) = .tuple #[.int .i64 (cmpG gx gy), .int .i64 1]) := by show _ = _; simp [sortR, sv, h0, h1]
      clear h0 h1
      go_wp2_with fail
      refine (cmp60 gx gy _).mono ?_
      rintro e w7 ⟨rfl, hb7⟩
      have HB7 := Lib.hid (below_next HB6.out hb7)
      clear hb7
      go_wp2
      go_ret2
      exact ⟨by rw [HS.out, HQ.out]; rfl, HB7.out⟩
end Go.Proofs.Ytdhibalpnccbiaa
