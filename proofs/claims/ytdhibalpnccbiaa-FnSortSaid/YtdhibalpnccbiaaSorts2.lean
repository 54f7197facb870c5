/- spec.Sorts and ModCompare, at go and at toolchain. -/
import Derived.Test.YtdhibalpnccbiaaSorts
namespace Go.Proofs.Ytdhibalpnccbiaa
open Go.RowKit
set_option linter.unusedVariables false
theorem cmp80 (x y : Bytes) (w : World) (hx : x.length ≤ maxLen) (hy : y.length ≤ maxLen) :
    Calls Try.prog 80 #[.string (bs x), .string (bs y)] w fun e w' => e = .returned (.int .i64 (cmpG (parse x) (parse y))) ∧ Below w.heap.size w w' := by
  have HX := Lib.hid hx
  have HY := Lib.hid hy
  clear hx hy
  go_enter Try.func80, Try.ntmps80
  go_wp2_with fail
  refine (cmp92 _ _ _ HX.out HY.out).mono ?_
  rintro e w' ⟨rfl, hb⟩
  go_wp2
  go_ret
  exact ⟨rfl, hb⟩
theorem mc_go (x y : Bytes) (w : World) (hx : x.length ≤ maxLen) (hy : y.length ≤ maxLen) :
    Calls Try.prog 61 #[.string (bs tGo), .string (bs x), .string (bs y)] w fun e w' => e = .returned (.int .i64 (cmpG (parse x) (parse y))) ∧ Below w.heap.size w w' := by
  have HX := Lib.hid hx
  have HY := Lib.hid hy
  clear hx hy
  unfold tGo
  go_enter Try.func61, Try.ntmps61
  go_wp2_with fail
  refine (cmp80 _ _ _ HX.out HY.out).mono ?_
  rintro e w' ⟨rfl, hb⟩
  go_wp2
  go_ret
  exact ⟨rfl, hb⟩
theorem fromTool_len (v : Bytes) : (fromTool v).length ≤ v.length := by
  unfold fromTool
  split
  · simp
  · split
    · split
      · unfold bare; simp; omega
      · simp
    · simp
theorem maybe_len (v : Bytes) : (maybe v).length ≤ v.length := by
  unfold maybe
  split
  · exact Nat.le_refl _
  · exact fromTool_len v
theorem mc_tool (x y : Bytes) (w : World) (hx : x.length ≤ maxLen) (hy : y.length ≤ maxLen) :
    Calls Try.prog 61 #[.string (bs tToolchain), .string (bs x), .string (bs y)] w fun e w' => e = .returned (.int .i64 (cmpG (parse (maybe x)) (parse (maybe y)))) ∧ Below w.heap.size w w' := by
  have HX := Lib.hid hx
  have HY := Lib.hid hy
  have HX2 : Hid ((maybe x).length ≤ maxLen) := Nat.le_trans (maybe_len x) hx
  have HY2 : Hid ((maybe y).length ≤ maxLen) := Nat.le_trans (maybe_len y) hy
  clear hx hy
  unfold tToolchain
  go_enter Try.func61, Try.ntmps61
  go_wp2_with fail
  refine (maybe81 _ _ HX.out).mono ?_
  rintro e w1 ⟨rfl, hb⟩
  go_wp2_with fail
  refine (maybe81 _ _ HY.out).mono ?_
  rintro e w2 ⟨rfl, hb2⟩
  have HB2 := Lib.hid (below_next hb hb2)
  clear hb hb2
  go_wp2_with fail
  refine (cmp80 _ _ _ HX2.out HY2.out).mono ?_
  rintro e w3 ⟨rfl, hb3⟩
  have HB3 := Lib.hid (below_next HB2.out hb3)
  go_wp2
  go_ret
  exact ⟨rfl, HB3.out⟩
theorem mc40 {path x y : Bytes} {w : World} {r : Int} (h : Calls Try.prog 61 #[.string (bs path), .string (bs x), .string (bs y)] w fun e w' => e = .returned (.int .i64 r) ∧ Below w.heap.size w w') :
    Calls Try.prog 40 #[.string (bs path), .string (bs x), .string (bs y)] w fun e w' => e = .returned (.int .i64 r) ∧ Below w.heap.size w w' := by
  have H := Lib.hid h
  clear h
  go_enter Try.func40, Try.ntmps40
  go_wp2_with fail
  refine H.out.mono ?_
  rintro e w' ⟨rfl, hb⟩
  go_wp2
  go_ret
  exact ⟨rfl, hb⟩

def sv (r : Int × Nat) : Value := .tuple #[.int .i64 r.1, .int .i64 (r.2 : Int)]
/-- What spec.Sorts computes of two readings. -/
def sortR (a b : GV × Nat) : Int × Nat := if a.2 = 0 ∨ b.2 = 0 then (0, 0) else (cmpG a.1 b.1, 1)
set_option maxRecDepth 100000 in
set_option maxHeartbeats 1000000 in
theorem sorts_go (x y : Bytes) (w : World) (hx : x.length ≤ maxLen) (hy : y.length ≤ maxLen) :
    Calls Try.prog 39 #[.string (bs tGo), .string (bs x), .string (bs y)] w fun e w' => e = .returned (sv (sortR (read x) (read y))) ∧ Below w.heap.size w w' := by
  have HX := Lib.hid hx
  have HY := Lib.hid hy
  clear hx hy
  obtain ⟨⟨gx, sx⟩, hrx⟩ : ∃ r, read x = r := ⟨_, rfl⟩
  obtain ⟨⟨gy, sy⟩, hry⟩ : ∃ r, read y = r := ⟨_, rfl⟩
  have HS : Hid (sv (sortR (read x) (read y)) = sv (sortR (gx, sx) (gy, sy))) := by show _ = _; rw [hrx, hry]
  have HRX := Lib.hid hrx
  have HRY := Lib.hid hry
  clear hrx hry
  unfold tGo
  go_enter Try.func39, Try.ntmps39
  go_wp2_with fail
  refine (virt_any [103, 111] _).mono ?_
  rintro e w' ⟨rfl, rfl⟩
  rw [show virt [103, 111] = true from rfl]
  go_wp2_with fail
  refine (read_any _ _ HX.out).mono ?_
  rintro e w1 ⟨rfl, hb⟩
  rw [HRX.out]
  unfold rv
  unfold gv
  have hz := hb.size
  have HB := Lib.hid (hb.alloc hz (.cells #[.string (bs gx.maj), .string (bs gx.min), .string (bs gx.pat), .string (bs gx.kind), .string (bs gx.pre)] 25))
  go_wp2_with fail
  refine (read_any _ _ HY.out).mono ?_
  rintro e w2 ⟨rfl, hb2⟩
  rw [HRY.out]
  unfold rv
  unfold gv
  have c0 := cell_later hb2 (a := ⟨w1.heap.size, 0, none⟩) (v := .string (bs gx.maj)) (by simp)
  have c1 := cell_later hb2 (a := ⟨w1.heap.size, 1, none⟩) (v := .string (bs gx.min)) (by simp)
  have c2 := cell_later hb2 (a := ⟨w1.heap.size, 2, none⟩) (v := .string (bs gx.pat)) (by simp)
  have c3 := cell_later hb2 (a := ⟨w1.heap.size, 3, none⟩) (v := .string (bs gx.kind)) (by simp)
  have c4 := cell_later hb2 (a := ⟨w1.heap.size, 4, none⟩) (v := .string (bs gx.pre)) (by simp)
  have hz2 : w1.heap.size < w2.heap.size := by have := hb2.size; simp at this; omega
  have HB2 := Lib.hid ((below_next HB.out hb2).alloc (by have := hb.size; omega) (.cells #[.string (bs gy.maj), .string (bs gy.min), .string (bs gy.pat), .string (bs gy.kind), .string (bs gy.pre)] 25))
  clear hb hb2
  by_cases h0 : sx = 0
  · subst h0
    have HQ : Hid (sv (sortR (gx, 0) (gy, sy)) = .tuple #[.int .i64 0, .int .i64 0]) := by show _ = _; simp [sortR, sv]
    go_wp2
    go_ret2
    exact ⟨by rw [HS.out, HQ.out]; rfl, HB2.out⟩
  · have e0 : ((sx : Int) == 0) = false := beq_eq_false_iff_ne.2 (by omega)
    by_cases h1 : sy = 0
    · subst h1
      have HQ : Hid (sv (sortR (gx, sx) (gy, 0)) = .tuple #[.int .i64 0, .int .i64 0]) := by show _ = _; simp [sortR, sv]
      clear h0
      go_wp2
      go_ret2
      exact ⟨by rw [HS.out, HQ.out]; rfl, HB2.out⟩
    · have e1 : ((sy : Int) == 0) = false := beq_eq_false_iff_ne.2 (by omega)
      have HQ : Hid (sv (sortR (gx, sx) (gy, sy)) = .tuple #[.int .i64 (cmpG gx gy), .int .i64 1]) := by show _ = _; simp [sortR, sv, h0, h1]
      clear h0 h1
      go_wp2_with fail
      refine (cmp60 gx gy _).mono ?_
      rintro e w3 ⟨rfl, hb3⟩
      have HB3 := Lib.hid (below_next HB2.out hb3)
      clear hb3
      go_wp2
      go_ret2
      exact ⟨by rw [HS.out, HQ.out]; rfl, HB3.out⟩
end Go.Proofs.Ytdhibalpnccbiaa
