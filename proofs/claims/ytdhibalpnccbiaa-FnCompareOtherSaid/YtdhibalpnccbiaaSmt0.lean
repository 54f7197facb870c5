/- spec.Semantic: its third loop, and what is behind it. -/
import Derived.Test.YtdhibalpnccbiaaSix
import Derived.Test.YtdhibalpnccbiaaSmtP
import Derived.RegionTactic
namespace Go.Proofs.Ytdhibalpnccbiaa
open Go.RowKit
set_option linter.unusedVariables false
def sxv (x : SX) : Value := .agg #[.string (bs x.n0), .string (bs x.n1), .string (bs x.n2), .string (bs x.pre), .string (bs x.plus), .int .i64 x.told]
def SxE (o : Option SX) (e : Ending) : Prop := match o with
  | none => ∃ S, e = .returned (.tuple #[sxv S, .bool false])
  | some S => e = .returned (.tuple #[sxv S, .bool true])
theorem sxE_none {o : Option SX} {e : Ending} (h : o = none) (S : SX) (he : e = .returned (.tuple #[sxv S, .bool false])) : SxE o e := by
  subst h; exact ⟨S, he⟩
theorem sxE_some {o : Option SX} {e : Ending} {S : SX} (h : o = some S) (he : e = .returned (.tuple #[sxv S, .bool true])) : SxE o e := by
  subst h; exact he
theorem Row.put {w : World} {B g cap b i : Nat} {xs : List Bytes} (h : Row w B g cap xs) (hne : g ≠ b) (v : Value) : Row (w.setCell ⟨b, i, none⟩ v) B g cap xs :=
  ⟨fun j hj => by rw [World.cell?_setCell_other _ _ _ _ (by intro e; cases e; exact hne rfl)]; exact h.cell j hj, h.own, h.fits⟩
theorem Six.put0 {w : World} {b : Nat} {v0 v1 v2 v3 v4 v5 : Value} (h : Six w b v0 v1 v2 v3 v4 v5) (v : Value) : Six (w.setCell ⟨b, 0, none⟩ v) b v v1 v2 v3 v4 v5 := by
  obtain ⟨⟨c0, c1, c2, c3, c4, c5⟩, f0, f1, f2, f3, f4, f5⟩ := h
  refine ⟨⟨?_, ?_, ?_, ?_, ?_, ?_⟩, ?_, ?_, ?_, ?_, ?_, ?_⟩ <;> simp [go_sem, c0, c1, c2, c3, c4, c5, f0, f1, f2, f3, f4, f5]
theorem Six.put1 {w : World} {b : Nat} {v0 v1 v2 v3 v4 v5 : Value} (h : Six w b v0 v1 v2 v3 v4 v5) (v : Value) : Six (w.setCell ⟨b, 1, none⟩ v) b v0 v v2 v3 v4 v5 := by
  obtain ⟨⟨c0, c1, c2, c3, c4, c5⟩, f0, f1, f2, f3, f4, f5⟩ := h
  refine ⟨⟨?_, ?_, ?_, ?_, ?_, ?_⟩, ?_, ?_, ?_, ?_, ?_, ?_⟩ <;> simp [go_sem, c0, c1, c2, c3, c4, c5, f0, f1, f2, f3, f4, f5]
theorem Six.put2 {w : World} {b : Nat} {v0 v1 v2 v3 v4 v5 : Value} (h : Six w b v0 v1 v2 v3 v4 v5) (v : Value) : Six (w.setCell ⟨b, 2, none⟩ v) b v0 v1 v v3 v4 v5 := by
  obtain ⟨⟨c0, c1, c2, c3, c4, c5⟩, f0, f1, f2, f3, f4, f5⟩ := h
  refine ⟨⟨?_, ?_, ?_, ?_, ?_, ?_⟩, ?_, ?_, ?_, ?_, ?_, ?_⟩ <;> simp [go_sem, c0, c1, c2, c3, c4, c5, f0, f1, f2, f3, f4, f5]
def s0 : Value := .string (bs [48])
def se : Value := .string (bs [])
/-- What is behind the first statement. -/
def nx : Code → Code
  | .seq _ b => b
  | _ => .skip
noncomputable def bodySem : Code := (Try.f34.body).getD .skip
noncomputable def c5 : Code := nx (nx (nx (nx bodySem)))
noncomputable def c11 : Code := nx c5
noncomputable def c17 : Code := nx c11
noncomputable def c21 : Code := nx (nx (nx c17))
/-- The state of the third loop. -/
structure Loop3 (w W : World) (g cap : Nat) (L : List Bytes) (E P : Bytes) (k : Nat) : Prop where
  res : Six W w.heap.size (.string (bs [])) (.string (bs [])) (.string (bs [])) (.string (bs [])) (.string (bs [])) (.int .i64 0)
  box : Six W (w.heap.size + 1) (Value.string (bs (nth L k 0))) (Value.string (bs (nth L k 1))) (Value.string (bs (nth L k 2))) (.string (bs E)) (.string (bs P)) (.int .i64 L.length)
  row : Row W (w.heap.size + 2) g cap L
  bel : Below w.heap.size w W
  all : (L.take k).all numOk = true
theorem nth_succ (L : List Bytes) (k j : Nat) (h : j ≠ k) : nth L (k + 1) j = nth L k j := by
  unfold nth
  by_cases h1 : j < k
  · rw [if_pos h1, if_pos (by omega)]
  · rw [if_neg h1, if_neg (by omega)]
theorem nth_here (L : List Bytes) (k : Nat) : nth L (k + 1) k = L.getD k [] := by
  unfold nth; rw [if_pos (by omega)]
theorem Loop3.next {w W : World} {g cap : Nat} {L : List Bytes} {E P : Bytes} {k : Nat} (h : Loop3 w W g cap L E P k) (hk : k < L.length) (h3 : k < 3) (hn : numOk (L.getD k []) = true) :
    Loop3 w (W.setCell ⟨w.heap.size + 1, k, none⟩ (Value.string (bs (L.getD k [])))) g cap L E P (k + 1) := by
  have hg := h.row.own
  have hr := h.res.other (b' := w.heap.size + 1) (i := k) (by omega) (Value.string (bs (L.getD k [])))
  have hrow := h.row.put (b := w.heap.size + 1) (i := k) (by omega) (Value.string (bs (L.getD k [])))
  have hb : Below w.heap.size w (W.setCell ⟨w.heap.size + 1, k, none⟩ (Value.string (bs (L.getD k [])))) := h.bel.setCell (by show w.heap.size ≤ w.heap.size + 1; omega) _
  have ha := all_step numOk L k hk h.all hn
  refine ⟨hr, ?_, hrow, hb, ha⟩
  have hbox := h.box
  match k, h3 with
  | 0, _ =>
    have := hbox.put0 (Value.string (bs (L.getD 0 [])))
    rw [← nth_here L 0, ← nth_succ L 0 1 (by decide), ← nth_succ L 0 2 (by decide)] at this
    rw [← nth_here L 0]
    exact this
  | 1, _ =>
    have := hbox.put1 (Value.string (bs (L.getD 1 [])))
    rw [← nth_here L 1, ← nth_succ L 1 0 (by decide), ← nth_succ L 1 2 (by decide)] at this
    rw [← nth_here L 1]
    exact this
  | 2, _ =>
    have := hbox.put2 (Value.string (bs (L.getD 2 [])))
    rw [← nth_here L 2, ← nth_succ L 2 0 (by decide), ← nth_succ L 2 1 (by decide)] at this
    rw [← nth_here L 2]
    exact this
theorem below6 {w W : World} {v0 v1 v2 v3 v4 v5 : Value} (h : Below w.heap.size w W) :
    Below w.heap.size w ((((((W.setCell ⟨w.heap.size, 0, none⟩ v0).setCell ⟨w.heap.size, 1, none⟩ v1).setCell ⟨w.heap.size, 2, none⟩ v2).setCell ⟨w.heap.size, 3, none⟩ v3).setCell ⟨w.heap.size, 4, none⟩ v4).setCell ⟨w.heap.size, 5, none⟩ v5) :=
  (((((h.setCell (Nat.le_refl _) _).setCell (Nat.le_refl _) _).setCell (Nat.le_refl _) _).setCell (Nat.le_refl _) _).setCell (Nat.le_refl _) _).setCell (Nat.le_refl _) _

set_option maxHeartbeats 4000000 in
set_option maxRecDepth 1000000 in
theorem tail21 (w W : World) (g cap : Nat) (L : List Bytes) (E P : Bytes) (o : Option SX) (u0 u1 u3 u5 u6 u8 u9 u10 u11 u12 u13 u14 u15 u16 u17 u18 u19 u20 u21 u22 u23 u24 u25 u26 u27 u28 u29 u30 u31 u32 u33 u34 u35 u36 u37 u38 u39 u40 u41 u42 u43 u44 u45 u46 u47 u48 u49 u50 u51 u52 u53 u54 u55 u56 u57 u58 u59 u60 u61 u62 u63 u64 u65 u66 u67 u68 u69 u70 u71 u72 u73 u74 u75 u76 u77 u78 u79 u80 u81 u82 u83 u84 u85 u86 u87 u88 u89 u90 u91 u92 u93 u94 u95 u96 u97 u98 u99 u100 u101 u102 u103 u104 u105 u106 u107 u108 u109 u110 u111 u112 u113 u114 u115 u116 u117 u118 : Value) (h3 : L.length ≤ 3) (hlen : ∀ x ∈ L, x.length ≤ maxLen)
    (hS : Loop3 w W g cap L E P 0) (ho : o = if L.all numOk = true then some ⟨nth L L.length 0, nth L L.length 1, nth L L.length 2, E, P, L.length⟩ else none) :
    Code.wp Try.prog c21 (bodyPost Try.prog Try.f34 fun e w' => SxE o e ∧ Below w.heap.size w w') {tmps := #[u0, u1, Value.pointer (some ⟨w.heap.size, 0, none⟩), u3, Value.pointer (some ⟨w.heap.size + 1, 0, none⟩), u5, u6, Value.slice (some ⟨g, 0, none⟩) L.length cap, u8, u9, u10, u11, u12, u13, u14, u15, u16, u17, u18, u19, u20, u21, u22, u23, u24, u25, u26, u27, u28, u29, u30, u31, u32, u33, u34, u35, u36, u37, u38, u39, u40, u41, u42, u43, u44, u45, u46, u47, u48, u49, u50, u51, u52, u53, u54, u55, u56, u57, u58, u59, u60, u61, u62, u63, u64, u65, u66, u67, u68, u69, u70, u71, u72, u73, u74, u75, u76, u77, u78, u79, u80, u81, u82, u83, u84, u85, u86, u87, u88, u89, u90, u91, u92, u93, u94, u95, u96, u97, u98, u99, u100, u101, u102, u103, u104, u105, u106, u107, u108, u109, u110, u111, u112, u113, u114, u115, u116, u117, u118], defers := []} W := by
  have HL := Lib.hid hlen
  have HO := Lib.hid ho
  have HS := Lib.hid hS
  clear hlen ho hS
  conv => arg 2; whnf
  go_wp2
  go_loopw [104] (fun i W' => ∃ k : Nat, k ≤ L.length ∧ i = .int .i64 k ∧ Hid (Loop3 w W' g cap L E P k)) (fun i _ => L.length - (intOf i).toNat)
  case atStart => exact ⟨0, Nat.zero_le _, rfl, HS⟩
  case round =>
    obtain ⟨k, hk, rfl, HK⟩ := hrel
    clear HS
    by_cases hlt : k < L.length
    · have hcell := HK.out.row.cell k hlt
      have hxl := HL.out _ (getD_mem L k hlt)
      have HX := Lib.hid hxl
      obtain ⟨⟨c0, c1, c2, c3, c4, c5⟩, f0, f1, f2, f3, f4, f5⟩ := HK.out.box
      obtain ⟨⟨r0, r1, r2, r3, r4, r5⟩, g0, g1, g2, g3, g4, g5⟩ := HK.out.res
      have HB := Lib.hid HK.out.bel
      by_cases hn : numOk (L.getD k []) = true
      · have HN := Lib.hid hn
        have HNX := Lib.hid (HK.out.next hlt (by omega) hn)
        clear hn hxl
        generalize hx : L.getD k [] = x at *
        clear hx
        obtain rfl | rfl | rfl : k = 0 ∨ k = 1 ∨ k = 2 := by omega
        · go_wp2_with fail
          refine (number_any x _ HX.out).mono ?_
          rintro e w' ⟨rfl, rfl⟩
          rw [HN.out]
          go_wp2
          go_roundw
          case rel => exact ⟨1, by omega, rfl, HNX⟩
          case measure => simp [intOf]; omega
        · go_wp2_with fail
          refine (number_any x _ HX.out).mono ?_
          rintro e w' ⟨rfl, rfl⟩
          rw [HN.out]
          go_wp2
          go_roundw
          case rel => exact ⟨2, by omega, rfl, HNX⟩
          case measure => simp [intOf]; omega
        · go_wp2_with fail
          refine (number_any x _ HX.out).mono ?_
          rintro e w' ⟨rfl, rfl⟩
          rw [HN.out]
          go_wp2
          go_roundw
          case rel => exact ⟨3, by omega, rfl, HNX⟩
          case measure => simp [intOf]; omega
      · have HN : Hid (numOk (L.getD k []) = false) := by show _ = _; simpa using hn
        have HF : Hid (o = none) := by
          show _ = _
          rw [HO.out, if_neg]
          rw [all_no numOk L k hlt HN.out]
          simp
        clear hn hxl
        generalize hx : L.getD k [] = x at *
        clear hx
        go_wp2_with fail
        refine (number_any x _ HX.out).mono ?_
        rintro e w' ⟨rfl, rfl⟩
        rw [HN.out]
        go_wp2
        refine bodyPost_ret (v := .tuple #[sxv ⟨nth L k 0, nth L k 1, nth L k 2, E, P, L.length⟩, .bool false]) (by simp [results, Try.results34, go_sem, r0, r1, r2, r3, r4, r5]; try rfl) rfl ⟨sxE_none HF.out _ rfl, ?_⟩
        exact below6 HB.out
    · have HF : Hid (o = some ⟨nth L k 0, nth L k 1, nth L k 2, E, P, L.length⟩) := by
        show _ = _
        have hkl : k = L.length := by omega
        have := HK.out.all
        rw [hkl, List.take_length] at this
        rw [HO.out, if_pos this, hkl]
      obtain ⟨⟨c0, c1, c2, c3, c4, c5⟩, f0, f1, f2, f3, f4, f5⟩ := HK.out.box
      obtain ⟨⟨r0, r1, r2, r3, r4, r5⟩, g0, g1, g2, g3, g4, g5⟩ := HK.out.res
      have HB := Lib.hid HK.out.bel
      go_wp2
      refine bodyPost_ret (v := .tuple #[sxv ⟨nth L k 0, nth L k 1, nth L k 2, E, P, L.length⟩, .bool true]) (by simp [results, Try.results34, go_sem, r0, r1, r2, r3, r4, r5]; try rfl) rfl ⟨sxE_some HF.out rfl, ?_⟩
      exact below6 HB.out
end Go.Proofs.Ytdhibalpnccbiaa
