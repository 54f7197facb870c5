/- spec.parts: identifiers between dots. -/
import Derived.Test.YtdhibalpnccbiaaCuts
import Derived.Laws.OwnMore
namespace Go.Proofs.Ytdhibalpnccbiaa
open Go.RowKit
set_option linter.unusedVariables false

theorem segs_pos : ∀ (l seg : Bytes), 0 < (segs seg l).length
  | [], seg => by unfold segs; simp
  | c :: r, seg => by
    unfold segs
    split
    · simp
    · exact segs_pos r _
theorem segs_mem : ∀ (l seg x : Bytes), x ∈ segs seg l → x.length ≤ seg.length + l.length
  | [], seg, x, h => by unfold segs at h; simp at h; simp [h]
  | c :: r, seg, x, h => by
    unfold segs at h
    split at h
    · rcases List.mem_cons.1 h with rfl | h
      · simp
      · have := segs_mem r [] x h; simp at *; omega
    · have := segs_mem r _ x h; simp at *; omega
theorem segs_len : ∀ (l seg : Bytes), (segs seg l).length ≤ l.length + 1
  | [], seg => by unfold segs; simp
  | c :: r, seg => by
    unfold segs
    split
    · have := segs_len r []; simp; omega
    · have := segs_len r (seg ++ [c]); simp; omega
/-- A slice of texts, as it lies. -/
structure Row (w : World) (B g cap : Nat) (xs : List Bytes) : Prop where
  cell : ∀ j, j < xs.length → w.cell? ⟨g, j, none⟩ = some (.string (bs (xs.getD j [])))
  own : B ≤ g
  fits : xs.length ≤ cap ∧ cap ≤ maxLen
theorem Row.later {w w' : World} {B g cap : Nat} {xs : List Bytes} (h : Row w B g cap xs) (hb : Below w.heap.size w w') : Row w' B g cap xs :=
  ⟨fun j hj => cell_later hb (h.cell j hj), h.own, h.fits⟩
theorem cuts_row (l : Bytes) (w : World) (hs : l.length ≤ 1000) :
    Calls Try.prog 53 #[.string (bs l), .int .u8 46] w fun e w' => (∃ g cap, e = .returned (.slice (some ⟨g, 0, none⟩) (segs [] l).length cap) ∧ Row w' w.heap.size g cap (segs [] l)) ∧ Below w.heap.size w w' := by
  refine (cuts_any l w hs).mono ?_
  rintro e w' ⟨v, rfl, hown, hb⟩
  refine ⟨?_, hb⟩
  rcases hown.2 with ⟨_, h0⟩ | ⟨g, cap, cur, rfl, hg, hob, hn, hm, hsz, htk⟩
  · have := segs_pos l []; omega
  · refine ⟨g, cap, rfl, ⟨fun j hj => ?_, hg, hn, hm⟩⟩
    rw [hown.cellAt j (by omega)]
    rw [List.getElem?_map, List.getElem?_eq_getElem hj, List.getD_eq_getElem?_getD, List.getElem?_eq_getElem hj]
    rfl
def okSeg (st : Bool) (x : Bytes) : Bool := decide (x ≠ []) && x.all isId && !(st && figs x && !numOk x)
def partsB (st : Bool) (l : Bytes) : Bool := (segs [] l).all (okSeg st)
theorem all_step (p : Bytes → Bool) (xs : List Bytes) (k : Nat) (hk : k < xs.length) (ha : (xs.take k).all p = true) (h : p (xs.getD k []) = true) : (xs.take (k + 1)).all p = true := by
  rw [List.take_succ_eq_append_getElem hk, List.all_append, ha]
  rw [List.getD_eq_getElem?_getD, List.getElem?_eq_getElem hk] at h
  simp at h
  simp [h]
theorem all_no (p : Bytes → Bool) (xs : List Bytes) (k : Nat) (hk : k < xs.length) (h : p (xs.getD k []) = false) : xs.all p = false := by
  rw [List.all_eq_false]
  rw [List.getD_eq_getElem?_getD, List.getElem?_eq_getElem hk] at h
  exact ⟨xs[k], List.getElem_mem hk, by simpa using h⟩
theorem getD_mem (xs : List Bytes) (k : Nat) (hk : k < xs.length) : xs.getD k [] ∈ xs := by
  rw [List.getD_eq_getElem?_getD, List.getElem?_eq_getElem hk]; exact List.getElem_mem hk

set_option maxHeartbeats 1600000 in
set_option maxRecDepth 1000000 in
theorem parts_any (l : Bytes) (st : Bool) (w : World) (hs : l.length ≤ 1000) :
    Calls Try.prog 54 #[.string (bs l), .bool st] w fun e w' => e = .returned (.bool (partsB st l)) ∧ Below w.heap.size w w' := by
  have HS := Lib.hid hs
  go_enter Try.func54, Try.ntmps54
  go_wp2_with fail
  refine (cuts_row l _ HS.out).mono ?_
  rintro e w1 ⟨⟨g, cap, rfl, hrow⟩, hb⟩
  have HB := Lib.hid hb
  have HM : Hid (∀ x ∈ segs [] l, x.length ≤ maxLen) := by
    intro x hx
    have := segs_mem l [] x hx
    unfold maxLen
    simp at this
    omega
  obtain ⟨res, hres⟩ : ∃ res, partsB st l = res := ⟨_, rfl⟩
  have HP : Hid (res = (segs [] l).all (okSeg st)) := by rw [← hres]; exact Lib.hid rfl
  have HQ := Lib.hid hres
  clear hres
  have hlen := segs_len l []
  generalize segs [] l = xs at *
  have HR := Lib.hid hrow
  clear hb hrow
  go_wp2
  go_loop [10] (fun i => ∃ k : Nat, k ≤ xs.length ∧ (xs.take k).all (okSeg st) = true ∧ i = .int .i64 k) (fun i => xs.length - (intOf i).toNat)
  case atStart => exact ⟨0, Nat.zero_le _, rfl, rfl⟩
  case round =>
    obtain ⟨k, hk, hall, rfl⟩ := hrel
    by_cases hlt : k < xs.length
    · have hcell := HR.out.cell k hlt
      have hxl := HM.out _ (getD_mem xs k hlt)
      have hstep := all_step (okSeg st) xs k hlt hall
      have hno := all_no (okSeg st) xs k hlt
      rw [← HP.out] at hno
      generalize xs.getD k [] = x at *
      have HX := Lib.hid hxl
      clear hxl hall
      by_cases hx : x = []
      · subst hx
        have HN := Lib.hid (hno rfl)
        clear hno hstep
        go_wp2
        go_ret
        exact ⟨by rw [HQ.out, HN.out]; rfl, HB.out⟩
      · have hne : (x == []) = false := by simpa using hx
        have hne2 : x.isEmpty = false := by simpa using hx
        by_cases hid : x.all isId = true
        · have HI := Lib.hid hid
          cases st with
          | false =>
            have HN := Lib.hid (hstep (by simp [okSeg, hx, hid]))
            clear hno hstep hid hx
            go_wp2_with fail
            refine (allI_any x _ HX.out).mono ?_
            rintro e w' ⟨rfl, rfl⟩
            rw [HI.out]
            go_wp2
            go_round
            case rel => exact ⟨k + 1, by omega, HN.out, by go_num⟩
            case measure => simp [intOf]; omega
          | true =>
            by_cases hf : figs x = true
            · have HF : Hid ((decide (0 < x.length) && x.all isD) = true) := Lib.hid hf
              by_cases hnum : numOk x = true
              · have HN := Lib.hid (hstep (by simp [okSeg, hx, hid, hnum]))
                have HK := Lib.hid hnum
                clear hno hstep hid hx hf hnum
                go_wp2_with fail
                refine (allI_any x _ HX.out).mono ?_
                rintro e w' ⟨rfl, rfl⟩
                rw [HI.out]
                go_wp2_with fail
                refine (fig_any x _ HX.out).mono ?_
                rintro e w' ⟨rfl, rfl⟩
                rw [HF.out]
                go_wp2_with fail
                refine (number_any x _ HX.out).mono ?_
                rintro e w' ⟨rfl, rfl⟩
                rw [HK.out]
                go_wp2
                go_round
                case rel => exact ⟨k + 1, by omega, HN.out, by go_num⟩
                case measure => simp [intOf]; omega
              · have HN := Lib.hid (hno (by simp [okSeg, hf, hnum]))
                have HK : Hid (numOk x = false) := by show _ = _; simpa using hnum
                clear hno hstep hid hx hf hnum
                go_wp2_with fail
                refine (allI_any x _ HX.out).mono ?_
                rintro e w' ⟨rfl, rfl⟩
                rw [HI.out]
                go_wp2_with fail
                refine (fig_any x _ HX.out).mono ?_
                rintro e w' ⟨rfl, rfl⟩
                rw [HF.out]
                go_wp2_with fail
                refine (number_any x _ HX.out).mono ?_
                rintro e w' ⟨rfl, rfl⟩
                rw [HK.out]
                go_wp2
                go_ret
                exact ⟨by rw [HQ.out, HN.out]; rfl, HB.out⟩
            · have HF : Hid ((decide (0 < x.length) && x.all isD) = false) := Lib.hid (by unfold figs at hf; simpa using hf)
              have HN := Lib.hid (hstep (by simp [okSeg, hx, hid, hf]))
              clear hno hstep hid hx hf
              go_wp2_with fail
              refine (allI_any x _ HX.out).mono ?_
              rintro e w' ⟨rfl, rfl⟩
              rw [HI.out]
              go_wp2_with fail
              refine (fig_any x _ HX.out).mono ?_
              rintro e w' ⟨rfl, rfl⟩
              rw [HF.out]
              go_wp2
              go_round
              case rel => exact ⟨k + 1, by omega, HN.out, by go_num⟩
              case measure => simp [intOf]; omega
        · have HI : Hid (x.all isId = false) := by show _ = _; simpa using hid
          have HN := Lib.hid (hno (by simp [okSeg, hid]))
          clear hno hstep hid hx
          go_wp2_with fail
          refine (allI_any x _ HX.out).mono ?_
          rintro e w' ⟨rfl, rfl⟩
          rw [HI.out]
          go_wp2
          go_ret
          exact ⟨by rw [HQ.out, HN.out]; rfl, HB.out⟩
    · have HN : Hid (res = true) := by
        show _ = _
        rw [HP.out]
        rwa [List.take_of_length_le (by omega)] at hall
      clear hall
      go_wp2
      go_ret
      exact ⟨by rw [HQ.out, HN.out]; rfl, HB.out⟩
end Go.Proofs.Ytdhibalpnccbiaa
