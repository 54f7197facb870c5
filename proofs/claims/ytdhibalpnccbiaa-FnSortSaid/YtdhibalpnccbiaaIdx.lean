/- zzIndexAny: the first byte that is one of some. -/
import Derived.Test.YtdhibalpnccbiaaL2
import Derived.Lib.OthersKept
import Derived.Laws.RangeAny
import Derived.LoopTactic
namespace Go.Proofs.Ytdhibalpnccbiaa
open Go.RowKit
set_option linter.unusedVariables false

theorem get_bl (l : Bytes) (k : Nat) (h : k < l.length) : ((bs l).get! k).toNat = bl l k := by
  have e : (bs l).get! k = (bs l)[k]'(by simpa using h) := by
    have := get_at (bs l) k (by simpa using h)
    simpa using this
  rw [e, bs_get]
/-- A rune's width: it is in the text, and the bytes that it passes over are none of ASCII. -/
theorem decode_skip (l : Bytes) (pos : Nat) (h : pos < l.length) :
    1 ≤ (Utf8.decode (bs l) pos).2 ∧ pos + (Utf8.decode (bs l) pos).2 ≤ l.length ∧ ∀ j, 1 ≤ j → j < (Utf8.decode (bs l) pos).2 → 128 ≤ bl l (pos + j) := by
  have key : ∀ k, ((decide (pos + k < (bs l).size) && ((bs l).get! (pos + k)).toNat / 64 == 2) = true) → pos + k < l.length ∧ 128 ≤ bl l (pos + k) := by
    intro k hk
    rw [Bool.and_eq_true, decide_eq_true_eq, beq_iff_eq, bs_size] at hk
    refine ⟨hk.1, ?_⟩
    have := hk.2
    rw [get_bl l (pos + k) hk.1] at this
    omega
  simp only [Utf8.decode]
  split
  · exact ⟨Nat.le_refl _, by omega, by intro j h1 h2; omega⟩
  · split
    · rename_i hc
      rw [Bool.and_eq_true] at hc
      have k1 := key 1 hc.2
      split
      · refine ⟨by omega, by simp only; omega, ?_⟩
        intro j h1 h2
        obtain rfl : j = 1 := by simp only at h2; omega
        exact k1.2
      · exact ⟨Nat.le_refl _, by simp only; omega, by intro j h1 h2; simp only at h2; omega⟩
    · split
      · rename_i hc
        rw [Bool.and_eq_true, Bool.and_eq_true] at hc
        have k1 := key 1 hc.1.2
        have k2 := key 2 hc.2
        split
        · refine ⟨by omega, by simp only; omega, ?_⟩
          intro j h1 h2
          have hj : j = 1 ∨ j = 2 := by simp only at h2; omega
          rcases hj with rfl | rfl
          · exact k1.2
          · exact k2.2
        · exact ⟨Nat.le_refl _, by simp only; omega, by intro j h1 h2; simp only at h2; omega⟩
      · split
        · rename_i hc
          rw [Bool.and_eq_true, Bool.and_eq_true, Bool.and_eq_true] at hc
          have k1 := key 1 hc.1.1.2
          have k2 := key 2 hc.1.2
          have k3 := key 3 hc.2
          split
          · refine ⟨by omega, by simp only; omega, ?_⟩
            intro j h1 h2
            have hj : j = 1 ∨ j = 2 ∨ j = 3 := by simp only at h2; omega
            rcases hj with rfl | rfl | rfl
            · exact k1.2
            · exact k2.2
            · exact k3.2
          · exact ⟨Nat.le_refl _, by simp only; omega, by intro j h1 h2; simp only at h2; omega⟩
        · exact ⟨Nat.le_refl _, by simp only; omega, by intro j h1 h2; simp only at h2; omega⟩
def notIn (cs : Bytes) (c : UInt8) : Bool := !cs.contains c
def idxAny (cs l : Bytes) : Int := if tw (notIn cs) l < l.length then (tw (notIn cs) l : Int) else -1
theorem notIn_true {cs : Bytes} {c : UInt8} (h : notIn cs c = true) (q : Nat) (hq : q < cs.length) : bl cs q ≠ c.toNat := by
  intro e
  rw [bl_get cs q hq] at e
  have : cs[q] = c := UInt8.toNat_inj.1 e
  unfold notIn at h
  have hm : c ∈ cs := by rw [← this]; exact List.getElem_mem hq
  simp [hm] at h
theorem notIn_high {cs : Bytes} (ha : ∀ q, q < cs.length → bl cs q < 128) {c : UInt8} (h : 128 ≤ c.toNat) : notIn cs c = true := by
  unfold notIn
  simp only [Bool.not_eq_true', List.contains_eq_mem, decide_eq_false_iff_not]
  intro hm
  obtain ⟨q, hq, e⟩ := List.getElem_of_mem hm
  have := ha q hq
  rw [bl_get cs q hq, e] at this
  omega
/-- Where the outer loop stands. -/
def AtIter (b : Nat) (l : Bytes) (pos : Nat) (W : World) : Prop := W.heap[b]? = some (.stringIter (bs l) pos)
theorem AtIter.alloc {b : Nat} {l : Bytes} {pos : Nat} {W : World} (h : AtIter b l pos W) (o : Obj) : AtIter b l pos (W.alloc o) := by
  have hlt : b < W.heap.size := (Array.getElem?_eq_some_iff.1 h).1
  exact (Below.heap_alloc W o b hlt).trans h
theorem AtIter.iterAt {b k : Nat} {l : Bytes} {pos : Nat} {W : World} (h : AtIter b l pos W) (hk : b ≠ k) (s : ByteArray) (p : Nat) : AtIter b l pos (W.iterAt k s p) := by
  exact (Lib.iterAt_other W k b s p hk).trans h
theorem AtIter.lt {b : Nat} {l : Bytes} {pos : Nat} {W : World} (h : AtIter b l pos W) : b < W.heap.size := (Array.getElem?_eq_some_iff.1 h).1
set_option maxRecDepth 100000 in
set_option maxHeartbeats 1000000 in
theorem idx_any (cs l : Bytes) (w : World) (hl : l.length ≤ maxLen) (hcs : cs.length ≤ 100) (ha : ∀ q, q < cs.length → bl cs q < 128) :
    Calls Try.prog 71 #[.string (bs l), .string (bs cs)] w fun e w' => e = .returned (.int .i64 (idxAny cs l)) ∧ Below w.heap.size w w' := by
  have HA := Lib.hid ha
  clear ha
  unfold maxLen at hl
  go_enter Try.func71, Try.ntmps71
  go_wp2
  go_loopw [5] (fun i wr => ∃ pos : Nat, pos ≤ l.length ∧ pos ≤ tw (notIn cs) l ∧ AtIter w.heap.size l pos wr ∧ Below w.heap.size w wr) (fun i wr => l.length - wr.iterPos w.heap.size)
  case atStart => exact ⟨0, Nat.zero_le _, Nat.zero_le _, World.iter_heap w (bs l) 0, (Below.refl _ _).alloc (Nat.le_refl _) _⟩
  case round =>
    obtain ⟨pos, hp1, hp2, hat, hbel⟩ := hrel
    have hsz := hbel.size
    by_cases hp : pos < l.length
    · have hnx : ∀ ty, (Instr.next (.pointer (some ⟨w.heap.size, 0, none⟩)) true ty).run Try.prog wr = _ := fun ty => Lib.run_next_any_at wr w.heap.size (bs l) pos ty hat (by simpa using hp)
      obtain ⟨hw1, hw2, hw3⟩ := decode_skip l pos hp
      have hdl := decode_le (bs l) pos
      have hdv : (bl l pos < 128 ∧ (Utf8.decode (bs l) pos) = (bl l pos, 1)) ∨ (128 ≤ bl l pos ∧ 128 ≤ (Utf8.decode (bs l) pos).1) := by
        by_cases h128 : bl l pos < 128
        · refine .inl ⟨h128, ?_⟩
          have h9 := decode_ascii (bs l) pos (by simpa using hp) (by rw [bs_get]; exact h128)
          rw [h9, bs_get]
        · exact .inr ⟨by omega, (decode_high (bs l) pos (by simpa using hp) (by rw [bs_get]; omega)).1⟩
      generalize Utf8.decode (bs l) pos = dw at *
      obtain ⟨R, wd⟩ := dw
      simp only at hnx hw1 hw2 hw3 hdl hdv
      have hat2 : AtIter w.heap.size l (pos + wd) (wr.iterAt w.heap.size (bs l) (pos + wd)) := Lib.iterAt_heap wr _ _ pos _ hat
      have hbel2 : Below w.heap.size w (wr.iterAt w.heap.size (bs l) (pos + wd)) := Lib.below_iterAt hbel (Nat.le_refl _) _ _
      have hip : wr.iterPos w.heap.size = pos := iterPos_of hat
      generalize wr.iterAt w.heap.size (bs l) (pos + wd) = W2 at *
      have hlt2 := hat2.lt
      by_cases hin : notIn cs l[pos] = true
      · have hne : ∀ q, q < cs.length → bl cs q ≠ R := by
          intro q hq
          rcases hdv with ⟨h9, h10⟩ | ⟨h9, h10⟩
          · cases h10
            rw [bl_get l pos hp]
            exact notIn_true hin q hq
          · have := HA.out q hq; omega
        have hnext : pos + wd ≤ tw (notIn cs) l := by
          have hall : ∀ j, j ≤ wd → 1 ≤ j → pos + j ≤ tw (notIn cs) l := by
            intro j
            induction j with
            | zero => intro _ h; omega
            | succ j ih =>
              intro hj _
              by_cases hj0 : j = 0
              · subst hj0
                exact tw_step (notIn cs) l pos hp hp2 hin
              · have h9 := ih (by omega) (by omega)
                have h10 := hw3 j (by omega) (by omega)
                have h11 : pos + j < l.length := by omega
                rw [bl_get l (pos + j) h11] at h10
                exact tw_step (notIn cs) l (pos + j) h11 h9 (notIn_high HA.out h10)
          exact hall wd (Nat.le_refl _) hw1
        have HNE := Lib.hid hne
        have HAT := Lib.hid hat2
        have HB2 := Lib.hid hbel2
        have HIP := Lib.hid hip
        clear hne hat hbel hdv hw3 hip hat2 hbel2
        go_wp2
        go_loopw [8] (fun d wo => ∃ q : Nat, q ≤ cs.length ∧ AtIter w.heap.size l (pos + wd) wo ∧ AtIter W2.heap.size cs q wo ∧ Below w.heap.size w wo) (fun d wo => cs.length - wo.iterPos W2.heap.size)
        case atStart => exact ⟨0, Nat.zero_le _, HAT.out.alloc _, World.iter_heap W2 (bs cs) 0, HB2.out.alloc (by omega) _⟩
        case round =>
          obtain ⟨q, hq1, hqa, hqb, hqc⟩ := hrel
          by_cases hq : q < cs.length
          · have hnx2 : ∀ ty, (Instr.next (.pointer (some ⟨W2.heap.size, 0, none⟩)) true ty).run Try.prog wr = _ := fun ty => Lib.run_next_ascii_at wr W2.heap.size (bs cs) q ty hqb (by simpa using hq) (by rw [bs_get]; exact HA.out q hq)
            simp only [bs_get] at hnx2
            have hd : ((R : Int) == (bl cs q : Int)) = false := beq_eq_false_iff_ne.2 (by have := HNE.out q hq; omega)
            have hqip := Lib.hid (iterPos_of hqb)
            have hne2 : w.heap.size ≠ W2.heap.size := by omega
            have G1 := Lib.hid (hqa.iterAt hne2 (bs cs) (q + 1))
            have G2 : Hid (AtIter W2.heap.size cs (q + 1) (wr.iterAt W2.heap.size (bs cs) (q + 1))) := Lib.iterAt_heap wr _ _ q _ hqb
            have G3 := Lib.hid (Lib.below_iterAt hqc (by omega : w.heap.size ≤ W2.heap.size) (bs cs) (q + 1))
            generalize wr.iterAt W2.heap.size (bs cs) (q + 1) = W3 at *
            clear hqa hqb hqc hne2
            go_wp2
            go_roundw
            case rel => exact ⟨q + 1, by omega, G1.out, G2.out, G3.out⟩
            case measure => rw [hqip.out, iterPos_of G2.out]; omega
          · have hnx2 : ∀ ty, (Instr.next (.pointer (some ⟨W2.heap.size, 0, none⟩)) true ty).run Try.prog wr = _ := fun ty => Lib.run_next_end_at wr W2.heap.size (bs cs) q ty hqb (by simpa using hq)
            have G1 := Lib.hid hqa
            have G3 := Lib.hid hqc
            clear hqa hqb hqc
            go_wp2
            go_roundw
            case rel => exact ⟨pos + wd, by omega, by omega, G1.out, G3.out⟩
            case measure => rw [HIP.out, iterPos_of G1.out]; omega
      · have hpt : pos = tw (notIn cs) l := tw_stop (notIn cs) l pos hp hp2 (by simpa using hin)
        obtain ⟨q0, hq0, hqe⟩ : ∃ q, q < cs.length ∧ bl cs q = bl l pos := by
          have h9 : notIn cs l[pos] = false := by simpa using hin
          unfold notIn at h9
          simp only [Bool.not_eq_false', List.contains_eq_mem, decide_eq_true_eq] at h9
          obtain ⟨q, hq, e⟩ := List.getElem_of_mem h9
          exact ⟨q, hq, by rw [bl_get cs q hq, e, bl_get l pos hp]⟩
        have hR : R = bl l pos := by
          rcases hdv with ⟨h9, h10⟩ | ⟨h9, h10⟩
          · cases h10; rfl
          · have := HA.out q0 hq0; omega
        have HI : Hid (idxAny cs l = (pos : Int)) := by
          show _ = _
          unfold idxAny
          rw [if_pos (by omega), hpt]
        have HR := Lib.hid hR
        have HQ := Lib.hid hqe
        have HAT := Lib.hid hat2
        have HB2 := Lib.hid hbel2
        have HIP := Lib.hid hip
        clear hR hqe hat hbel hdv hw3 hip hat2 hbel2 hpt hin
        go_wp2
        go_loopw [8] (fun d wo => ∃ q : Nat, q ≤ q0 ∧ AtIter W2.heap.size cs q wo ∧ Below w.heap.size w wo) (fun d wo => cs.length - wo.iterPos W2.heap.size)
        case atStart => exact ⟨0, Nat.zero_le _, World.iter_heap W2 (bs cs) 0, HB2.out.alloc (by omega) _⟩
        case round =>
          obtain ⟨q, hq1, hqb, hqc⟩ := hrel
          have hq : q < cs.length := by omega
          have hnx2 : ∀ ty, (Instr.next (.pointer (some ⟨W2.heap.size, 0, none⟩)) true ty).run Try.prog wr = _ := fun ty => Lib.run_next_ascii_at wr W2.heap.size (bs cs) q ty hqb (by simpa using hq) (by rw [bs_get]; exact HA.out q hq)
          simp only [bs_get] at hnx2
          have hqip := Lib.hid (iterPos_of hqb)
          have G2 : Hid (AtIter W2.heap.size cs (q + 1) (wr.iterAt W2.heap.size (bs cs) (q + 1))) := Lib.iterAt_heap wr _ _ q _ hqb
          have G3 := Lib.hid (Lib.below_iterAt hqc (by omega : w.heap.size ≤ W2.heap.size) (bs cs) (q + 1))
          generalize wr.iterAt W2.heap.size (bs cs) (q + 1) = W3 at *
          clear hqb hqc
          by_cases hd0 : R = bl cs q
          · have hd : ((R : Int) == (bl cs q : Int)) = true := by simp; omega
            clear hd0
            go_wp2
            go_ret
            exact ⟨by rw [HI.out]; rfl, G3.out⟩
          · have hd : ((R : Int) == (bl cs q : Int)) = false := beq_eq_false_iff_ne.2 (by omega)
            have hqn : q ≠ q0 := by
              intro e; subst e
              exact hd0 (by rw [HR.out, HQ.out])
            clear hd0
            go_wp2
            go_roundw
            case rel => exact ⟨q + 1, by omega, G2.out, G3.out⟩
            case measure => rw [hqip.out, iterPos_of G2.out]; omega
    · have hnx : ∀ ty, (Instr.next (.pointer (some ⟨w.heap.size, 0, none⟩)) true ty).run Try.prog wr = _ := fun ty => Lib.run_next_end_at wr w.heap.size (bs l) pos ty hat (by simpa using hp)
      have HI : Hid (idxAny cs l = -1) := by
        show _ = _
        unfold idxAny
        rw [if_neg (by omega)]
      have HB := Lib.hid hbel
      clear hat hbel
      go_wp2
      go_ret
      exact ⟨by rw [HI.out]; rfl, HB.out⟩
end Go.Proofs.Ytdhibalpnccbiaa
