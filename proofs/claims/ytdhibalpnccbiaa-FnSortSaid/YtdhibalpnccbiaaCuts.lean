/- spec.Cut at dots: a slice of texts that the call itself makes. -/
import Derived.Test.YtdhibalpnccbiaaSpc
import Derived.OwnWalk
import Derived.RangeFuncBox
namespace Go.Proofs.Ytdhibalpnccbiaa
open Go.RowKit
set_option linter.unusedVariables false

def segs : Bytes → Bytes → List Bytes
  | seg, [] => [seg]
  | seg, c :: r => if c.toNat = 46 then seg :: segs [] r else segs (seg ++ [c]) r
def strV (l : Bytes) : Value := .string (bs l)
theorem info9 : (Try.prog.info? 9).map (fun i => (i.zero, i.size, i.bytes)) = some (some (.string ByteArray.empty), 1, 16) := by kernel_rfl
theorem under56 : Try.prog.underlying 56 = some (.slice 9) := by kernel_rfl

theorem segs_dot (l : Bytes) (s k : Nat) (hk : k < l.length) (h : bl l k = 46) : segs (segAt l s k) (l.drop k) = segAt l s k :: segs (segAt l (k + 1) (k + 1)) (l.drop (k + 1)) := by
  rw [List.drop_eq_getElem_cons hk, segAt_nil]
  conv => lhs; unfold segs
  rw [if_pos (by rw [← bl_get l k hk]; exact h)]
theorem segs_on (l : Bytes) (s k : Nat) (hs : s ≤ k) (hk : k < l.length) (h : bl l k ≠ 46) : segs (segAt l s k) (l.drop k) = segs (segAt l s (k + 1)) (l.drop (k + 1)) := by
  rw [List.drop_eq_getElem_cons hk, segAt_succ l s k hs hk]
  conv => lhs; unfold segs
  rw [if_neg (by rw [← bl_get l k hk]; exact h)]
theorem segs_end (l : Bytes) (s k : Nat) (hk : l.length ≤ k) : segs (segAt l s k) (l.drop k) = [l.drop s] := by
  rw [List.drop_eq_nil_of_le hk]
  unfold segs segAt
  rw [List.take_of_length_le (by simp; omega)]
def Cuts (l : Bytes) (s k : Nat) (G : List Bytes) : Prop := segs [] l = G ++ segs (segAt l s k) (l.drop k)
theorem rel_cut {B : Nat} {w wr w1 : World} {u v' : Value} {o : Obj} {G : List Bytes} {x : Bytes} (hB : B ≤ wr.heap.size) (hown : wr.ownsRow B 9 1 u G.length (G.map strV)) (hnx : Below B w wr)
    (hown' : w1.ownsRow B 9 1 v' (G.length + 1) (G.map strV ++ [.string (bs x)])) (hgrow : (wr.alloc o).grownBy w1 u.ownBlock) :
    w1.ownsRow B 9 1 v' (G ++ [x]).length ((G ++ [x]).map strV) ∧ Below B w w1 := by
  refine ⟨by simpa [strV] using hown', (hnx.alloc hB o).grown hgrow (by simp; omega) (fun j hj => by have := (hown.lt j hj).1; omega)⟩

set_option maxHeartbeats 1600000 in
set_option maxRecDepth 1000000 in
theorem cuts_any (l : Bytes) (w : World) (hs : l.length ≤ 1000) :
    Calls Try.prog 53 #[.string (bs l), .int .u8 46] w fun e w' => ∃ v, e = .returned v ∧ w'.ownsRow w.heap.size 9 1 v (segs [] l).length ((segs [] l).map strV) ∧ Below w.heap.size w w' := by
  obtain ⟨i0, hi, hz0, hz1, hz2⟩ := info_parts info9
  go_enter Try.func53, Try.ntmps53
  go_wp2
  go_loopw [5, 6, 11] (fun v f i wr => ∃ (k s : Nat) (G : List Bytes), s ≤ k ∧ k ≤ l.length ∧ G.length ≤ k ∧ Hid (Cuts l s k G) ∧ f = .int .i64 s ∧ i = .int .i64 k ∧ wr.ownsRow w.heap.size 9 1 v G.length (G.map strV) ∧ Below w.heap.size w wr)
    (fun _ _ i _ => l.length - (intOf i).toNat)
  case atStart => exact ⟨0, 0, [], Nat.le_refl _, Nat.zero_le _, Nat.le_refl _, Lib.hid (by unfold Cuts; rw [segAt_nil]; rfl), rfl, rfl, World.ownsRow_made _ _ 0 (Nat.le_refl _) (Nat.zero_le _) rfl, by repeat' (first | exact Below.refl _ _ | refine below_drewN ?_ _ | refine Below.drew ?_ | refine Below.alloc ?_ ?_ _ | go_size)⟩
  case round =>
    obtain ⟨k, s, G, hsk, hk, hGk, HC, rfl, rfl, hown, hnx⟩ := hrel
    have hsz := hnx.size
    by_cases hlt : k < l.length
    · by_cases hdot : bl l k = 46
      · have e46 : ((bl l k : Int) == 46) = true := by simp; omega
        have HN : Hid (Cuts l (k + 1) (k + 1) (G ++ [segAt l s k])) := by
          show Cuts _ _ _ _
          have h := HC.out
          unfold Cuts at h ⊢
          rw [h, segs_dot l s k hlt hdot]
          simp
        clear hdot
        go_wp2_with (first
          | (at_builtin; refine wpList_append_own _ rfl _ _ 56 rfl w.heap.size 9 i0 (.string ByteArray.empty) 1 16 under56 hi hz0 hz1 hz2 rfl (by decide) _ _ _ rfl (hown.alloc _) ⟨wr.heap.size, 0, none⟩ 1 1 [.string (bs (segAt l s k))] rfl rfl ?c1 ?c2 ?c3 ?c4 ?c5 ?_)
          | go_in)
        case c1 =>
          intro j u hj
          match j, hj with
          | 0, hj => simp at hj; subst hj; simp [Addr.add, segAt]
        case c2 => intro u hu; simp at hu; subst hu; rfl
        case c3 => unfold maxLen; omega
        case c4 => omega
        case c5 => simp; omega
        · intro v' w1 hown' hgrow _
          have R := rel_cut hsz hown hnx hown' hgrow
          clear hown' hgrow hown hnx
          go_wp2
          go_roundw
          case rel => exact ⟨k + 1, k + 1, G ++ [segAt l s k], by omega, by omega, by simp; omega, HN, by go_num, by go_num, R.1, R.2⟩
          case measure => simp [intOf]; omega
      · have e46 : ((bl l k : Int) == 46) = false := by simp; omega
        have HN : Hid (Cuts l s (k + 1) G) := by
          show Cuts _ _ _ _
          have h := HC.out
          unfold Cuts at h ⊢
          rw [h, segs_on l s k hsk hlt hdot]
        clear hdot
        go_wp2
        go_roundw
        case rel => exact ⟨k + 1, s, G, by omega, by omega, by omega, HN, by go_num, by go_num, hown, hnx⟩
        case measure => simp [intOf]; omega
    · have HN : Hid (segs [] l = G ++ [l.drop s]) := by
        show _ = _
        have h := HC.out
        unfold Cuts at h
        rw [h, segs_end l s k (by omega)]
      go_wp2_with (first
        | (at_builtin; refine wpList_append_own _ rfl _ _ 56 rfl w.heap.size 9 i0 (.string ByteArray.empty) 1 16 under56 hi hz0 hz1 hz2 rfl (by decide) _ _ _ rfl (hown.alloc _) ⟨wr.heap.size, 0, none⟩ 1 1 [.string (bs (l.drop s))] rfl rfl ?d1 ?d2 ?d3 ?d4 ?d5 ?_)
        | go_in)
      case d1 =>
        intro j u hj
        match j, hj with
        | 0, hj => simp at hj; subst hj; simp [Addr.add]
      case d2 => intro u hu; simp at hu; subst hu; rfl
      case d3 => unfold maxLen; omega
      case d4 => omega
      case d5 => simp; omega
      · intro v' w1 hown' hgrow _
        have R := rel_cut hsz hown hnx hown' hgrow
        clear hown' hgrow hown hnx
        go_wp2
        go_ret
        exact ⟨_, rfl, by rw [HN.out]; exact R.1, R.2⟩
end Go.Proofs.Ytdhibalpnccbiaa
