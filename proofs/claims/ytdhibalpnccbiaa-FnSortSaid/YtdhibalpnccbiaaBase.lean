/- Strings made of lists of bytes, for the walks. -/
import Derived.WalkKit
import Derived.WalkSpells
import Derived.WalkLawsBesides
import Derived.Deep.QuietTactic
import Derived.BigQuiet
import Derived.Lib.Hide
import Derived.Sort.Walk0
import Derived.Test.YtdhibalpnccbiaaPlain
import Derived.Test.YtdhibalpnccbiaaProg
namespace Go.Proofs.Ytdhibalpnccbiaa
open Go.RowKit

def bs (l : Bytes) : ByteArray := ⟨l.toArray⟩
/-- Byte k, as a number. -/
def bl (l : Bytes) (k : Nat) : Nat := (l[k]?.getD 0).toNat

@[go_sem, simp] theorem bs_size (l : Bytes) : (bs l).size = l.length := by simp [bs, ByteArray.size]
@[go_sem, simp] theorem bs_data (l : Bytes) : (bs l).data.toList = l := by simp [bs]
@[go_sem, simp] theorem bs_toList (l : Bytes) : (bs l).toList = l := by rw [Lib.toList_data, bs_data]
theorem bs_of (s : ByteArray) : s = bs s.data.toList := by obtain ⟨⟨l⟩⟩ := s; rfl
@[go_sem] theorem bs_extract (l : Bytes) (a b : Nat) : (bs l).extract a b = bs ((l.drop a).take (b - a)) := by
  rw [Lib.extract_eq, bs_data]; rfl
@[go_sem high] theorem bs_extract_end (l : Bytes) (a : Nat) : (bs l).extract a l.length = bs (l.drop a) := by
  rw [bs_extract, List.take_of_length_le (by simp)]
@[go_sem high] theorem bs_extract_to (l : Bytes) (b : Nat) : (bs l).extract 0 b = bs (l.take b) := by
  rw [bs_extract]; rfl
@[go_sem] theorem bs_get (l : Bytes) (k : Nat) (h : k < (bs l).size) : ((bs l)[k]'h).toNat = bl l k := by
  have h' : k < l.length := by simpa using h
  unfold bl
  rw [List.getElem?_eq_getElem h']
  rfl
theorem bl_le (l : Bytes) (k : Nat) : bl l k ≤ 255 := by
  unfold bl; have := (l[k]?.getD 0).toNat_lt; omega
theorem bl_get (l : Bytes) (k : Nat) (h : k < l.length) : bl l k = l[k].toNat := by
  unfold bl; rw [List.getElem?_eq_getElem h]; rfl
theorem isD_bl (l : Bytes) (k : Nat) (h : k < l.length) : isD l[k] = (decide (48 ≤ bl l k) && decide (bl l k ≤ 57)) := by
  rw [bl_get l k h]; rfl

theorem good_cut (l : Bytes) (k : Nat) (hk : k = tw isD l) : cutI l = if k = 0 ∨ (bl l 0 = 48 ∧ k ≠ 1) then none else some (l.take k, l.drop k) := by
  subst hk
  unfold cutI
  rw [take_tw, drop_tw]
  cases l with
  | nil => simp [good, tw]
  | cons c r =>
    by_cases hc : isD c = true
    · have e1 : (c :: r).takeWhile isD = c :: r.takeWhile isD := by rw [List.takeWhile_cons, if_pos hc]
      have e0 : bl (c :: r) 0 = c.toNat := rfl
      have e3 : (c = 48) ↔ (c.toNat = 48) := ⟨fun h => by rw [h]; rfl, fun h => UInt8.toNat_inj.1 (by rw [h]; rfl)⟩
      unfold tw
      rw [e1, e0]
      cases r.takeWhile isD <;> by_cases h48 : c = 48 <;> simp [good, h48, ← e3]
    · have e1 : (c :: r).takeWhile isD = [] := by rw [List.takeWhile_cons, if_neg hc]
      unfold tw
      simp [e1, good]
def cutV (l : Bytes) : Value := match cutI l with
  | none => .tuple #[.string (bs []), .string (bs []), .bool false]
  | some (t, r) => .tuple #[.string (bs t), .string (bs r), .bool true]
def Draws (w w' : World) : Prop := ∃ n, w' = w.drewN n
set_option maxHeartbeats 400000 in
theorem cut_any (l : Bytes) (w : World) (hs : l.length ≤ maxLen) :
    Calls Try.prog 86 #[.string (bs l)] w fun e w' => e = .returned (cutV l) ∧ Draws w w' := by
  unfold maxLen at hs
  go_enter Try.func86, Try.ntmps86
  go_wp2
  go_loop [5] (fun i => ∃ k : Nat, k ≤ l.length ∧ k ≤ tw isD l ∧ i = .int .i64 k) (fun i => l.length - (intOf i).toNat)
  case atStart => exact ⟨0, Nat.zero_le _, Nat.zero_le _, rfl⟩
  case round =>
    obtain ⟨k, hk, hkt, rfl⟩ := hrel
    by_cases hgo : ∃ h : k < l.length, isD l[k] = true
    · obtain ⟨hlt, hd⟩ := hgo
      have hn : k + 1 ≤ tw isD l := tw_step isD l k hlt hkt hd
      have hb := isD_bl l k hlt
      rw [hd] at hb
      simp at hb
      obtain ⟨h1, h2⟩ := hb
      clear hd
      go_wp2
      go_round
      case rel => exact ⟨k + 1, by omega, by omega, by go_num⟩
      case measure => simp [intOf]; omega
    · have hkk : k = tw isD l := by
        by_cases hlt : k < l.length
        · exact tw_stop isD l k hlt hkt (by simpa using fun h => hgo ⟨hlt, h⟩)
        · exact tw_end isD l k (by omega) hkt
      have hstop : l.length ≤ k ∨ (k < l.length ∧ (bl l k < 48 ∨ 57 < bl l k)) := by
        by_cases hlt : k < l.length
        · refine .inr ⟨hlt, ?_⟩
          have hd : isD l[k] = false := by simpa using fun h => hgo ⟨hlt, h⟩
          rw [isD_bl l k hlt] at hd
          simp at hd
          omega
        · exact .inl (by omega)
      have hg := good_cut l k hkk
      clear hgo hkk hkt
      by_cases hbad : k = 0 ∨ (bl l 0 = 48 ∧ k ≠ 1)
      · rw [if_pos hbad] at hg
        have HG : Hid (cutV l = .tuple #[.string (bs []), .string (bs []), .bool false]) := by show cutV l = _; unfold cutV; rw [hg]
        clear hg
        by_cases h0 : k = 0
        · subst h0
          clear hbad
          rcases hstop with h | ⟨h, h' | h'⟩
          all_goals
            go_wp2
            go_ret3
            exact ⟨by rw [HG.out]; rfl, 0, rfl⟩
        · have hz : 0 < k := by omega
          have e0 : ((k : Int) == 0) = false := by simp; omega
          have e1 : ((k : Int) != 1) = true := by simp; omega
          have e2 : ((bl l 0 : Int) == 48) = true := by simp; omega
          clear hbad h0
          rcases hstop with h | ⟨h, h' | h'⟩
          all_goals
            go_wp2
            go_ret3
            exact ⟨by rw [HG.out]; rfl, 0, rfl⟩
      · rw [if_neg hbad] at hg
        have HG : Hid (cutV l = .tuple #[.string (bs (l.take k)), .string (bs (l.drop k)), .bool true]) := by show cutV l = _; unfold cutV; rw [hg]
        clear hg
        have hk0 : 0 < k := by omega
        have e0 : ((k : Int) == 0) = false := by simp; omega
        by_cases e48 : bl l 0 = 48
        · have e2 : ((bl l 0 : Int) == 48) = true := by simp; omega
          obtain rfl : k = 1 := by omega
          clear hbad e48 hk0 e0
          rcases hstop with h | ⟨h, h' | h'⟩
          all_goals
            go_wp2
            go_quiet (fail)
            go_wp2
            go_ret3
            exact ⟨by rw [HG.out]; simp; try (rw [List.drop_eq_nil_of_le h]), nq, rfl⟩
        · have e2 : ((bl l 0 : Int) == 48) = false := by simp; omega
          clear hbad e48
          rcases hstop with h | ⟨h, h' | h'⟩
          all_goals
            go_wp2
            go_quiet (fail)
            go_wp2
            go_ret3
            exact ⟨by rw [HG.out]; simp; try (rw [List.drop_eq_nil_of_le h]), nq, rfl⟩
end Go.Proofs.Ytdhibalpnccbiaa
