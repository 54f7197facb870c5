/- cutNumber, digit, parseInt; cutInt's contract part by part. -/
import Derived.Test.YtdhibalpnccbiaaSmall
namespace Go.Proofs.Ytdhibalpnccbiaa
open Go.RowKit

@[go_sem, simp] theorem bl_zero (c : UInt8) (l : Bytes) : bl (c :: l) 0 = c.toNat := rfl
@[go_sem, simp] theorem bl_succ (c : UInt8) (l : Bytes) (k : Nat) : bl (c :: l) (k + 1) = bl l k := by simp [bl]

@[go_sem] theorem setCell_drewN (w : World) (n : Nat) (a : Addr) (v : Value) : (w.drewN n).setCell a v = (w.setCell a v).drewN n := rfl
@[go_sem] theorem alloc_drewN (w : World) (n : Nat) (o : Obj) : (w.drewN n).alloc o = (w.alloc o).drewN n := rfl

theorem cutI_split {l t r : Bytes} (h : cutI l = some (t, r)) : t ++ r = l := by
  unfold cutI at h
  split at h
  · cases h; exact List.takeWhile_append_dropWhile
  · cases h
theorem cutI_len {l t r : Bytes} (h : cutI l = some (t, r)) : t.length + r.length = l.length := by
  rw [← cutI_split h, List.length_append]
theorem cut_some {l t r : Bytes} (w : World) (hs : l.length ≤ maxLen) (h : cutI l = some (t, r)) :
    Calls Try.prog 86 #[.string (bs l)] w fun e w' => e = .returned (.tuple #[.string (bs t), .string (bs r), .bool true]) ∧ Draws w w' :=
  (cut_any l w hs).mono fun e w' ⟨he, hw⟩ => ⟨by rw [he]; unfold cutV; rw [h], hw⟩
theorem cut_none {l : Bytes} (w : World) (hs : l.length ≤ maxLen) (h : cutI l = none) :
    Calls Try.prog 86 #[.string (bs l)] w fun e w' => e = .returned (.tuple #[.string (bs []), .string (bs []), .bool false]) ∧ Draws w w' :=
  (cut_any l w hs).mono fun e w' ⟨he, hw⟩ => ⟨by rw [he]; unfold cutV; rw [h], hw⟩

/-- Behind a scan: why it stopped. -/
theorem scan_stop (l : Bytes) (k : Nat) (hk : k ≤ l.length) (hkt : k ≤ tw isD l) (hgo : ¬ ∃ h : k < l.length, isD l[k] = true) :
    k = tw isD l ∧ (l.length ≤ k ∨ (k < l.length ∧ (bl l k < 48 ∨ 57 < bl l k))) := by
  by_cases hlt : k < l.length
  · have hd : isD l[k] = false := by simpa using fun h => hgo ⟨hlt, h⟩
    refine ⟨tw_stop isD l k hlt hkt hd, .inr ⟨hlt, ?_⟩⟩
    rw [isD_bl l k hlt] at hd
    simp at hd
    omega
  · exact ⟨tw_end isD l k (by omega) hkt, .inl (by omega)⟩

/-- What spec.cutNumber hands back. -/
def numV (l : Bytes) : Value := .tuple #[.string (bs (l.takeWhile isD)), .string (bs (l.dropWhile isD)), .bool (good (l.takeWhile isD))]
theorem good_tw (l : Bytes) (k : Nat) (hk : k = tw isD l) : good (l.takeWhile isD) = !(decide (k = 0 ∨ (bl l 0 = 48 ∧ k ≠ 1))) := by
  have h := good_cut l k hk
  unfold cutI at h
  by_cases hc : k = 0 ∨ (bl l 0 = 48 ∧ k ≠ 1)
  · rw [if_pos hc] at h
    split at h
    · cases h
    · rename_i hg; simp only [hc, decide_true, Bool.not_true]; simpa using hg
  · rw [if_neg hc] at h
    split at h
    · rename_i hg; simp only [hc, decide_false, Bool.not_false]; simpa using hg
    · cases h
set_option maxHeartbeats 400000 in
theorem num_any (l : Bytes) (w : World) (hs : l.length ≤ maxLen) :
    Calls Try.prog 48 #[.string (bs l)] w fun e w' => e = .returned (numV l) ∧ Draws w w' := by
  unfold maxLen at hs
  go_enter Try.func48, Try.ntmps48
  go_wp2
  go_loop [5] (fun i => ∃ k : Nat, k ≤ l.length ∧ k ≤ tw isD l ∧ i = .int .i64 k) (fun i => l.length - (intOf i).toNat)
  case atStart => exact ⟨0, Nat.zero_le _, Nat.zero_le _, rfl⟩
  case round =>
    obtain ⟨k, hk, hkt, rfl⟩ := hrel
    by_cases hgo : ∃ h : k < l.length, isD l[k] = true
    · obtain ⟨hlt, hd⟩ := hgo
      have hn : k + 1 ≤ tw isD l := tw_step isD l k hlt hkt hd
      have hb := isD_bl l k hlt
      rw [hd] at hb
      simp at hb
      obtain ⟨h1, h2⟩ := hb
      clear hd
      go_wp2
      go_round
      case rel => exact ⟨k + 1, by omega, by omega, by go_num⟩
      case measure => simp [intOf]; omega
    · obtain ⟨hkk, hstop⟩ := scan_stop l k hk hkt hgo
      have hg := good_tw l k hkk
      have HG : Hid (numV l = .tuple #[.string (bs (l.take k)), .string (bs (l.drop k)), .bool !(decide (k = 0 ∨ (bl l 0 = 48 ∧ k ≠ 1)))]) := by
        show numV l = _
        unfold numV
        rw [hg, ← take_tw, ← drop_tw, hkk]
      clear hgo hkk hkt hg
      by_cases h0 : k = 0
      · subst h0
        rcases hstop with h | ⟨h, h' | h'⟩
        all_goals
          go_wp2
          go_quiet (fail)
          go_wp2
          go_ret3
          exact ⟨by rw [HG.out]; simp; rfl, nq, rfl⟩
      · have hk0 : 0 < k := by omega
        by_cases h1 : k = 1
        · subst h1
          clear h0
          rcases hstop with h | ⟨h, h' | h'⟩
          all_goals
            go_wp2
            go_quiet (fail)
            go_wp2
            go_ret3
            exact ⟨by rw [HG.out]; simp; try (rw [List.drop_eq_nil_of_le h]), nq, rfl⟩
        · have e1 : ((k : Int) == 1) = false := by simp; omega
          have e2 : (1 < (k : Int)) := by omega
          by_cases h48 : bl l 0 = 48
          · have e3 : ((bl l 0 : Int) != 48) = false := by simp; omega
            have HX := Lib.hid (show (decide (k = 0 ∨ (bl l 0 = 48 ∧ k ≠ 1))) = true by simp [h1, h48])
            clear h0 h1 h48
            rcases hstop with h | ⟨h, h' | h'⟩
            all_goals
              go_wp2
              go_quiet (fail)
              go_wp2
              go_ret3
              exact ⟨by rw [HG.out, HX.out]; simp; try (rw [List.drop_eq_nil_of_le h]), nq, rfl⟩
          · have e3 : ((bl l 0 : Int) != 48) = true := by simp; omega
            have HX := Lib.hid (show (decide (k = 0 ∨ (bl l 0 = 48 ∧ k ≠ 1))) = false by simp [h0, h48])
            clear h0 h1 h48
            rcases hstop with h | ⟨h, h' | h'⟩
            all_goals
              go_wp2
              go_quiet (fail)
              go_wp2
              go_ret3
              exact ⟨by rw [HG.out, HX.out]; simp; try (rw [List.drop_eq_nil_of_le h]), nq, rfl⟩

theorem cutI_nil : cutI [] = none := by simp [cutI, good]
set_option maxHeartbeats 400000 in
theorem pint_any (l : Bytes) (w : World) (hs : l.length ≤ maxLen) :
    Calls Try.prog 100 #[.string (bs l)] w fun e w' => e = .returned (cutV l) ∧ Draws w w' := by
  unfold maxLen at hs
  cases l with
  | nil =>
    have HG : Hid (cutV [] = .tuple #[.string (bs []), .string (bs []), .bool false]) := by show cutV _ = _; unfold cutV; rw [cutI_nil]
    go_enter Try.func100, Try.ntmps100
    go_wp2
    go_ret3
    exact ⟨by rw [HG.out]; rfl, 0, rfl⟩
  | cons c r =>
    have hd : isD c = (decide (48 ≤ c.toNat) && decide (c.toNat ≤ 57)) := rfl
    have hlen : 1 ≤ (c :: r).length := by simp
    have e0 : bl (c :: r) 0 = c.toNat := rfl
    by_cases hc : isD c = true
    · have h1t : 1 ≤ tw isD (c :: r) := by unfold tw; rw [List.takeWhile_cons, if_pos hc]; simp
      rw [hc] at hd
      simp at hd
      obtain ⟨d1, d2⟩ := hd
      clear hc
      rw [← e0] at d1 d2
      have hgood := good_cut (c :: r)
      generalize c :: r = l at *
      clear e0
      have hne : l.isEmpty = false := by cases l <;> simp_all
      have hn0 : (l == []) = false := by cases l <;> simp_all
      have HGood := Lib.hid hgood
      clear hgood
      go_enter Try.func100, Try.ntmps100
      go_wp2
      go_loop [5] (fun i => ∃ k : Nat, 1 ≤ k ∧ k ≤ l.length ∧ k ≤ tw isD l ∧ i = .int .i64 k) (fun i => l.length - (intOf i).toNat)
      case atStart => exact ⟨1, Nat.le_refl _, hlen, h1t, rfl⟩
      case round =>
        obtain ⟨k, hk1, hk, hkt, rfl⟩ := hrel
        by_cases hgo : ∃ h : k < l.length, isD l[k] = true
        · obtain ⟨hlt, hd⟩ := hgo
          have hn : k + 1 ≤ tw isD l := tw_step isD l k hlt hkt hd
          have hb := isD_bl l k hlt
          rw [hd] at hb
          simp at hb
          obtain ⟨h1, h2⟩ := hb
          clear hd
          go_wp2
          go_round
          case rel => exact ⟨k + 1, by omega, by omega, by omega, by go_num⟩
          case measure => simp [intOf]; omega
        · obtain ⟨hkk, hstop⟩ := scan_stop l k hk hkt hgo
          have hg := HGood.out k hkk
          clear hgo hkk hkt h1t
          by_cases hbad : bl l 0 = 48 ∧ k ≠ 1
          · rw [if_pos (.inr hbad)] at hg
            have HG : Hid (cutV l = .tuple #[.string (bs []), .string (bs []), .bool false]) := by show cutV l = _; unfold cutV; rw [hg]
            have e1 : ((k : Int) != 1) = true := by simp; omega
            have e2 : ((bl l 0 : Int) == 48) = true := by simp; omega
            clear hg hbad
            rcases hstop with h | ⟨h, h' | h'⟩
            all_goals
              go_wp2
              go_ret3
              exact ⟨by rw [HG.out]; rfl, 0, rfl⟩
          · rw [if_neg (by omega)] at hg
            have HG : Hid (cutV l = .tuple #[.string (bs (l.take k)), .string (bs (l.drop k)), .bool true]) := by show cutV l = _; unfold cutV; rw [hg]
            clear hg
            by_cases e48 : bl l 0 = 48
            · have e2 : ((bl l 0 : Int) == 48) = true := by simp; omega
              obtain rfl : k = 1 := by omega
              clear hbad e48
              rcases hstop with h | ⟨h, h' | h'⟩
              all_goals
                go_wp2
                go_quiet (fail)
                go_wp2
                go_ret3
                exact ⟨by rw [HG.out]; simp; try (rw [List.drop_eq_nil_of_le h]), nq, rfl⟩
            · have e2 : ((bl l 0 : Int) == 48) = false := by simp; omega
              clear hbad e48
              rcases hstop with h | ⟨h, h' | h'⟩
              all_goals
                go_wp2
                go_quiet (fail)
                go_wp2
                go_ret3
                exact ⟨by rw [HG.out]; simp; try (rw [List.drop_eq_nil_of_le h]), nq, rfl⟩
    · have hn : cutI (c :: r) = none := cutI_none_of_head (by simpa using hc)
      have HG : Hid (cutV (c :: r) = .tuple #[.string (bs []), .string (bs []), .bool false]) := by show cutV _ = _; unfold cutV; rw [hn]
      have hw : c.toNat < 48 ∨ 57 < c.toNat := by
        have : isD c = false := by simpa using hc
        rw [hd] at this
        simp at this
        omega
      clear hd hc hn
      rcases hw with hw | hw
      · go_enter Try.func100, Try.ntmps100
        go_wp2
        go_ret3
        exact ⟨by rw [HG.out]; rfl, 0, rfl⟩
      · have hw' : 48 ≤ c.toNat := by omega
        go_enter Try.func100, Try.ntmps100
        go_wp2
        go_ret3
        exact ⟨by rw [HG.out]; rfl, 0, rfl⟩
theorem pint_some {l t r : Bytes} (w : World) (hs : l.length ≤ maxLen) (h : cutI l = some (t, r)) :
    Calls Try.prog 100 #[.string (bs l)] w fun e w' => e = .returned (.tuple #[.string (bs t), .string (bs r), .bool true]) ∧ Draws w w' :=
  (pint_any l w hs).mono fun e w' ⟨he, hw⟩ => ⟨by rw [he]; unfold cutV; rw [h], hw⟩
theorem pint_none {l : Bytes} (w : World) (hs : l.length ≤ maxLen) (h : cutI l = none) :
    Calls Try.prog 100 #[.string (bs l)] w fun e w' => e = .returned (.tuple #[.string (bs []), .string (bs []), .bool false]) ∧ Draws w w' :=
  (pint_any l w hs).mono fun e w' ⟨he, hw⟩ => ⟨by rw [he]; unfold cutV; rw [h], hw⟩
theorem num_good {l t r : Bytes} (w : World) (hs : l.length ≤ maxLen) (h : cutI l = some (t, r)) :
    Calls Try.prog 48 #[.string (bs l)] w fun e w' => e = .returned (.tuple #[.string (bs t), .string (bs r), .bool true]) ∧ Draws w w' :=
  (num_any l w hs).mono fun e w' ⟨he, hw⟩ => ⟨by
    rw [he]; unfold numV
    unfold cutI at h
    split at h
    · rename_i hg; cases h; rw [hg]
    · exact absurd h (by simp), hw⟩
theorem num_bad {l : Bytes} (w : World) (hs : l.length ≤ maxLen) (h : cutI l = none) :
    Calls Try.prog 48 #[.string (bs l)] w fun e w' => (∃ t r, e = .returned (.tuple #[.string (bs t), .string (bs r), .bool false])) ∧ Draws w w' :=
  (num_any l w hs).mono fun e w' ⟨he, hw⟩ => ⟨by
    rw [he]; unfold numV
    unfold cutI at h
    split at h
    · exact absurd h (by simp)
    · rename_i hg; exact ⟨_, _, by rw [show good (l.takeWhile isD) = false by simpa using hg]⟩, hw⟩
end Go.Proofs.Ytdhibalpnccbiaa
