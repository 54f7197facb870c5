/- FnRelease: the walk. -/
import Derived.Test.YtdhibalpnccbiaaText
import Derived.Test.YtdhibalpnccbiaaSorts2
namespace Go.Proofs.Ytdhibalpnccbiaa
open Go.RowKit
set_option linter.unusedVariables false
theorem decT_all : ∀ m : Fin 256, (good (decT m.val) && (decT m.val).all isD && (val (decT m.val) == m.val) && decide ((decT m.val).length ≤ 3)) = true := by decide +kernel
theorem decT_num (m : Nat) (h : m < 256) : Num (decT m) ∧ val (decT m) = m ∧ (decT m).length ≤ 3 := by
  have h9 := decT_all ⟨m, h⟩
  simp only [Bool.and_eq_true, beq_iff_eq, decide_eq_true_eq] at h9
  exact ⟨⟨h9.1.1.1, h9.1.1.2⟩, h9.1.2, h9.2⟩
theorem num_head {t : Bytes} (h : Num t) : ∃ c r, t = c :: r ∧ isD c = true := by
  cases t with
  | nil => exact absurd h.good (by simp [good])
  | cons c r =>
    have := h.dig
    rw [List.all_cons, Bool.and_eq_true] at this
    exact ⟨c, r, rfl, this.1⟩
theorem parse_lang {M m : Bytes} (hM : Num M) (hm : Num m) : parse (M ++ 46 :: m) = ⟨M, m, if cmpB m [50, 49] < 0 then [48] else [], [], []⟩ := by
  unfold parse
  rw [cutI_app hM (.inr ⟨46, m, rfl, rfl⟩)]
  simp only [if_true]
  unfold parse2
  have h := cutI_app hm (.inl rfl)
  rw [List.append_nil] at h
  rw [h]
theorem parse_first {M m : Bytes} (hM : Num M) (hm : Num m) : parse (M ++ 46 :: (m ++ [46, 48])) = ⟨M, m, [48], [], []⟩ := by
  unfold parse
  rw [cutI_app hM (.inr ⟨46, _, rfl, rfl⟩)]
  simp only [if_true]
  unfold parse2
  rw [cutI_app hm (.inr ⟨46, [48], rfl, rfl⟩)]
  simp only [if_true]
  rfl
theorem parse_early {M m p : Bytes} (hM : Num M) (hm : Num m) (hp : Num p) : parse (M ++ 46 :: (m ++ 114 :: 99 :: p)) = ⟨M, m, [], [114, 99], p⟩ := by
  obtain ⟨c, r, hc, hd⟩ := num_head hp
  unfold parse
  rw [cutI_app hM (.inr ⟨46, _, rfl, rfl⟩)]
  simp only [if_true]
  unfold parse2
  rw [cutI_app hm (.inr ⟨114, 99 :: p, rfl, rfl⟩)]
  simp only [show ¬ ((114 : UInt8) = 46) by decide, if_false]
  have ht := takeWhile_app (p := notD) (M := [114, 99]) (rest := p) rfl (.inr ⟨c, r, hc, by simp [notD, hd]⟩)
  unfold parse4
  rw [show (114 : UInt8) :: 99 :: p = [114, 99] ++ p from rfl, ht.1, ht.2, if_neg (by decide), if_neg (by simp), if_neg (by rw [hc]; simp)]
  have h := cutI_app hp (.inl rfl)
  rw [List.append_nil] at h
  rw [h]
theorem cmpB_self (a : Bytes) : cmpB a a = 0 := by simp [cmpB]
theorem rel_low {m p : Bytes} (h : cmpB m [50, 49] < 0) : cmpG ⟨[49], m, [], [114, 99], p⟩ ⟨[49], m, if cmpB m [50, 49] < 0 then [48] else [], [], []⟩ = -1 ∧
    cmpG ⟨[49], m, if cmpB m [50, 49] < 0 then [48] else [], [], []⟩ ⟨[49], m, [48], [], []⟩ = 0 := by
  rw [if_pos h]
  have e : cmpB [] [48] = -1 := by decide
  have e2 : cmpS [] [] = 0 := by decide
  constructor
  · simp [cmpG, cmpB_self, e]
  · simp [cmpG, cmpB_self, e2]
theorem rel_high {m p : Bytes} (h : ¬ cmpB m [50, 49] < 0) : cmpG ⟨[49], m, if cmpB m [50, 49] < 0 then [48] else [], [], []⟩ ⟨[49], m, [], [114, 99], p⟩ = -1 ∧
    cmpG ⟨[49], m, [], [114, 99], p⟩ ⟨[49], m, [48], [], []⟩ = -1 := by
  rw [if_neg h]
  have e : cmpB [] [48] = -1 := by decide
  have e2 : cmpS [] [114, 99] = -1 := by decide
  constructor
  · simp [cmpG, cmpB_self, e2]
  · simp [cmpG, cmpB_self, e]
set_option maxRecDepth 100000 in
set_option maxHeartbeats 1000000 in
theorem law17 (m p : Nat) (w : World) (hm : m < 256) (hp : p < 256) : Calls Try.prog 17 #[.int .u8 m, .int .u8 p] w fun e w' => e = .returned (.bool true) ∧ Below w.heap.size w w' := by
  obtain ⟨nm, vm, lm⟩ := decT_num m hm
  obtain ⟨np, vp, lp⟩ := decT_num p hp
  have HTm := Lib.hid (fun W => text_any m W hm)
  have HTp := Lib.hid (fun W => text_any p W hp)
  have hsm : cmpB (decT m) [50, 49] < 0 ↔ m < 21 := by rw [cmpB_neg nm num21, vm]; exact Iff.rfl
  have HL : Hid (parse (49 :: 46 :: decT m) = ⟨[49], decT m, if cmpB (decT m) [50, 49] < 0 then [48] else [], [], []⟩) := parse_lang num1 nm
  have HF : Hid (parse (49 :: 46 :: (decT m ++ [46, 48])) = ⟨[49], decT m, [48], [], []⟩) := parse_first num1 nm
  have HE : Hid (parse (49 :: 46 :: (decT m ++ 114 :: 99 :: decT p)) = ⟨[49], decT m, [], [114, 99], decT p⟩) := parse_early num1 nm np
  have HSM := Lib.hid hsm
  clear nm np vm vp hsm
  generalize decT m = dm at *
  generalize decT p = dp at *
  have L1 : Hid ((49 :: 46 :: dm).length ≤ maxLen) := by show _ ≤ _; unfold maxLen; simp; omega
  have L2 : Hid ((49 :: 46 :: (dm ++ [46, 48])).length ≤ maxLen) := by show _ ≤ _; unfold maxLen; simp; omega
  have L3 : Hid ((49 :: 46 :: (dm ++ 114 :: 99 :: dp)).length ≤ maxLen) := by show _ ≤ _; unfold maxLen; simp; omega
  go_enter Try.func17, Try.ntmps17
  go_wp2_with fail
  refine (HTm.out _).mono ?_
  rintro e w1 ⟨rfl, hb⟩
  go_wp2_with fail
  refine (HTp.out _).mono ?_
  rintro e w2 ⟨rfl, hb2⟩
  have HB2 := Lib.hid (below_next hb hb2)
  clear hb hb2
  by_cases h21 : m < 21
  · obtain ⟨r1, r2⟩ := rel_low (p := dp) (HSM.out.2 h21)
    have R1 := Lib.hid r1
    have R2 := Lib.hid r2
    clear r1 r2
    go_wp2_with fail
    refine (mc40 (mc_go _ _ _ L3.out L1.out)).mono ?_
    rintro e w3 ⟨rfl, hb3⟩
    rw [HE.out, HL.out, R1.out]
    have HB3 := Lib.hid (below_next HB2.out hb3)
    clear hb3
    go_wp2_with fail
    refine (mc40 (mc_go _ _ _ L1.out L2.out)).mono ?_
    rintro e w4 ⟨rfl, hb4⟩
    rw [HF.out, HL.out, R2.out]
    have HB4 := Lib.hid (below_next HB3.out hb4)
    clear hb4
    go_wp2_with fail
    refine (isPre25 _ _ L3.out).mono ?_
    rintro e w5 ⟨rfl, hb5⟩
    rw [HE.out]
    have HB5 := Lib.hid (below_next HB4.out hb5)
    clear hb5
    go_wp2
    go_ret
    exact ⟨by simp, HB5.out⟩
  · obtain ⟨r1, r2⟩ := rel_high (p := dp) (fun h => h21 (HSM.out.1 h))
    have R1 := Lib.hid r1
    have R2 := Lib.hid r2
    clear r1 r2
    go_wp2_with fail
    refine (mc40 (mc_go _ _ _ L1.out L3.out)).mono ?_
    rintro e w3 ⟨rfl, hb3⟩
    rw [HE.out, HL.out, R1.out]
    have HB3 := Lib.hid (below_next HB2.out hb3)
    clear hb3
    go_wp2_with fail
    refine (mc40 (mc_go _ _ _ L3.out L2.out)).mono ?_
    rintro e w4 ⟨rfl, hb4⟩
    rw [HF.out, HE.out, R2.out]
    have HB4 := Lib.hid (below_next HB3.out hb4)
    clear hb4
    go_wp2_with fail
    refine (isPre25 _ _ L3.out).mono ?_
    rintro e w5 ⟨rfl, hb5⟩
    rw [HE.out]
    have HB5 := Lib.hid (below_next HB4.out hb5)
    clear hb5
    go_wp2
    go_ret
    exact ⟨by simp, HB5.out⟩
end Go.Proofs.Ytdhibalpnccbiaa
