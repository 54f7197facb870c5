/- FnPrev: the walk. -/
import Derived.Test.YtdhibalpnccbiaaPrev
namespace Go.Proofs.Ytdhibalpnccbiaa
open Go.RowKit
set_option linter.unusedVariables false
/-- What a fine version gives. -/
theorem fine_parts {l : Bytes} {g : GV} (h : read l = (g, 1)) : parse l = g ∧ Parts l.length g := by
  have h1 : parse l = g := by have := read_parse l (by rw [h]; simp); rw [this, h]
  refine ⟨h1, ?_⟩
  have h2 := parse_parts l
  rw [h1] at h2
  rcases h2 with h2 | h2
  · rcases read_fine l (by rw [h]; simp) with h3 | h3
    · rw [h1, h2] at h3; exact absurd rfl h3.2.1
    · rw [h] at h3; exact absurd h3.1 (by simp)
  · exact h2
theorem val_49 : val [49] = 1 := rfl
theorem val_50 : val [50] = 2 := rfl
/-- A number from 2 on: its make, for the decrement. -/
theorem from2 {m : Bytes} (hm : Num m) (h : ¬ cmpB m [50] < 0) : ∃ a d z, m = a ++ d :: List.replicate z 48 ∧ Num (decR a d z) ∧ val (decR a d z) + 1 = val m ∧ 49 ≤ d.toNat ∧ d.toNat ≤ 57 ∧ (a = [] ∨ bl a 0 ≠ 48) ∧ ¬ cmpB m [49] ≤ 0 := by
  rw [cmpB_neg hm num2, val_50] at h
  obtain ⟨a, d, z, e, hd⟩ := dec_make hm (by omega)
  have hk := decR_num (a := a) (d := d) (z := z) (by rw [← e]; exact hm) hd (by rw [← e]; omega)
  rw [← e] at hk
  refine ⟨a, d, z, e, hk.1, hk.2.1, hk.2.2.1, hk.2.2.2.1, ?_, ?_⟩
  · exact hk.2.2.2.2
  · have := (cmpB_pos hm num1).2 (by rw [val_49]; omega)
    omega
set_option maxRecDepth 100000 in
set_option maxHeartbeats 400000 in
theorem law5 (l : Bytes) (w : World) (hl : l.length ≤ maxLen) : Calls Try.prog 5 #[.string (bs l)] w fun e w' => e = .returned (.bool true) ∧ Below w.heap.size w w' := by
  have HL := Lib.hid hl
  unfold maxLen at hl
  by_cases h1 : 2147483647 < l.length
  · go_enter Try.func5, Try.ntmps5
    go_wp2
    go_ret
    exact ⟨rfl, Below.refl _ _⟩
  · have h2 : l.length ≤ 2147483647 := by omega
    obtain ⟨⟨g, st⟩, hr⟩ : ∃ r, read l = r := ⟨_, rfl⟩
    have HR := Lib.hid hr
    clear h1 hr
    go_enter Try.func5, Try.ntmps5
    go_wp2_with fail
    refine (read_any _ _ HL.out).mono ?_
    rintro e w1 ⟨rfl, hb⟩
    rw [HR.out]
    unfold rv gv
    have hz := hb.size
    go_wp2_with fail
    refine (short1 l _ _ HL.out (by simp)).mono ?_
    rintro e w' ⟨rfl, rfl⟩
    have HB := Lib.hid ((hb.alloc hz (.cells #[.string (bs g.maj), .string (bs g.min), .string (bs g.pat), .string (bs g.kind), .string (bs g.pre)] 25)).alloc (by simp; omega) (.cells #[.string (bs l)] 9))
    cases hs : shortB [l]
    · go_wp2
      go_ret
      exact ⟨rfl, HB.out⟩
    · by_cases h0 : st = 1
      · subst h0
        go_wp2_with fail
        refine (nums_any g.min [50] _).mono ?_
        rintro e w' ⟨rfl, rfl⟩
        by_cases h3 : cmpB g.min [50] < 0
        · go_wp2
          go_ret
          exact ⟨rfl, HB.out⟩
        · have h80 : l.length ≤ 80 := by simpa [shortB] using hs
          obtain ⟨hp, hpa⟩ := fine_parts HR.out
          obtain ⟨a, d, z, hm, hn, hv, d1, d2, ha, hc⟩ := from2 hpa.min h3
          have hlen := hpa.lens
          have hlz : a.length + z ≤ 79 := by have := hlen.2.1; rw [hm] at this; simp at this; omega
          have hML : g.maj.length ≤ 80 := by omega
          have HP : Hid (∀ W, Calls Try.prog 27 #[.string (bs l)] W fun e w' => e = .returned (.string (bs (g.maj ++ 46 :: decR a d z))) ∧ Below W.heap.size W w') := by
            intro W
            exact prev27 l W (by omega) g.maj g.min (by omega) a d z ⟨g.pat, g.kind, g.pre, hp⟩ hm (by omega) hc d1 d2 ha
          have HD : Hid (∀ W, Calls Try.prog 28 #[.string (bs g.min)] W fun e w' => e = .returned (.string (bs (decR a d z))) ∧ Below W.heap.size W w') := by
            intro W; rw [hm]; exact before_any a d z W (by omega) d1 d2 ha
          have hdl : (decR a d z).length ≤ 200 := by
            unfold decR; split <;> simp <;> omega
          have hadd1 := add_run_mk g.maj #[46] (g.maj ++ [46]) (by simp; omega) rfl
          have hadd2 := add_run (g.maj ++ [46]) (decR a d z) (g.maj ++ 46 :: decR a d z) (by simp; omega) (by simp)
          generalize decR a d z = D at *
          clear hp hpa hm hn hv d1 d2 ha hc hlen hlz
          obtain ⟨M, m, p, k, q⟩ := g
          simp only at *
          go_wp2
          go_region_held3 (fun w' => w'.cell? ⟨w1.heap.size, 0, none⟩ = some (.string (bs M)) ∧ w'.cell? ⟨w1.heap.size, 1, none⟩ = some (.string (bs m)) ∧ Below w.heap.size w w') (first | exact ⟨by simp, by simp, HB.out.drew⟩ | exact keep2 (by assumption) hb2) (first | (go_at_call 27; refine (HP.out _).mono ?_; rintro e w' ⟨rfl, hb2⟩) | (go_at_call 28; refine (HD.out _).mono ?_; rintro e w' ⟨rfl, hb2⟩))
          all_goals
            go_wp2
            go_ret
            exact ⟨by simp, (show _ ∧ _ ∧ Below w.heap.size w _ by assumption).2.2⟩
      · have e0 : ((st : Int) != 1) = true := by simp; omega
        go_wp2
        go_ret
        exact ⟨rfl, HB.out⟩
end Go.Proofs.Ytdhibalpnccbiaa
