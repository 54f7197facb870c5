/- FnNamed: the walk. -/
import Derived.Test.YtdhibalpnccbiaaPlain6
import Derived.Test.YtdhibalpnccbiaaPrev
namespace Go.Proofs.Ytdhibalpnccbiaa
open Go.RowKit
set_option linter.unusedVariables false
set_option maxRecDepth 100000 in
set_option maxHeartbeats 1000000 in
theorem law7 (x m : Bytes) (w : World) (hx : x.length ≤ maxLen) (hm : m.length ≤ maxLen) : Calls Try.prog 7 #[.string (bs x), .string (bs m)] w fun e w' => e = .returned (.bool true) ∧ Below w.heap.size w w' := by
  have HX := Lib.hid hx
  have HM := Lib.hid hm
  unfold maxLen at hx hm
  by_cases h1 : 2147483647 < x.length
  · go_enter Try.func7, Try.ntmps7
    go_wp2
    go_ret
    exact ⟨rfl, Below.refl _ _⟩
  by_cases h2 : 2147483647 < m.length
  · have h1' : x.length ≤ 2147483647 := by omega
    clear h1
    go_enter Try.func7, Try.ntmps7
    go_wp2
    go_ret
    exact ⟨rfl, Below.refl _ _⟩
  · have h1' : x.length ≤ 2147483647 := by omega
    have h2' : m.length ≤ 2147483647 := by omega
    obtain ⟨⟨g, st⟩, hr⟩ : ∃ r, read x = r := ⟨_, rfl⟩
    have HR := Lib.hid hr
    clear h1 h2 hr
    go_enter Try.func7, Try.ntmps7
    go_wp2_with fail
    refine (read_any _ _ HX.out).mono ?_
    rintro e w1 ⟨rfl, hb⟩
    rw [HR.out]
    unfold rv gv
    have hz := hb.size
    go_wp2_with fail
    refine (short2 x m _ _ HX.out HM.out (by simp) (by simp)).mono ?_
    rintro e w' ⟨rfl, rfl⟩
    have HB := Lib.hid ((hb.alloc hz (.cells #[.string (bs g.maj), .string (bs g.min), .string (bs g.pat), .string (bs g.kind), .string (bs g.pre)] 25)).alloc (by simp; omega) (.cells #[.string (bs x), .string (bs m)] 9))
    cases hs : shortB [x, m]
    · go_wp2
      go_ret
      exact ⟨rfl, HB.out⟩
    by_cases h0 : st = 1
    · subst h0
      have h80 : x.length ≤ 80 ∧ m.length ≤ 80 := by simpa [shortB] using hs
      obtain ⟨hx80, hm80⟩ := h80
      have hfine : (read x).2 = 1 := by rw [HR.out]
      have F0 : Hid (fromTool (103 :: 111 :: x) = x) := by
        have h9 := fromTool_made (rest := []) hfine (.inl rfl) rfl
        rw [List.append_nil] at h9
        exact h9
      have F1 : ∀ c, notIn [32, 9, 45] c = false → notIn [92, 47] c = true → m.all (notIn [92, 47]) = true → fromTool (103 :: 111 :: (x ++ c :: m)) = x := by
        intro c hc hc2 hall
        exact fromTool_made hfine (.inr ⟨c, m, rfl, hc⟩) (by rw [List.all_cons, hc2, hall]; rfl)
      have HF1 := Lib.hid F1
      clear F1 hfine
      go_wp2
      go_loop [32] (fun i => ∃ k : Nat, k ≤ m.length ∧ k ≤ tw (notIn [92, 47]) m ∧ i = .int .i64 k) (fun i => m.length - (intOf i).toNat)
      case atStart => exact ⟨0, Nat.zero_le _, Nat.zero_le _, rfl⟩
      case round =>
        obtain ⟨k, hk, hkt, rfl⟩ := hrel
        by_cases hlt : k < m.length
        · by_cases hin : notIn [92, 47] m[k] = true
          · have hn := tw_step _ m k hlt hkt hin
            obtain ⟨e1, e2⟩ := stroke_in hlt hin
            clear hin
            go_wp2
            go_round
            case rel => exact ⟨k + 1, by omega, by omega, by go_num⟩
            case measure => simp [intOf]; omega
          · have e1 := stroke_out hlt (by simpa using hin)
            clear hin
            rcases e1 with e1 | ⟨e1, e2⟩
            all_goals
              go_wp2
              go_ret
              exact ⟨rfl, HB.out⟩
        · have hall : m.all (notIn [92, 47]) = true := by
            have h9 := tw_end _ m k (by omega) hkt
            have h10 := all_takeWhile (notIn [92, 47]) m
            rw [← take_tw, ← h9, List.take_of_length_le (by omega)] at h10
            exact h10
          have HFa := Lib.hid (HF1.out 45 rfl rfl hall)
          have HFb := Lib.hid (HF1.out 32 rfl rfl hall)
          have HFc := Lib.hid (HF1.out 9 rfl rfl hall)
          clear hall hkt
          have HLA : Hid ((103 :: 111 :: x).length ≤ maxLen) := by show _ ≤ _; unfold maxLen; simp; omega
          have HLB : Hid (∀ c : UInt8, (103 :: 111 :: (x ++ c :: m)).length ≤ maxLen) := by intro c; unfold maxLen; simp; omega
          go_wp2_with fail
          refine (from30 _ _ HLA.out).mono ?_
          rintro e w2 ⟨rfl, hb2⟩
          rw [F0.out]
          have HB2 := Lib.hid (below_next HB.out hb2)
          clear hb2
          go_wp2_with fail
          refine (from30 _ _ (HLB.out 45)).mono ?_
          rintro e w3 ⟨rfl, hb3⟩
          rw [HFa.out]
          have HB3 := Lib.hid (below_next HB2.out hb3)
          clear hb3
          go_wp2_with fail
          refine (from30 _ _ (HLB.out 32)).mono ?_
          rintro e w4 ⟨rfl, hb4⟩
          rw [HFb.out]
          have HB4 := Lib.hid (below_next HB3.out hb4)
          clear hb4
          go_wp2_with fail
          refine (from30 _ _ (HLB.out 9)).mono ?_
          rintro e w5 ⟨rfl, hb5⟩
          rw [HFc.out]
          have HB5 := Lib.hid (below_next HB4.out hb5)
          clear hb5
          go_wp2
          go_ret
          exact ⟨by simp, HB5.out⟩
    · have e0 : ((st : Int) != 1) = true := by simp; omega
      go_wp2
      go_ret
      exact ⟨rfl, HB.out⟩
end Go.Proofs.Ytdhibalpnccbiaa
