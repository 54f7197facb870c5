/- FnMajorMinor: the walk. -/
import Derived.Test.YtdhibalpnccbiaaL8b
import Derived.Test.YtdhibalpnccbiaaSmt2
import Derived.Deep.RegionHeld3
namespace Go.Proofs.Ytdhibalpnccbiaa
open Go.RowKit
set_option linter.unusedVariables false
theorem sem_nums {v : Bytes} {S : SV} (h : semP v = some S) : S.maj.length ≤ v.length ∧ S.min.length ≤ v.length := by
  rcases sem_shape h with ⟨M, hM, hv2, h1, h2, h3, h4, h5⟩ | ⟨M, m, hM, hm, hv2, h1, h2, h3, h4, h5⟩ | ⟨M, m, p, z, hM, hm, hp, hv2, h1, h2, h3, h4⟩
  · rw [h1, h2, hv2]; simp
  · rw [h1, h2, hv2]; simp; omega
  · rw [h1, h2, hv2]; simp; omega
theorem read_open (l : Bytes) (h : (read l).2 = 0) : (read l).1 = zero := by
  unfold read at h ⊢
  rcases e : cutI l with _ | ⟨M, _ | ⟨c, x⟩⟩ <;> simp only [e] at h ⊢
  · simp at h
  · split at h
    · rename_i hc
      rw [if_pos hc]
      unfold read2 at h ⊢
      rcases e2 : cutI x with _ | ⟨m, _ | ⟨c2, y⟩⟩ <;> simp only [e2] at h ⊢
      · simp at h
      · split at h
        · unfold read3 at h
          split at h <;> simp at h
        · rename_i hc2
          rw [if_neg hc2]
          unfold read4 at h ⊢
          split at h
          · simp at h
          · rename_i hk
            rw [if_neg hk]
            split at h
            · rename_i ho; rw [if_pos ho]
            · split at h <;> simp at h
    · simp at h
theorem read_lens (l : Bytes) : (read l).1.maj.length ≤ l.length ∧ (read l).1.min.length ≤ l.length := by
  by_cases h : (read l).2 = 0
  · rw [read_open l h]; simp [zero]
  · rw [← read_parse l h]
    rcases parse_parts l with h2 | h2
    · rw [h2]; simp [zero]
    · have := h2.lens; omega
theorem mod_lens (p v : Bytes) : (modR p v).1.maj.length ≤ v.length ∧ (modR p v).1.min.length ≤ v.length := by
  unfold modR
  split
  · split
    · simp [zero]
    · have h1 := read_lens (toolN v).1
      have h2 := toolN_len v
      omega
  · exact read_lens v
set_option maxRecDepth 100000 in
set_option maxHeartbeats 1000000 in
theorem law11 (p v : Bytes) (w : World) (hp : p.length ≤ maxLen) (hv : v.length ≤ maxLen) : Calls Try.prog 11 #[.string (bs p), .string (bs v)] w fun e w' => e = .returned (.bool true) ∧ Below w.heap.size w w' := by
  have HP := Lib.hid hp
  have HV := Lib.hid hv
  unfold maxLen at hp hv
  by_cases h1 : 2147483647 < p.length
  · go_enter Try.func11, Try.ntmps11
    go_wp2
    go_ret
    exact ⟨rfl, Below.refl _ _⟩
  have h1' : p.length ≤ 2147483647 := by omega
  clear h1
  by_cases h2 : 2147483647 < v.length
  · go_enter Try.func11, Try.ntmps11
    go_wp2
    go_ret
    exact ⟨rfl, Below.refl _ _⟩
  have h2' : v.length ≤ 2147483647 := by omega
  clear h2
  cases hs : shortB [p, v]
  · have HSH := Lib.hid hs
    clear hs
    go_enter Try.func11, Try.ntmps11
    go_wp2_with fail
    refine (short2 p v _ _ HP.out HV.out (by simp) (by simp)).mono ?_
    rintro e w' ⟨rfl, rfl⟩
    rw [HSH.out]
    go_wp2
    go_ret
    exact ⟨rfl, (Below.refl _ _).alloc (Nat.le_refl _) _⟩
  have HSH := Lib.hid hs
  have hl80 : v.length ≤ 80 := by simp [shortB] at hs; exact hs.2
  have HL : Hid (v.length ≤ 1000) := Lib.hid (by omega)
  clear hs
  cases hvr : virt p with
  | true =>
    have HVR := Lib.hid hvr
    have hlens := mod_lens p v
    obtain ⟨⟨g, st⟩, hr⟩ : ∃ r, modR p v = r := ⟨_, rfl⟩
    rw [hr] at hlens
    have hlen1 : g.maj.length ≤ 1000 := by have := hlens.1; simp only at this; omega
    have hlen2 : g.min.length ≤ 1000 := by have := hlens.2; simp only at this; omega
    have HLG := Lib.hid (fun W => lang37 g W hlen1 hlen2)
    have hll : (lang g).length ≤ 3000 := by
      unfold lang
      split
      · omega
      · simp; omega
    have hadd := mk_add_run #[103, 111] (lang g) (103 :: 111 :: lang g) (by simp; omega) rfl
    have HR := Lib.hid hr
    have hpl : st = 1 → lang (parse (verOf p v)) = lang g := by
      intro h
      rw [mod_parse p v (by rw [hr, h]; simp), hr]
    have HPL := Lib.hid hpl
    clear hvr hr hlens hlen1 hlen2 hpl
    generalize lang g = LG at *
    go_enter Try.func11, Try.ntmps11
    go_wp2_with fail
    refine (short2 p v _ _ HP.out HV.out (by simp) (by simp)).mono ?_
    rintro e w' ⟨rfl, rfl⟩
    rw [HSH.out]
    have HB := Lib.hid ((Below.refl w.heap.size w).alloc (Nat.le_refl _) (.cells #[.string (bs p), .string (bs v)] 9))
    go_wp2_with fail
    refine (virt_any p _).mono ?_
    rintro e w' ⟨rfl, rfl⟩
    rw [HVR.out]
    go_wp2_with fail
    refine (mod_any p v _ HV.out).mono ?_
    rintro e w1 ⟨rfl, hb⟩
    rw [HR.out]
    unfold rv gv
    have hz := hb.size
    have HB1 := Lib.hid ((below_next HB.out hb).alloc (by have := HB.out.size; omega) (.cells #[.string (bs g.maj), .string (bs g.min), .string (bs g.pat), .string (bs g.kind), .string (bs g.pre)] 25))
    clear hb
    unfold gv at HLG
    go_wp2_with fail
    refine (HLG.out _).mono ?_
    rintro e w2 ⟨rfl, hb2⟩
    have HB2 := Lib.hid (below_next HB1.out hb2)
    clear hb2
    by_cases hpt : p = tToolchain
    · have e1 : (p == [116, 111, 111, 108, 99, 104, 97, 105, 110]) = true := by simpa [tToolchain] using hpt
      by_cases h0 : st = 1
      case neg =>
        have e0 : ((st : Int) != 1) = true := by simp; omega
        clear hpt
        go_wp2
        go_ret
        exact ⟨rfl, HB2.out⟩
      have HQ : Hid ((if p = tToolchain then 103 :: 111 :: lang (parse (verOf p v)) else lang (parse (verOf p v))) = 103 :: 111 :: LG) := Lib.hid (by rw [if_pos hpt, HPL.out h0])
      subst h0
      clear hpt
      go_wp2_with fail
      refine (mmm_virt p v _ HL.out HVR.out).mono ?_
      rintro e w3 ⟨rfl, hb3⟩
      rw [HQ.out]
      have HB3 := Lib.hid (below_next HB2.out hb3)
      clear hb3
      go_wp2
      go_ret
      exact ⟨by simp, HB3.out⟩
    · have e1 : (p == [116, 111, 111, 108, 99, 104, 97, 105, 110]) = false := by simpa [tToolchain] using hpt
      by_cases h0 : st = 1
      case neg =>
        have e0 : ((st : Int) != 1) = true := by simp; omega
        clear hpt
        go_wp2
        go_ret
        exact ⟨rfl, HB2.out⟩
      have HQ : Hid ((if p = tToolchain then 103 :: 111 :: lang (parse (verOf p v)) else lang (parse (verOf p v))) = LG) := Lib.hid (by rw [if_neg hpt, HPL.out h0])
      subst h0
      clear hpt
      go_wp2_with fail
      refine (mmm_virt p v _ HL.out HVR.out).mono ?_
      rintro e w3 ⟨rfl, hb3⟩
      rw [HQ.out]
      have HB3 := Lib.hid (below_next HB2.out hb3)
      clear hb3
      go_wp2
      go_ret
      exact ⟨by simp, HB3.out⟩
  | false =>
    have HVR := Lib.hid hvr
    clear hvr
    cases hsem : semP v with
    | none =>
      have HSEM := Lib.hid hsem
      clear hsem
      go_enter Try.func11, Try.ntmps11
      go_wp2_with fail
      refine (short2 p v _ _ HP.out HV.out (by simp) (by simp)).mono ?_
      rintro e w' ⟨rfl, rfl⟩
      rw [HSH.out]
      have HB := Lib.hid ((Below.refl w.heap.size w).alloc (Nat.le_refl _) (.cells #[.string (bs p), .string (bs v)] 9))
      go_wp2_with fail
      refine (virt_any p _).mono ?_
      rintro e w' ⟨rfl, rfl⟩
      rw [HVR.out]
      go_wp2_with fail
      refine (smt_no _ HL.out HSEM.out).mono ?_
      rintro e w1 ⟨⟨X, rfl⟩, hb⟩
      unfold sxv
      have hz := hb.size
      have HB1 := Lib.hid ((below_next HB.out hb).alloc (by have := HB.out.size; omega) (.cells #[.string (bs X.n0), .string (bs X.n1), .string (bs X.n2), .string (bs X.pre), .string (bs X.plus), .int .i64 X.told] 37))
      clear hb
      go_wp2
      go_quiet (fail)
      go_wp2
      go_ret
      exact ⟨rfl, below_drewN HB1.out _⟩
    | some S =>
      have HSEM := Lib.hid hsem
      have hq : mmOf v = 118 :: ((toX S).n0 ++ 46 :: (toX S).n1) := by unfold mmOf; rw [hsem]; rfl
      have hls : (toX S).n0.length ≤ 80 ∧ (toX S).n1.length ≤ 80 := by
        have h9 := sem_nums hsem
        simp only [toX]
        omega
      have HQ := Lib.hid hq
      clear hsem hq
      go_enter Try.func11, Try.ntmps11
      go_wp2_with fail
      refine (short2 p v _ _ HP.out HV.out (by simp) (by simp)).mono ?_
      rintro e w' ⟨rfl, rfl⟩
      rw [HSH.out]
      have HB := Lib.hid ((Below.refl w.heap.size w).alloc (Nat.le_refl _) (.cells #[.string (bs p), .string (bs v)] 9))
      go_wp2_with fail
      refine (virt_any p _).mono ?_
      rintro e w' ⟨rfl, rfl⟩
      rw [HVR.out]
      go_wp2_with fail
      refine (smt_ok _ HL.out HSEM.out).mono ?_
      rintro e w1 ⟨rfl, hb⟩
      unfold sxv
      have hz := hb.size
      generalize toX S = X at *
      have HB1 := Lib.hid ((below_next HB.out hb).alloc (by have := HB.out.size; omega) (.cells #[.string (bs X.n0), .string (bs X.n1), .string (bs X.n2), .string (bs X.pre), .string (bs X.plus), .int .i64 X.told] 37))
      clear hb
      have hl0 := hls.1
      have hl1 := hls.2
      have hadd0 := mk_add_run #[118] X.n0 (118 :: X.n0) (by simp; omega) rfl
      have hadd1 := add_run_mk (118 :: X.n0) #[46] (118 :: (X.n0 ++ [46])) (by simp; omega) rfl
      have hadd2 := add_run (118 :: (X.n0 ++ [46])) X.n1 (118 :: (X.n0 ++ 46 :: X.n1)) (by simp; omega) (by simp)
      clear hls
      go_wp2
      go_region_held3 (fun w' => w'.cell? ⟨w1.heap.size, 0, none⟩ = some (.string (bs X.n0)) ∧ w'.cell? ⟨w1.heap.size, 1, none⟩ = some (.string (bs X.n1)) ∧ Below w.heap.size w w') (first | exact ⟨by simp, by simp, HB1.out.drew⟩ | exact keep2 (by assumption) hb2) (first | (go_at_call 38; refine (mmm_other p v _ HL.out HVR.out).mono ?_; rintro e w' ⟨rfl, hb2⟩; rw [HQ.out]))
      all_goals
        go_wp2
        go_ret
        exact ⟨by simp, (show _ ∧ _ ∧ Below w.heap.size w _ by assumption).2.2⟩
end Go.Proofs.Ytdhibalpnccbiaa
