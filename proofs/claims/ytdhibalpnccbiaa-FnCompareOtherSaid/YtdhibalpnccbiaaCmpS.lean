/- spec.pre; spec.CompareSemantic. -/
import Derived.Test.YtdhibalpnccbiaaSemC
import Derived.Test.YtdhibalpnccbiaaSmt2
import Derived.Deep.RegionHeld3
import Derived.LoopN
namespace Go.Proofs.Ytdhibalpnccbiaa
open Go.RowKit
set_option linter.unusedVariables false
theorem keep0 {w W W' : World} (hk : Hid (Below w.heap.size w W)) (hb : Below W.heap.size W W') : Hid (Below w.heap.size w W') := Lib.hid (below_next hk.out hb)
theorem Row.drew {w : World} {B g cap : Nat} {xs : List Bytes} (h : Row w B g cap xs) : Row w.drew B g cap xs := ⟨h.cell, h.own, h.fits⟩
theorem below_draws {w W W' : World} (h : Below w.heap.size w W) (hd : Draws W W') : Below w.heap.size w W' := by
  obtain ⟨n, rfl⟩ := hd; exact below_drewN h n
theorem drop_getD (X : List Bytes) (k : Nat) (h : k < X.length) : X.drop k = X.getD k [] :: X.drop (k + 1) := by
  rw [List.drop_eq_getElem_cons h, List.getD_eq_getElem?_getD, List.getElem?_eq_getElem h]; rfl
theorem take_getD (X : List Bytes) (k : Nat) (h : k < X.length) : X.take (k + 1) = X.take k ++ [X.getD k []] := by
  rw [List.take_succ_eq_append_getElem h, List.getD_eq_getElem?_getD, List.getElem?_eq_getElem h]; rfl
set_option maxRecDepth 100000 in
set_option maxHeartbeats 2000000 in
theorem preS_loop (r s : Bytes) (w : World) (hr : r.length ≤ 900) (hs : s.length ≤ 900) (hne : r ≠ s) (hnr : ∀ x ∈ segs [] r, x ≠ []) (hns : ∀ x ∈ segs [] s, x ≠ []) :
    Calls Try.prog 62 #[.string (bs (45 :: r)), .string (bs (45 :: s))] w fun e w' => e = .returned (.int .i64 (loopC (segs [] r) (segs [] s))) ∧ Below w.heap.size w w' := by
  have HR : Hid (r.length ≤ 1000) := Lib.hid (by omega)
  have HS : Hid (s.length ≤ 1000) := Lib.hid (by omega)
  have e1 : (r == s) = false := by simpa using hne
  have HB0 : Hid (Below w.heap.size w w) := Lib.hid (Below.refl _ _)
  obtain ⟨res, hres⟩ : ∃ res, loopC (segs [] r) (segs [] s) = res := ⟨_, rfl⟩
  have HRES := Lib.hid hres
  have HNX := Lib.hid hnr
  have HNY := Lib.hid hns
  have HLX : Hid (∀ x ∈ segs [] r, x.length ≤ maxLen) := Lib.hid (fun x hx => by have := segs_mem r [] x hx; unfold maxLen; simp at this; omega)
  have HLY : Hid (∀ x ∈ segs [] s, x.length ≤ maxLen) := Lib.hid (fun x hx => by have := segs_mem s [] x hx; unfold maxLen; simp at this; omega)
  have HNE : Hid (segs [] r ≠ segs [] s) := Lib.hid (fun h => hne (segs_inj h))
  rw [hres]
  have b1 : (1 : Int) ≤ (r.length : Int) + 1 := by omega
  have b2 : (1 : Int) ≤ (s.length : Int) + 1 := by omega
  clear hne hres hnr hns hr hs
  go_enter Try.func62, Try.ntmps62
  go_wp2
  go_region_held3 (fun w' => Hid (Below w.heap.size w w')) (first | exact Lib.hid HB0.out.drew | exact keep0 (by assumption) hb2) (first | (go_at_call_of 53 (Value.string (bs r)); refine (cuts_row r _ HR.out).mono ?_; rintro e w' ⟨⟨g1, cap1, rfl, hrow1⟩, hb2⟩) | (go_at_call_of 53 (Value.string (bs s)); refine (cuts_row s _ HS.out).mono ?_; rintro e w' ⟨⟨g2, cap2, rfl, hrow2⟩, hb2⟩))
  all_goals
    have HR1 := Lib.hid (hrow1.later hb2)
    have HR2 := Lib.hid hrow2
    have HBEL : Hid (Below w.heap.size w w') := by assumption
    have hl1 := segs_len r []
    have hl2 := segs_len s []
    have HP1 := Lib.hid (segs_pos r [])
    have HP2 := Lib.hid (segs_pos s [])
    clear hrow1 hrow2 hb2
    have hr9 := HR.out
    have hs9 := HS.out
    generalize segs [] r = X at *
    generalize segs [] s = Y at *
    obtain ⟨N, hmin, hN1, hN2, hN3⟩ : ∃ N : Nat, min (X.length : Int) (Y.length : Int) = (N : Int) ∧ N ≤ X.length ∧ N ≤ Y.length ∧ (N = X.length ∨ N = Y.length) := by
      by_cases h : X.length ≤ Y.length
      · exact ⟨X.length, by omega, by omega, by omega, .inl rfl⟩
      · exact ⟨Y.length, by omega, by omega, by omega, .inr rfl⟩
    have HN3 := Lib.hid hN3
    have hX9 : X.length ≤ 1001 := by omega
    clear hN3 hl1 hl2 hr9 hs9 b1 b2 e1
    go_wp2
    go_loopw [29] (fun i wr => ∃ k : Nat, k ≤ N ∧ i = .int .i64 k ∧ Hid (Draws w' wr) ∧ Hid (X.take k = Y.take k) ∧ Hid (loopC (X.drop k) (Y.drop k) = res)) (fun i _ => N - (intOf i).toNat)
    case atStart => exact ⟨0, Nat.zero_le _, rfl, Lib.hid ⟨0, rfl⟩, Lib.hid rfl, HRES⟩
    case round =>
      obtain ⟨k, hk, rfl, HD, HT, HQ⟩ := hrel
      clear hmin
      by_cases hlt : k < N
      · have hkx : k < X.length := by omega
        have hky : k < Y.length := by omega
        have c1 : wr.cell? ⟨g1, k, none⟩ = some (.string (bs (X.getD k []))) := by
          obtain ⟨n, e⟩ := HD.out; rw [e]; exact HR1.out.cell k hkx
        have c2 : wr.cell? ⟨g2, k, none⟩ = some (.string (bs (Y.getD k []))) := by
          obtain ⟨n, e⟩ := HD.out; rw [e]; exact HR2.out.cell k hky
        have hx0 : X.getD k [] ≠ [] := HNX.out _ (getD_mem X k hkx)
        have hy0 : Y.getD k [] ≠ [] := HNY.out _ (getD_mem Y k hky)
        have HX2 : Hid ((X.getD k []).length ≤ maxLen) := Lib.hid (HLX.out _ (getD_mem X k hkx))
        have HY2 : Hid ((Y.getD k []).length ≤ maxLen) := Lib.hid (HLY.out _ (getD_mem Y k hky))
        have hd : loopC (X.getD k [] :: X.drop (k + 1)) (Y.getD k [] :: Y.drop (k + 1)) = res := by
          rw [← drop_getD X k hkx, ← drop_getD Y k hky]; exact HQ.out
        have htk : X.getD k [] = Y.getD k [] → X.take (k + 1) = Y.take (k + 1) := fun h => by
          rw [take_getD X k hkx, take_getD Y k hky, HT.out, h]
        have HTK := Lib.hid htk
        clear htk
        generalize X.getD k [] = x at *
        generalize Y.getD k [] = y at *
        by_cases hxy : x = y
        · have HN : Hid (loopC (X.drop (k + 1)) (Y.drop (k + 1)) = res) := Lib.hid ((loopC_eq hxy _ _).symm.trans hd)
          have HT2 := Lib.hid (HTK.out hxy)
          have q1 : (x == y) = true := by simpa using hxy
          clear hxy hd hx0 hy0
          go_wp2
          go_quiet (fail)
          go_wp2
          go_roundw
          case rel => exact ⟨k + 1, by omega, by go_num, Lib.hid (draws_next HD.out ⟨_, rfl⟩), HT2, HN⟩
          case measure => simp [intOf]; omega
        · have hid := (loopC_ne hxy (X.drop (k + 1)) (Y.drop (k + 1))).symm.trans hd
          have q1 : (x == y) = false := by simpa using hxy
          unfold identC at hid
          rw [if_neg hxy] at hid
          have hfx : (decide (0 < x.length) && x.all isD) = x.all isD := by
            have : 0 < x.length := List.length_pos_iff.2 hx0
            simp [this]
          have hfy : (decide (0 < y.length) && y.all isD) = y.all isD := by
            have : 0 < y.length := List.length_pos_iff.2 hy0
            simp [this]
          clear hxy hd
          cases hdx : x.all isD <;> cases hdy : y.all isD <;> simp only [hdx, hdy, if_true, if_false, Bool.false_eq_true] at hid
          · have HI := Lib.hid hid.symm
            clear hid
            cases hl : Op.bytesLess x y
            · have HS2 := Lib.hid (cmpS_more q1 hl)
              have HFX : Hid (∀ W, Calls Try.prog 75 #[.string (bs x)] W fun e w' => e = .returned (.bool false) ∧ w' = W) := Lib.hid (fun W => by have h9 := fig_any x W HX2.out; rw [hfx, hdx] at h9; exact h9)
              have HFY : Hid (∀ W, Calls Try.prog 75 #[.string (bs y)] W fun e w' => e = .returned (.bool false) ∧ w' = W) := Lib.hid (fun W => by have h9 := fig_any y W HY2.out; rw [hfy, hdy] at h9; exact h9)
              have HFX2 : Hid (∀ W, Calls Try.prog 75 #[.string (bs x)] W fun e w' => e = .returned (.bool false) ∧ W = w') := Lib.hid (fun W => (HFX.out W).mono fun _ _ h => ⟨h.1, h.2.symm⟩)
              have HFY2 : Hid (∀ W, Calls Try.prog 75 #[.string (bs y)] W fun e w' => e = .returned (.bool false) ∧ W = w') := Lib.hid (fun W => (HFY.out W).mono fun _ _ h => ⟨h.1, h.2.symm⟩)
              clear hfx hfy hx0 hy0 hdx hdy
              go_wp2
              go_quiet (fail)
              go_wp2_with fail
              refine (HFX.out _).mono ?_
              rintro e w9 ⟨rfl, rfl⟩
              go_wp2
              go_quiet ((first | (go_at_call_of 75 (Value.string (bs x)); first | exact Calls.quiet_of_same (HFX.out _) | exact calls_again (HFX2.out _)) | (go_at_call_of 75 (Value.string (bs y)); first | exact Calls.quiet_of_same (HFY.out _) | exact calls_again (HFY2.out _))))
              go_wp2
              go_ret
              refine ⟨by rw [HI.out, ← HS2.out]; rfl, ?_⟩
              refine below_draws HBEL.out (draws_next HD.out ?_)
              first | exact ⟨_, rfl⟩ | exact ⟨0, rfl⟩ | exact ⟨_, World.drewN_drewN _ _ _⟩
            · have HS2 := Lib.hid (cmpS_less q1 hl)
              have HFX : Hid (∀ W, Calls Try.prog 75 #[.string (bs x)] W fun e w' => e = .returned (.bool false) ∧ w' = W) := Lib.hid (fun W => by have h9 := fig_any x W HX2.out; rw [hfx, hdx] at h9; exact h9)
              have HFY : Hid (∀ W, Calls Try.prog 75 #[.string (bs y)] W fun e w' => e = .returned (.bool false) ∧ w' = W) := Lib.hid (fun W => by have h9 := fig_any y W HY2.out; rw [hfy, hdy] at h9; exact h9)
              have HFX2 : Hid (∀ W, Calls Try.prog 75 #[.string (bs x)] W fun e w' => e = .returned (.bool false) ∧ W = w') := Lib.hid (fun W => (HFX.out W).mono fun _ _ h => ⟨h.1, h.2.symm⟩)
              have HFY2 : Hid (∀ W, Calls Try.prog 75 #[.string (bs y)] W fun e w' => e = .returned (.bool false) ∧ W = w') := Lib.hid (fun W => (HFY.out W).mono fun _ _ h => ⟨h.1, h.2.symm⟩)
              clear hfx hfy hx0 hy0 hdx hdy
              go_wp2
              go_quiet (fail)
              go_wp2_with fail
              refine (HFX.out _).mono ?_
              rintro e w9 ⟨rfl, rfl⟩
              go_wp2
              go_quiet ((first | (go_at_call_of 75 (Value.string (bs x)); first | exact Calls.quiet_of_same (HFX.out _) | exact calls_again (HFX2.out _)) | (go_at_call_of 75 (Value.string (bs y)); first | exact Calls.quiet_of_same (HFY.out _) | exact calls_again (HFY2.out _))))
              go_wp2
              go_ret
              refine ⟨by rw [HI.out, ← HS2.out]; rfl, ?_⟩
              refine below_draws HBEL.out (draws_next HD.out ?_)
              first | exact ⟨_, rfl⟩ | exact ⟨0, rfl⟩ | exact ⟨_, World.drewN_drewN _ _ _⟩
          · have HI := Lib.hid hid.symm
            clear hid
            have HFX : Hid (∀ W, Calls Try.prog 75 #[.string (bs x)] W fun e w' => e = .returned (.bool false) ∧ w' = W) := Lib.hid (fun W => by have h9 := fig_any x W HX2.out; rw [hfx, hdx] at h9; exact h9)
            have HFY : Hid (∀ W, Calls Try.prog 75 #[.string (bs y)] W fun e w' => e = .returned (.bool true) ∧ w' = W) := Lib.hid (fun W => by have h9 := fig_any y W HY2.out; rw [hfy, hdy] at h9; exact h9)
            have HFX2 : Hid (∀ W, Calls Try.prog 75 #[.string (bs x)] W fun e w' => e = .returned (.bool false) ∧ W = w') := Lib.hid (fun W => (HFX.out W).mono fun _ _ h => ⟨h.1, h.2.symm⟩)
            have HFY2 : Hid (∀ W, Calls Try.prog 75 #[.string (bs y)] W fun e w' => e = .returned (.bool true) ∧ W = w') := Lib.hid (fun W => (HFY.out W).mono fun _ _ h => ⟨h.1, h.2.symm⟩)
            clear hfx hfy hx0 hy0 hdx hdy
            go_wp2
            go_quiet (fail)
            go_wp2_with fail
            refine (HFX.out _).mono ?_
            rintro e w9 ⟨rfl, rfl⟩
            go_wp2
            go_quiet ((first | (go_at_call_of 75 (Value.string (bs x)); first | exact Calls.quiet_of_same (HFX.out _) | exact calls_again (HFX2.out _)) | (go_at_call_of 75 (Value.string (bs y)); first | exact Calls.quiet_of_same (HFY.out _) | exact calls_again (HFY2.out _))))
            go_wp2
            go_ret
            refine ⟨by rw [HI.out]; rfl, ?_⟩
            refine below_draws HBEL.out (draws_next HD.out ?_)
            first | exact ⟨_, rfl⟩ | exact ⟨0, rfl⟩ | exact ⟨_, World.drewN_drewN _ _ _⟩
          · have HI := Lib.hid hid.symm
            clear hid
            have HFX : Hid (∀ W, Calls Try.prog 75 #[.string (bs x)] W fun e w' => e = .returned (.bool true) ∧ w' = W) := Lib.hid (fun W => by have h9 := fig_any x W HX2.out; rw [hfx, hdx] at h9; exact h9)
            have HFY : Hid (∀ W, Calls Try.prog 75 #[.string (bs y)] W fun e w' => e = .returned (.bool false) ∧ w' = W) := Lib.hid (fun W => by have h9 := fig_any y W HY2.out; rw [hfy, hdy] at h9; exact h9)
            have HFX2 : Hid (∀ W, Calls Try.prog 75 #[.string (bs x)] W fun e w' => e = .returned (.bool true) ∧ W = w') := Lib.hid (fun W => (HFX.out W).mono fun _ _ h => ⟨h.1, h.2.symm⟩)
            have HFY2 : Hid (∀ W, Calls Try.prog 75 #[.string (bs y)] W fun e w' => e = .returned (.bool false) ∧ W = w') := Lib.hid (fun W => (HFY.out W).mono fun _ _ h => ⟨h.1, h.2.symm⟩)
            clear hfx hfy hx0 hy0 hdx hdy
            go_wp2
            go_quiet (fail)
            go_wp2_with fail
            refine (HFX.out _).mono ?_
            rintro e w9 ⟨rfl, rfl⟩
            go_wp2_with fail
            refine (HFY.out _).mono ?_
            rintro e w9 ⟨rfl, rfl⟩
            go_wp2
            go_quiet ((first | (go_at_call_of 75 (Value.string (bs x)); first | exact Calls.quiet_of_same (HFX.out _) | exact calls_again (HFX2.out _)) | (go_at_call_of 75 (Value.string (bs y)); first | exact Calls.quiet_of_same (HFY.out _) | exact calls_again (HFY2.out _))))
            go_wp2
            go_ret
            refine ⟨by rw [HI.out]; rfl, ?_⟩
            refine below_draws HBEL.out (draws_next HD.out ?_)
            first | exact ⟨_, rfl⟩ | exact ⟨0, rfl⟩ | exact ⟨_, World.drewN_drewN _ _ _⟩
          · have HI := Lib.hid hid.symm
            clear hid
            have HFX : Hid (∀ W, Calls Try.prog 75 #[.string (bs x)] W fun e w' => e = .returned (.bool true) ∧ w' = W) := Lib.hid (fun W => by have h9 := fig_any x W HX2.out; rw [hfx, hdx] at h9; exact h9)
            have HFY : Hid (∀ W, Calls Try.prog 75 #[.string (bs y)] W fun e w' => e = .returned (.bool true) ∧ w' = W) := Lib.hid (fun W => by have h9 := fig_any y W HY2.out; rw [hfy, hdy] at h9; exact h9)
            have HFX2 : Hid (∀ W, Calls Try.prog 75 #[.string (bs x)] W fun e w' => e = .returned (.bool true) ∧ W = w') := Lib.hid (fun W => (HFX.out W).mono fun _ _ h => ⟨h.1, h.2.symm⟩)
            have HFY2 : Hid (∀ W, Calls Try.prog 75 #[.string (bs y)] W fun e w' => e = .returned (.bool true) ∧ W = w') := Lib.hid (fun W => (HFY.out W).mono fun _ _ h => ⟨h.1, h.2.symm⟩)
            clear hfx hfy hx0 hy0 hdx hdy
            go_wp2
            go_quiet (fail)
            go_wp2_with fail
            refine (HFX.out _).mono ?_
            rintro e w9 ⟨rfl, rfl⟩
            go_wp2_with fail
            refine (HFY.out _).mono ?_
            rintro e w9 ⟨rfl, rfl⟩
            go_wp2
            go_quiet ((go_at_call 26; first | exact Calls.quiet_of_same (nums_q _ _ _) | exact calls_again (nums_any _ _ _)))
            go_wp2
            go_ret
            refine ⟨by rw [HI.out]; rfl, ?_⟩
            refine below_draws HBEL.out (draws_next HD.out ?_)
            first | exact ⟨_, rfl⟩ | exact ⟨0, rfl⟩ | exact ⟨_, World.drewN_drewN _ _ _⟩
      · have hkN : k = N := by omega
        subst hkN
        by_cases hXl : X.length < Y.length
        · have HF : Hid (res = -1) := Lib.hid (by rw [← HQ.out, List.drop_eq_nil_of_le (by have := HN3.out; omega)]; rfl)
          go_wp2
          go_ret
          exact ⟨by rw [HF.out]; rfl, below_draws HBEL.out HD.out⟩
        · have HF : Hid (res = 1) := by
            show _ = _
            have hky : k = Y.length := by have := HN3.out; omega
            by_cases hXY : X.length = Y.length
            · exfalso
              have h9 := HT.out
              rw [List.take_of_length_le (by omega), List.take_of_length_le (by omega)] at h9
              exact HNE.out h9
            · rw [← HQ.out, show Y.drop k = [] from List.drop_eq_nil_of_le (by omega), drop_getD X k (by omega)]; rfl
          go_wp2
          go_ret
          exact ⟨by rw [HF.out]; rfl, below_draws HBEL.out HD.out⟩
theorem preS_any (a b : Bytes) (w : World) (ha : a.length ≤ 900) (hb : b.length ≤ 900) (da : Dash a) (db : Dash b) (na : a ≠ [] → ∀ x ∈ segs [] (a.drop 1), x ≠ []) (nb : b ≠ [] → ∀ x ∈ segs [] (b.drop 1), x ≠ []) :
    Calls Try.prog 62 #[.string (bs a), .string (bs b)] w fun e w' => e = .returned (.int .i64 (cpR a b)) ∧ Below w.heap.size w w' := by
  by_cases h : a = b
  · have HF : Hid (cpR a b = 0) := Lib.hid (if_pos h)
    have e1 : (a == b) = true := by simpa using h
    clear h da db na nb
    go_enter Try.func62, Try.ntmps62
    go_wp2
    go_ret
    exact ⟨by rw [HF.out]; rfl, Below.refl _ _⟩
  by_cases h1 : a = []
  · have HF : Hid (cpR a b = 1) := Lib.hid (by unfold cpR; rw [if_neg h, if_pos h1])
    have e1 : (a == b) = false := by simpa using h
    have e2 : (a == []) = true := by simpa using h1
    have e2' : a.isEmpty = true := by simpa using h1
    clear h h1 da db na nb
    go_enter Try.func62, Try.ntmps62
    go_wp2
    go_ret
    exact ⟨by rw [HF.out]; rfl, Below.refl _ _⟩
  by_cases h2 : b = []
  · have HF : Hid (cpR a b = -1) := Lib.hid (by unfold cpR; rw [if_neg h, if_neg h1, if_pos h2])
    have e1 : (a == b) = false := by simpa using h
    have e2 : (a == []) = false := by simpa using h1
    have e2' : a.isEmpty = false := by simpa using h1
    have e3 : (b == []) = true := by simpa using h2
    have e3' : b.isEmpty = true := by simpa using h2
    clear h h1 h2 da db na nb
    go_enter Try.func62, Try.ntmps62
    go_wp2
    go_ret
    exact ⟨by rw [HF.out]; rfl, Below.refl _ _⟩
  · have hc : cpR a b = loopC (idt a) (idt b) := by unfold cpR; rw [if_neg h, if_neg h1, if_neg h2]
    rcases da with rfl | ⟨r, rfl⟩
    · exact absurd rfl h1
    rcases db with rfl | ⟨s, rfl⟩
    · exact absurd rfl h2
    rw [hc]
    exact preS_loop r s w (by simp at ha; omega) (by simp at hb; omega) (fun e => h (by rw [e])) (na h1) (nb h2)
/-- The identifiers of a fine version are not empty. -/
theorem sem_segs {v : Bytes} {S : SV} (h : semP v = some S) (hp : S.pre ≠ []) : ∀ x ∈ segs [] (S.pre.drop 1), x ≠ [] := by
  have e := semS_eq v
  rw [h] at e
  cases v with
  | nil => cases h
  | cons c r =>
    have e2 : (if c.toNat = 118 then coreS (eOf r) (pOf r) (segs [] (qOf r)) else none) = some (toX S) := e
    by_cases hc : c.toNat = 118
    · rw [if_pos hc] at e2
      unfold coreS at e2
      cases hcb : condB (eOf r) (pOf r) (segs [] (qOf r)) with
      | true => rw [hcb] at e2; simp at e2
      | false =>
        rw [hcb] at e2
        simp only [Bool.false_eq_true, if_false] at e2
        split at e2
        · have e3 := Option.some.inj e2
          have e4 : eOf r = S.pre := congrArg SX.pre e3
          rw [e4] at hcb
          unfold condB at hcb
          simp only [Bool.or_eq_false_iff] at hcb
          have h9 := hcb.1.2
          simp only [hp, ne_eq, not_false_eq_true, decide_true, Bool.true_and, Bool.not_eq_false'] at h9
          unfold partsB at h9
          rw [List.all_eq_true] at h9
          intro x hx
          have := h9 x hx
          unfold okSeg at this
          simp only [Bool.and_eq_true, decide_eq_true_eq] at this
          exact this.1.1
        · cases e2
    · rw [if_neg hc] at e2; cases e2
set_option maxRecDepth 100000 in
set_option maxHeartbeats 1000000 in
theorem cs_nn (x y : Bytes) (w : World) (hx : x.length ≤ 900) (hy : y.length ≤ 900) (h1 : semP x = none) (h2 : semP y = none) :
    Calls Try.prog 41 #[.string (bs x), .string (bs y)] w fun e w' => e = .returned (.int .i64 (cmpV x y)) ∧ Below w.heap.size w w' := by
  have HX : Hid (x.length ≤ 1000) := Lib.hid (by omega)
  have HY : Hid (y.length ≤ 1000) := Lib.hid (by omega)
  have H1 := Lib.hid h1
  have H2 := Lib.hid h2
  have HV := Lib.hid (cmpV_nn h1 h2)
  clear hx hy h1 h2
  go_enter Try.func41, Try.ntmps41
  go_wp2_with fail
  refine (smt_no _ HX.out H1.out).mono ?_
  rintro e w1 ⟨⟨X, rfl⟩, hbw1⟩
  unfold sxv
  have HB := Lib.hid (hbw1.alloc hbw1.size (.cells #[.string (bs X.n0), .string (bs X.n1), .string (bs X.n2), .string (bs X.pre), .string (bs X.plus), .int .i64 X.told] 37))
  go_wp2_with fail
  refine (smt_no _ HY.out H2.out).mono ?_
  rintro e w2 ⟨⟨Y, rfl⟩, hbw2⟩
  unfold sxv
  have HB2 := Lib.hid ((below_next HB.out hbw2).alloc (by have := hbw1.size; have := hbw2.size; simp at this; omega) (.cells #[.string (bs Y.n0), .string (bs Y.n1), .string (bs Y.n2), .string (bs Y.pre), .string (bs Y.plus), .int .i64 Y.told] 37))
  clear hbw1 hbw2
  go_wp2
  go_ret
  exact ⟨by rw [HV.out]; rfl, HB2.out⟩
set_option maxRecDepth 100000 in
set_option maxHeartbeats 1000000 in
theorem cs_ns (x y : Bytes) (w : World) (hx : x.length ≤ 900) (hy : y.length ≤ 900) (T : SV) (h1 : semP x = none) (h2 : semP y = some T) :
    Calls Try.prog 41 #[.string (bs x), .string (bs y)] w fun e w' => e = .returned (.int .i64 (cmpV x y)) ∧ Below w.heap.size w w' := by
  have HX : Hid (x.length ≤ 1000) := Lib.hid (by omega)
  have HY : Hid (y.length ≤ 1000) := Lib.hid (by omega)
  have H1 := Lib.hid h1
  have H2 := Lib.hid h2
  have HV := Lib.hid (cmpV_ns h1 h2)
  clear hx hy h1 h2
  go_enter Try.func41, Try.ntmps41
  go_wp2_with fail
  refine (smt_no _ HX.out H1.out).mono ?_
  rintro e w1 ⟨⟨X, rfl⟩, hbw1⟩
  unfold sxv
  have HB := Lib.hid (hbw1.alloc hbw1.size (.cells #[.string (bs X.n0), .string (bs X.n1), .string (bs X.n2), .string (bs X.pre), .string (bs X.plus), .int .i64 X.told] 37))
  go_wp2_with fail
  refine (smt_ok _ HY.out H2.out).mono ?_
  rintro e w2 ⟨rfl, hbw2⟩
  unfold sxv
  generalize toX T = Y at *
  have HB2 := Lib.hid ((below_next HB.out hbw2).alloc (by have := hbw1.size; have := hbw2.size; simp at this; omega) (.cells #[.string (bs Y.n0), .string (bs Y.n1), .string (bs Y.n2), .string (bs Y.pre), .string (bs Y.plus), .int .i64 Y.told] 37))
  clear hbw1 hbw2
  go_wp2
  go_ret
  exact ⟨by rw [HV.out]; rfl, HB2.out⟩
set_option maxRecDepth 100000 in
set_option maxHeartbeats 1000000 in
theorem cs_sn (x y : Bytes) (w : World) (hx : x.length ≤ 900) (hy : y.length ≤ 900) (S : SV) (h1 : semP x = some S) (h2 : semP y = none) :
    Calls Try.prog 41 #[.string (bs x), .string (bs y)] w fun e w' => e = .returned (.int .i64 (cmpV x y)) ∧ Below w.heap.size w w' := by
  have HX : Hid (x.length ≤ 1000) := Lib.hid (by omega)
  have HY : Hid (y.length ≤ 1000) := Lib.hid (by omega)
  have H1 := Lib.hid h1
  have H2 := Lib.hid h2
  have HV := Lib.hid (cmpV_sn h1 h2)
  clear hx hy h1 h2
  go_enter Try.func41, Try.ntmps41
  go_wp2_with fail
  refine (smt_ok _ HX.out H1.out).mono ?_
  rintro e w1 ⟨rfl, hbw1⟩
  unfold sxv
  generalize toX S = X at *
  have HB := Lib.hid (hbw1.alloc hbw1.size (.cells #[.string (bs X.n0), .string (bs X.n1), .string (bs X.n2), .string (bs X.pre), .string (bs X.plus), .int .i64 X.told] 37))
  go_wp2_with fail
  refine (smt_no _ HY.out H2.out).mono ?_
  rintro e w2 ⟨⟨Y, rfl⟩, hbw2⟩
  unfold sxv
  have HB2 := Lib.hid ((below_next HB.out hbw2).alloc (by have := hbw1.size; have := hbw2.size; simp at this; omega) (.cells #[.string (bs Y.n0), .string (bs Y.n1), .string (bs Y.n2), .string (bs Y.pre), .string (bs Y.plus), .int .i64 Y.told] 37))
  clear hbw1 hbw2
  go_wp2
  go_ret
  exact ⟨by rw [HV.out]; rfl, HB2.out⟩
end Go.Proofs.Ytdhibalpnccbiaa
