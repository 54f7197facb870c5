/- FnPrevLess: the walk. -/
import Derived.Test.YtdhibalpnccbiaaLang
namespace Go.Proofs.Ytdhibalpnccbiaa
open Go.RowKit
set_option linter.unusedVariables false
theorem keepBox {w W W' : World} {b c : Nat} {g h : GV} (hk : Box W b g ∧ Box W c h ∧ Below w.heap.size w W) (hb : Below W.heap.size W W') : Box W' b g ∧ Box W' c h ∧ Below w.heap.size w W' :=
  ⟨hk.1.later hb, hk.2.1.later hb, below_next hk.2.2 hb⟩
theorem keep5 {w W W' : World} {a b : Nat} {u0 u1 u2 u3 u4 : Value} {h : GV} (hk : W.cell? ⟨a, 0, none⟩ = some u0 ∧ W.cell? ⟨a, 1, none⟩ = some u1 ∧ W.cell? ⟨a, 2, none⟩ = some u2 ∧ W.cell? ⟨a, 3, none⟩ = some u3 ∧ W.cell? ⟨a, 4, none⟩ = some u4 ∧ Hid (Box W b h ∧ Below w.heap.size w W)) (hb : Below W.heap.size W W') :
    W'.cell? ⟨a, 0, none⟩ = some u0 ∧ W'.cell? ⟨a, 1, none⟩ = some u1 ∧ W'.cell? ⟨a, 2, none⟩ = some u2 ∧ W'.cell? ⟨a, 3, none⟩ = some u3 ∧ W'.cell? ⟨a, 4, none⟩ = some u4 ∧ Hid (Box W' b h ∧ Below w.heap.size w W') :=
  ⟨cell_later hb hk.1, cell_later hb hk.2.1, cell_later hb hk.2.2.1, cell_later hb hk.2.2.2.1, cell_later hb hk.2.2.2.2.1, Lib.hid ⟨hk.2.2.2.2.2.out.1.later hb, below_next hk.2.2.2.2.2.out.2 hb⟩⟩
set_option maxRecDepth 100000 in
set_option maxHeartbeats 1000000 in
theorem law18 (x y : Bytes) (w : World) (hx : x.length ≤ maxLen) (hy : y.length ≤ maxLen) : Calls Try.prog 18 #[.string (bs x), .string (bs y)] w fun e w' => e = .returned (.bool true) ∧ Below w.heap.size w w' := by
  have HX := Lib.hid hx
  have HY := Lib.hid hy
  unfold maxLen at hx hy
  by_cases h1 : 2147483647 < x.length
  · go_enter Try.func18, Try.ntmps18
    go_wp2
    go_ret
    exact ⟨rfl, Below.refl _ _⟩
  have h1' : x.length ≤ 2147483647 := by omega
  clear h1
  by_cases h2 : 2147483647 < y.length
  · go_enter Try.func18, Try.ntmps18
    go_wp2
    go_ret
    exact ⟨rfl, Below.refl _ _⟩
  have h2' : y.length ≤ 2147483647 := by omega
  clear h2
  obtain ⟨⟨g, sx⟩, hrx⟩ : ∃ r, read x = r := ⟨_, rfl⟩
  obtain ⟨⟨h, sy⟩, hry⟩ : ∃ r, read y = r := ⟨_, rfl⟩
  have HRX := Lib.hid hrx
  have HRY := Lib.hid hry
  clear hrx hry
  go_enter Try.func18, Try.ntmps18
  go_wp2_with fail
  refine (read_any _ _ HX.out).mono ?_
  rintro e w1 ⟨rfl, hb⟩
  rw [HRX.out]
  unfold rv gv
  have hz := hb.size
  have HB1 : Hid (Below w.heap.size w (w1.alloc (boxOf g))) := Lib.hid (hb.alloc hz _)
  have HG1 := Lib.hid (Box.new w1 g)
  unfold boxOf at HB1 HG1
  go_wp2_with fail
  refine (read_any _ _ HY.out).mono ?_
  rintro e w2 ⟨rfl, hb2⟩
  rw [HRY.out]
  unfold rv gv
  have hz2 : w1.heap.size < w2.heap.size := by have := hb2.size; simp at this; omega
  have HB2' := Lib.hid (below_next HB1.out hb2)
  have HG2' := Lib.hid (HG1.out.later hb2)
  have HB2 : Hid (Below w.heap.size w (w2.alloc (boxOf h))) := Lib.hid (HB2'.out.alloc (by omega) _)
  have HG2 : Hid (Box (w2.alloc (boxOf h)) w1.heap.size g) := Lib.hid (HG2'.out.later ((Below.refl _ _).alloc (Nat.le_refl _) _))
  have HH2 := Lib.hid (Box.new w2 h)
  unfold boxOf at HB2 HG2 HH2
  clear hb hb2
  go_wp2_with fail
  refine (short2 x y _ _ HX.out HY.out (by simp) (by simp)).mono ?_
  rintro e w' ⟨rfl, rfl⟩
  have hnew := (Below.refl _ (w2.alloc (.cells #[.string (bs h.maj), .string (bs h.min), .string (bs h.pat), .string (bs h.kind), .string (bs h.pre)] 25))).alloc (Nat.le_refl _) (.cells #[.string (bs x), .string (bs y)] 9)
  have HB3 := Lib.hid (below_next HB2.out hnew)
  have HG3 := Lib.hid (HG2.out.later hnew)
  have HH3 := Lib.hid (HH2.out.later hnew)
  clear hnew HB1 HG1 HB2' HG2' HB2 HG2 HH2
  cases hs : shortB [x, y]
  · go_wp2
    go_ret
    exact ⟨rfl, HB3.out⟩
  by_cases h0 : sx = 1
  case neg =>
    have e0 : ((sx : Int) != 1) = true := by simp; omega
    go_wp2
    go_ret
    exact ⟨rfl, HB3.out⟩
  subst h0
  by_cases h0 : sy = 1
  case neg =>
    have e0 : ((sy : Int) != 1) = true := by simp; omega
    go_wp2
    go_ret
    exact ⟨rfl, HB3.out⟩
  subst h0
  obtain ⟨⟨c0, c1, c2, c3, c4⟩, f0, f1, f2, f3, f4⟩ := HG3.out
  go_wp2_with fail
  refine (nums_any g.min [50] _).mono ?_
  rintro e w' ⟨rfl, rfl⟩
  by_cases h3 : cmpB g.min [50] < 0
  · go_wp2
    go_ret
    exact ⟨rfl, HB3.out⟩
  have h80 : x.length ≤ 80 := by simp [shortB] at hs; exact hs.1
  obtain ⟨hp, hpa⟩ := fine_parts HRX.out
  obtain ⟨a, d, z, hm, hn, hv, d1, d2, ha, hc⟩ := from2 hpa.min h3
  have hlen := hpa.lens
  have hlz : a.length + z ≤ 79 := by have := hlen.2.1; rw [hm] at this; simp at this; omega
  have HP : Hid (∀ W, Calls Try.prog 27 #[.string (bs x)] W fun e w' => e = .returned (.string (bs (g.maj ++ 46 :: decR a d z))) ∧ Below W.heap.size W w') := by
    intro W
    exact prev27 x W (by omega) g.maj g.min (by omega) a d z ⟨g.pat, g.kind, g.pre, hp⟩ hm (by omega) hc d1 d2 ha
  have hdl : (decR a d z).length ≤ 200 := by
    unfold decR; split <;> simp <;> omega
  have hM := hpa.maj
  have hmn := hpa.min
  have HG0 : Hid (∀ W, Calls Try.prog 37 #[gv g] W fun e w' => e = .returned (.string (bs (g.maj ++ 46 :: g.min))) ∧ Below W.heap.size W w') := by
    intro W
    have hl : lang g = g.maj ++ 46 :: g.min := by
      unfold lang
      rw [if_neg]
      rintro (h9 | ⟨_, h9⟩)
      · exact good_ne hM.good h9
      · rw [h9] at hv; have : val [48] = 0 := rfl; omega
    have h9 := lang37 g W (by omega) (by omega)
    rw [hl] at h9
    exact h9
  generalize decR a d z = D at *
  have HLB : Hid ((g.maj ++ 46 :: D).length ≤ maxLen) := Lib.hid (by unfold maxLen; simp; omega)
  have HLL : Hid ((g.maj ++ 46 :: g.min).length ≤ maxLen) := Lib.hid (by unfold maxLen; simp; omega)
  have HRB := Lib.hid (read_lang hM hn)
  have hpb : parse (g.maj ++ 46 :: D) = ⟨g.maj, D, pat0 D, [], []⟩ := parse_lang hM hn
  have hpl : parse (g.maj ++ 46 :: g.min) = ⟨g.maj, g.min, pat0 g.min, [], []⟩ := parse_lang hM hmn
  have hless : cmpG (parse (g.maj ++ 46 :: D)) (parse x) = -1 := by
    rw [hpb, hp]; exact before_less hmn hn hv
  have hpy : parse y = h := (fine_parts HRY.out).1
  have hbet : h.kind = [] → cmpG (parse (g.maj ++ 46 :: D)) (parse y) < 0 → cmpG (parse y) (parse (g.maj ++ 46 :: g.min)) < 0 → h.maj = g.maj ∧ h.min = D := by
    intro hk b1 b2
    rw [hpb, hpy] at b1
    rw [hpl, hpy] at b2
    exact between_plain hmn hn hv HRY.out hk b1 b2
  have HLESS := Lib.hid hless
  have HBET := Lib.hid hbet
  generalize hv1 : cmpG (parse (g.maj ++ 46 :: D)) (parse y) = v1 at *
  generalize hv2 : cmpG (parse y) (parse (g.maj ++ 46 :: g.min)) = v2 at *
  have HV1 := Lib.hid hv1
  have HV2 := Lib.hid hv2
  clear hv1 hv2 hbet hless hpb hpl hpy hp hpa hm hn hv d1 d2 ha hc hlen hlz hM hmn hdl h80
  go_wp2_with fail
  refine (HP.out _).mono ?_
  rintro e w4 ⟨rfl, hb4⟩
  have HB4 := Lib.hid (below_next HB3.out hb4)
  have HG4 := Lib.hid (HG3.out.later hb4)
  have HH4 := Lib.hid (HH3.out.later hb4)
  clear hb4 HB3 HG3 HH3 c0 c1 c2 c3 c4 f0 f1 f2 f3 f4
  go_wp2_with fail
  refine (mc40 (mc_go _ _ _ HLB.out HX.out)).mono ?_
  rintro e w5 ⟨rfl, hb5⟩
  rw [HLESS.out]
  have HB5 := Lib.hid (below_next HB4.out hb5)
  have HG5 := Lib.hid (HG4.out.later hb5)
  have HH5 := Lib.hid (HH4.out.later hb5)
  clear hb5 HB4 HG4 HH4
  obtain ⟨⟨c0, c1, c2, c3, c4⟩, f0, f1, f2, f3, f4⟩ := HG5.out
  go_wp2_with fail
  refine (mc40 (mc_go _ _ _ HLB.out HY.out)).mono ?_
  rintro e w6 ⟨rfl, hb6⟩
  rw [HV1.out]
  have HB6 := Lib.hid (below_next HB5.out hb6)
  have HG6 := Lib.hid (HG5.out.later hb6)
  have HH6 := Lib.hid (HH5.out.later hb6)
  clear hb6 HB5 HG5 HH5 c0 c1 c2 c3 c4 f0 f1 f2 f3 f4
  obtain ⟨⟨c0, c1, c2, c3, c4⟩, f0, f1, f2, f3, f4⟩ := HG6.out
  by_cases hv1 : v1 < 0
  · go_wp2_with fail
    refine (HG0.out _).mono ?_
    rintro e w7 ⟨rfl, hb7⟩
    have HB7 := Lib.hid (below_next HB6.out hb7)
    have HG7 := Lib.hid (HG6.out.later hb7)
    have HH7 := Lib.hid (HH6.out.later hb7)
    clear hb7 HB6 HG6 HH6 c0 c1 c2 c3 c4 f0 f1 f2 f3 f4
    go_wp2_with fail
    refine (mc40 (mc_go _ _ _ HY.out HLL.out)).mono ?_
    rintro e w8 ⟨rfl, hb8⟩
    rw [HV2.out]
    have HB8 := Lib.hid (below_next HB7.out hb8)
    have HG8 := Lib.hid (HG7.out.later hb8)
    have HH8 := Lib.hid (HH7.out.later hb8)
    clear hb8 HB7 HG7 HH7
    by_cases hv2 : v2 < 0
    · have HV1' := Lib.hid hv1
      have HV2' := Lib.hid hv2
      go_wp2_with fail
      refine (read_any _ _ HLB.out).mono ?_
      rintro e wA ⟨rfl, hbA⟩
      rw [HRB.out]
      unfold rv gv
      have HBA := Lib.hid ((below_next HB8.out hbA).alloc (by have := HB8.out.size; have := hbA.size; omega) (boxOf ⟨g.maj, D, pat0 D, [], []⟩))
      have HHA := Lib.hid ((HH8.out.later hbA).later ((Below.refl _ _).alloc (Nat.le_refl _) (boxOf ⟨g.maj, D, pat0 D, [], []⟩)))
      unfold boxOf at HBA HHA
      clear hbA HB8 HG8 HH8
      obtain ⟨⟨c0, c1, c2, c3, c4⟩, f0, f1, f2, f3, f4⟩ := HHA.out
      by_cases hk : h.kind = []
      · obtain ⟨q1, q2⟩ := HBET.out hk hv1 hv2
        have k1 : (h.kind == []) = true := by simpa using hk
        have k2 : (h.maj == g.maj) = true := by simpa using q1
        have k3 : (h.min == D) = true := by simpa using q2
        have k4 : h.kind.isEmpty = true := by simpa using hk
        have k5 : (h.kind != []) = false := by simpa using hk
        clear hk q1 q2
        go_wp2
        go_ret
        exact ⟨rfl, HBA.out⟩
      · have k1 : (h.kind == []) = false := by simpa using hk
        have k4 : h.kind.isEmpty = false := by simpa using hk
        have k5 : (h.kind != []) = true := by simpa using hk
        clear hk
        go_wp2
        go_ret
        exact ⟨rfl, HBA.out⟩
    · go_wp2_with fail
      refine (read_any _ _ HLB.out).mono ?_
      rintro e wA ⟨rfl, hbA⟩
      rw [HRB.out]
      unfold rv gv
      have HBA := Lib.hid ((below_next HB8.out hbA).alloc (by have := HB8.out.size; have := hbA.size; omega) (boxOf ⟨g.maj, D, pat0 D, [], []⟩))
      have HHA := Lib.hid ((HH8.out.later hbA).later ((Below.refl _ _).alloc (Nat.le_refl _) (boxOf ⟨g.maj, D, pat0 D, [], []⟩)))
      unfold boxOf at HBA HHA
      clear hbA HB8 HG8 HH8
      go_wp2
      go_ret
      exact ⟨rfl, HBA.out⟩
  · go_wp2_with fail
    refine (read_any _ _ HLB.out).mono ?_
    rintro e wA ⟨rfl, hbA⟩
    rw [HRB.out]
    unfold rv gv
    have HBA := Lib.hid ((below_next HB6.out hbA).alloc (by have := HB6.out.size; have := hbA.size; omega) (boxOf ⟨g.maj, D, pat0 D, [], []⟩))
    have HHA := Lib.hid ((HH6.out.later hbA).later ((Below.refl _ _).alloc (Nat.le_refl _) (boxOf ⟨g.maj, D, pat0 D, [], []⟩)))
    unfold boxOf at HBA HHA
    clear hbA HB6 HG6 HH6 c0 c1 c2 c3 c4 f0 f1 f2 f3 f4
    go_wp2
    go_ret
    exact ⟨rfl, HBA.out⟩
end Go.Proofs.Ytdhibalpnccbiaa
