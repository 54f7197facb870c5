/- sort.pdqsort_func, at fewer than 50. -/
import Derived.Test.YtdhibalpnccbiaaSo4
import Derived.Test.YtdhibalpnccbiaaSo7
import Derived.Sort.Walk13
import Derived.Sort.AssemblyPlain
namespace Go.Proofs.Ytdhibalpnccbiaa
open Go.RowKit Go.Sort
set_option linter.unusedVariables false
section
variable {α : Type} [Inhabited α] {lt : α → α → Bool} {n B g : Nat} {lb : Array Value} {sf : Nat} {sb : Array Value} {R : Array α → World → Prop}
theorem break_any (E : SEnv lt n B g lb sf sb R) (a b : Nat) (d : Array α) (W : World) (hR : R d W) (hd : d.size = n) (hab : a + 8 ≤ b) (hb : b ≤ n) :
    Calls Try.prog 119 #[.agg #[.func (.func g) #[] lb, .func (.func sf) #[] sb], .int .i64 a, .int .i64 b] W fun e w' => e = .returned (.tuple #[]) ∧ R (breakPatterns d a b) w' ∧ Ext B W w' := by
  obtain ⟨l, rfl⟩ : ∃ l, b = a + l := ⟨b - a, by omega⟩
  exact break_go E a l d W hR hd hb (by omega)
theorem hintI_or (h : Hint) : (h = .increasing ∧ hintI h = 1) ∨ (h ≠ .increasing ∧ hintI h = 0) := by
  cases h <;> simp [hintI]
theorem hintI_ne (h : Hint) : hintI h ≠ 2 := by cases h <;> simp [hintI]
theorem break_size (hO : SWO lt) {d : Array α} {a b lim : Nat} {wb wp : Bool} (hab : a < b) (hb : b ≤ d.size) (hB : Go.Sort.Below lt a b d) : (rd lt d a b lim wb wp).d1.size = d.size :=
  (rd_facts (lt := lt) (limit := lim) (wb := wb) (wp := wp) hO partialInsertionSort_holds reverseRange_holds hab hb hB).1
set_option maxHeartbeats 12800000 in
set_option maxRecDepth 1000000 in
theorem pdq_any (E : SEnv lt n B g lb sf sb R) (hO : SWO lt) (h50 : n < 50) :
    ∀ (N a b limit : Nat) (d : Array α) (W : World), b - a < N → R d W → d.size = n → a ≤ b → b ≤ n → limit < 1000 → Go.Sort.Below lt a b d →
    Calls Try.prog 99 #[.agg #[.func (.func g) #[] lb, .func (.func sf) #[] sb], .int .i64 a, .int .i64 b, .int .i64 limit] W fun e w' => e = .returned (.tuple #[]) ∧ R (pdq lt d a b limit true true) w' ∧ Ext B W w' := by
  intro N
  induction N with
  | zero => intro _ _ _ _ _ h; exact absurd h (Nat.not_lt_zero _)
  | succ N ih =>
    intro a b limit d W hN hR hd hab hb hlimit hBel0
    have eg := E.enters
    have hlow := E.low _ _ hR
    have HA := Lib.hid (At.new E hR 90)
    have HE := Lib.hid E
    have HLOW := Lib.hid hlow
    have HSZ := Lib.hid hd
    have HBEL := Lib.hid hBel0
    clear hR hlow hd hBel0
    go_enter Try.func99, Try.ntmps99
    go_wp2
    go_loopg [1, 2, 3, 8, 9] (b - a) (fun k s1 s2 s3 s8 s9 wr => ∃ (a' b' lim : Nat) (wb wp : Bool) (dk : Array α), s1 = .int .i64 a' ∧ s2 = .int .i64 b' ∧ s3 = .int .i64 lim ∧ s8 = .bool wb ∧ s9 = .bool wp ∧
      a' ≤ b' ∧ b' ≤ n ∧ b' - a' ≤ k ∧ k ≤ b - a ∧ lim ≤ limit ∧ Hid (dk.size = n) ∧ Hid (Go.Sort.Below lt a' b' dk) ∧ Hid (At R B W.heap.size g lb sf sb W dk wr) ∧ Hid (pdq lt dk a' b' lim wb wp = pdq lt d a b limit true true))
    case atStart => exact ⟨a, b, limit, true, true, d, rfl, rfl, rfl, rfl, rfl, hab, hb, Nat.le_refl _, Nat.le_refl _, Nat.le_refl _, HSZ, HBEL, HA, Lib.hid rfl⟩
    case round =>
      obtain ⟨a', b', lim, wb, wp, dk, rfl, rfl, rfl, rfl, rfl, hab', hb', hk, hkN, hlim, HS, HB, HAt, A⟩ := hrel
      clear HA
      obtain ⟨c0, c1⟩ := HAt.out.box
      by_cases h12 : b' - a' ≤ 12
      · have h12z : (b' : Int) - (a' : Int) ≤ 12 := by omega
        have hc := Lib.hid (ins_any E a' b' dk wr HAt.out.row HS.out hab' hb')
        go_wp2_with (go_at_call 117; refine hc.out.mono ?_; rintro e w1 ⟨rfl, hr, he⟩)
        (try simp only [Exit.inBlock, Exit.then]); refine bodyPost_ret (results_none rfl _ _ _) rfl ?_
        exact ⟨rfl, by rw [← A.out, pdq_small h12]; exact hr, HAt.out.ext.trans he⟩
      · have h12z : ¬ ((b' : Int) - (a' : Int) ≤ 12) := by omega
        by_cases hl0 : lim = 0
        · subst hl0
          have hc := Lib.hid (heap_any E a' b' dk wr HAt.out.row HS.out hab' hb')
          go_wp2_with (go_at_call 118; refine hc.out.mono ?_; rintro e w1 ⟨rfl, hr, he⟩)
          (try simp only [Exit.inBlock, Exit.then]); refine bodyPost_ret (results_none rfl _ _ _) rfl ?_
          exact ⟨rfl, by rw [← A.out, pdq_heap h12 rfl]; exact hr, HAt.out.ext.trans he⟩
        · have hl0z : ¬ ((lim : Int) = 0) := by omega
          have hfs := rd_facts (lt := lt) (limit := lim) (wb := wb) (wp := wp) hO partialInsertionSort_holds reverseRange_holds (show a' < b' by omega) (show b' ≤ dk.size by have := HS.out; omega) HB.out
          obtain ⟨s1, B1, hc1, s2, B2, hpv, s3, B3⟩ := hfs
          have HS1 := Lib.hid (s1.trans HS.out)
          have HS2 := Lib.hid (s2.trans HS.out)
          have HS3 := Lib.hid (s3.trans HS.out)
          have HB3 := Lib.hid B3
          have HPV := Lib.hid hpv
          clear s1 B1 hc1 s2 B2 hpv s3 B3
          -- 'if !wasBalanced'
          go_upto_if 35 with fail
          go_cut [3] from 19 (fun s3 wc => s3 = .int .i64 (rd lt dk a' b' lim wb wp).lim ∧ Hid (At R B W.heap.size g lb sf sb W (rd lt dk a' b' lim wb wp).d1 wc))
          case first =>
            cases wb
            · have hc := Lib.hid (break_any E a' b' dk wr HAt.out.row HS.out (by omega) hb')
              go_wp2_with (go_at_call 119; refine hc.out.mono ?_; rintro e w1 ⟨rfl, hr, he⟩)
              have HAt1 := Lib.hid (HAt.out.step HLOW.out hr he)
              clear hr he
              go_meet
              case rel =>
                refine ⟨?_, HAt1⟩
                show Value.int .i64 ((lim : Int) - 1) = Value.int .i64 ((lim - 1 : Nat) : Int)
                congr 1
                omega
            · go_wp2_with fail
              go_meet
              case rel => exact ⟨rfl, HAt⟩
          case rest =>
            obtain ⟨rfl, HAt1⟩ := hcut
            clear c0 c1 HAt
            obtain ⟨c0, c1⟩ := HAt1.out.box
            have hc17 : Hid (Calls Try.prog 120 #[.agg #[.func (.func g) #[] lb, .func (.func sf) #[] sb], .int .i64 a', .int .i64 b'] wc fun e w' => e = .returned (.tuple #[.int .i64 (rd lt dk a' b' lim wb wp).c.1, .int .i64 (hintI (rd lt dk a' b' lim wb wp).c.2)]) ∧ NotDec (rd lt dk a' b' lim wb wp).c.2 ∧ R (rd lt dk a' b' lim wb wp).d1 w' ∧ Ext B wc w') :=
              Lib.hid (pivot_any E a' b' (rd lt dk a' b' lim wb wp).d1 wc HAt1.out.row HS1.out (by omega) (by omega) hb')
            have hne2 : ¬ hintI (rd lt dk a' b' lim wb wp).c.2 = 2 := hintI_ne _
            go_upto_region 16 with (go_at_call 120; refine hc17.out.mono ?_; rintro e w2 ⟨rfl, hnd, hr2, he2⟩)
            have HAt2 := Lib.hid (HAt1.out.step HLOW.out hr2 he2)
            obtain ⟨e2, epv, eht⟩ := rd_not (lt := lt) (d := dk) (a := a') (b := b') (limit := lim) (wb := wb) (wp := wp) hnd
            have HD2 := Lib.hid e2
            have HPVE := Lib.hid epv
            have HHT := Lib.hid eht
            clear hr2 he2 c0 c1 e2 epv eht hnd HAt1 hc17
            obtain ⟨c0, c1⟩ := HAt2.out.box
            -- 'wasBalanced && wasPartitioned && hint == increasingHint'
            go_cut [68] from 19 (fun s68 wx => s68 = .bool (wb && wp && decide ((rd lt dk a' b' lim wb wp).hint = .increasing)) ∧ wx = w2)
            case first =>
              rcases hintI_or (rd lt dk a' b' lim wb wp).c.2 with ⟨hi1, hi2⟩ | ⟨hi1, hi2⟩ <;> cases wb <;> cases wp <;>
                (have hi3 := hi1
                 rw [← HHT.out] at hi3
                 have HI3 := Lib.hid hi3
                 clear hi1 hi3
                 go_wp2_with fail
                 go_meet
                 exact ⟨by simp [HI3.out], rfl⟩)
            case rest =>
              obtain ⟨rfl, rfl⟩ := hcut
              go_upto_if 68 with fail
              go_cut [] from 19 (fun wx => Hid ((rd lt dk a' b' lim wb wp).pi.2 = false) ∧ Hid (At R B W.heap.size g lb sf sb W (rd lt dk a' b' lim wb wp).pi.1 wx))
              case first =>
                cases h68 : (wb && wp && decide ((rd lt dk a' b' lim wb wp).hint = .increasing))
                · have epi := Lib.hid (rd_pi_no h68)
                  go_wp2_with fail
                  go_meet
                  case rel => exact ⟨Lib.hid (by rw [epi.out]), Lib.hid (by rw [epi.out]; show At R B W.heap.size g lb sf sb W (rd lt dk a' b' lim wb wp).d2 _; rw [HD2.out]; exact HAt2.out)⟩
                · have epi := Lib.hid (rd_pi_yes h68)
                  have hr2 := HAt2.out.row
                  rw [← HD2.out] at hr2
                  have hc19 := partial_any E a' b' (rd lt dk a' b' lim wb wp).d2 _ hr2 HS2.out (by omega) (by omega) hb'
                  rw [← epi.out] at hc19
                  clear hr2
                  have HC19 := Lib.hid hc19
                  clear hc19
                  go_wp2_with (go_at_call 122; refine HC19.out.mono ?_; rintro e w4 ⟨rfl, hr4, he4⟩)
                  all_goals first
                    | (have hp2 : (rd lt dk a' b' lim wb wp).pi.2 = false := by assumption
                       have HP2 := Lib.hid hp2
                       have HAt4 := Lib.hid (HAt2.out.step HLOW.out hr4 he4)
                       clear hr4 he4
                       go_meet
                       exact ⟨HP2, HAt4⟩)
                    | (have hp2 : (rd lt dk a' b' lim wb wp).pi.2 = true := by assumption
                       (try simp only [Exit.inBlock, Exit.then]); refine bodyPost_ret (results_none rfl _ _ _) rfl ?_
                       exact ⟨rfl, by rw [← A.out, pdq_done h12 hl0 hp2]; exact hr4, HAt2.out.ext.trans he4⟩)
              case rest =>
                obtain ⟨HPI, HAt5⟩ := hcut
                clear c0 c1 HAt2
                obtain ⟨c0, c1⟩ := HAt5.out.box
                go_upto_region 18 with fail
                go_cut [83] from 19 (fun s83 wy => s83 = .bool (decide (a' > 0) && !lt (rd lt dk a' b' lim wb wp).pi.1[a' - 1]! (rd lt dk a' b' lim wb wp).pi.1[(rd lt dk a' b' lim wb wp).pivot]!) ∧ Hid (At R B W.heap.size g lb sf sb W (rd lt dk a' b' lim wb wp).pi.1 wy))
                case first =>
                  rcases Nat.eq_zero_or_pos a' with ha0 | ha0
                  · have ha0z : decide ((a' : Int) > 0) = false := decide_eq_false (by omega)
                    go_wp2_with fail
                    go_meet
                    case rel => exact ⟨by simp [ha0], HAt5⟩
                  · have ha0z : (a' : Int) > 0 := by omega
                    have hl := HE.out.less (rd lt dk a' b' lim wb wp).pi.1 _ (a' - 1) (rd lt dk a' b' lim wb wp).pivot HAt5.out.row HS3.out (by omega) (by have := HPV.out; omega)
                    rw [show ((a' - 1 : Nat) : Int) = (a' : Int) - 1 by omega, HPVE.out] at hl
                    cases hlv : lt (rd lt dk a' b' lim wb wp).pi.1[a' - 1]! (rd lt dk a' b' lim wb wp).pi.1[(rd lt dk a' b' lim wb wp).c.1]! <;>
                      (rw [hlv] at hl
                       have HL := Lib.hid hl
                       have HLV := Lib.hid hlv
                       clear hl hlv
                       go_wp2_with fail
                       refine HL.out.mono ?_
                       rintro e w' ⟨rfl, hr, he⟩
                       have HAt6 := Lib.hid (HAt5.out.step HLOW.out hr he)
                       clear hr he
                       go_wp2_with fail
                       go_meet
                       exact ⟨by rw [HPVE.out, HLV.out]; simp [ha0], HAt6⟩)
                case rest =>
                  obtain ⟨rfl, HAt6⟩ := hcut
                  clear c0 c1 HAt5
                  obtain ⟨c0, c1⟩ := HAt6.out.box
                  cases h87 : (decide (a' > 0) && !lt (rd lt dk a' b' lim wb wp).pi.1[a' - 1]! (rd lt dk a' b' lim wb wp).pi.1[(rd lt dk a' b' lim wb wp).pivot]!)
                  · obtain ⟨mid, ap, d4, hx⟩ : ∃ mid ap d4, partition lt (rd lt dk a' b' lim wb wp).pi.1 a' b' (rd lt dk a' b' lim wb wp).pivot = (mid, ap, d4) := ⟨(partition lt (rd lt dk a' b' lim wb wp).pi.1 a' b' (rd lt dk a' b' lim wb wp).pivot).1, (partition lt (rd lt dk a' b' lim wb wp).pi.1 a' b' (rd lt dk a' b' lim wb wp).pivot).2.1, (partition lt (rd lt dk a' b' lim wb wp).pi.1 a' b' (rd lt dk a' b' lim wb wp).pivot).2.2, rfl⟩
                    obtain ⟨r1, r2, r3, r4, r5, r6, r7⟩ := round_part hO (partition_holds lt) HPV.out.1 HPV.out.2 (show b' ≤ (rd lt dk a' b' lim wb wp).pi.1.size by have := HS3.out; omega) HB3.out hx
                    have hc22 := part_any E a' b' (rd lt dk a' b' lim wb wp).pivot (rd lt dk a' b' lim wb wp).pi.1 _ HAt6.out.row HS3.out HPV.out.1 HPV.out.2 hb'
                    rw [hx, HPVE.out] at hc22
                    have HC22 := Lib.hid hc22
                    have X := Lib.hid hx
                    have H87 := Lib.hid h87
                    have HB4 := Lib.hid (And.intro r4 (And.intro r5 (And.intro r6 r7)))
                    have HS4 := Lib.hid (r3.trans HS3.out)
                    clear hx hc22 r3 r4 r5 r6 r7
                    go_upto_if 109 with (go_at_call 124; refine HC22.out.mono ?_; rintro e w7 ⟨rfl, hr7, he7⟩)
                    have HAt7 := Lib.hid (HAt6.out.step HLOW.out hr7 he7)
                    clear hr7 he7 c0 c1 HAt6 h87
                    obtain ⟨c0, c1⟩ := HAt7.out.box
                    by_cases h4 : mid - a' < b' - mid
                    · have h4z : (mid : Int) - (a' : Int) < (b' : Int) - (mid : Int) := by omega
                      have hih := ih a' mid (rd lt dk a' b' lim wb wp).lim d4 w7 (by omega) HAt7.out.row HS4.out (by omega) (by omega) (Nat.lt_of_le_of_lt (Nat.le_trans rd_lim_le hlim) hlimit) HB4.out.1
                      have HIH := Lib.hid hih
                      clear hih
                      obtain ⟨pL, sL⟩ := pdq_sorts lt hO d4 a' mid (rd lt dk a' b' lim wb wp).lim true true (by omega) (by have := HS4.out; omega) HB4.out.1
                      have hbl := (HB4.out.2.2.1 _ pL sL).1
                      have HBL := Lib.hid hbl
                      have hsz := pL.1
                      have HSL : Hid ((pdq lt d4 a' mid (rd lt dk a' b' lim wb wp).lim true true).size = n) := Lib.hid (hsz.trans HS4.out)
                      clear pL sL hbl hsz
                      have HEQ2 : Hid (pdq lt (pdq lt d4 a' mid (rd lt dk a' b' lim wb wp).lim true true) (mid + 1) b' (rd lt dk a' b' lim wb wp).lim (decide (mid - a' ≥ (b' - a') / 8)) ap = pdq lt d a b limit true true) := Lib.hid (by rw [← A.out, pdq_left h12 hl0 HPI.out H87.out (by rw [X.out]; exact ⟨r1, r2⟩) (by rw [X.out]; exact h4), X.out])
                      go_wp2_with (go_at_call 99; refine HIH.out.mono ?_; rintro e w8 ⟨rfl, hr8, he8⟩)
                      have HAt8 := Lib.hid (HAt7.out.step HLOW.out hr8 he8)
                      clear hr8 he8
                      go_roundg (b' - ((mid + 1)))
                      case measure => omega
                      case rel => exact ⟨(mid + 1), b', (rd lt dk a' b' lim wb wp).lim, decide (mid - a' ≥ (b' - a') / 8), ap, pdq lt d4 a' mid (rd lt dk a' b' lim wb wp).lim true true, (by simp), rfl, rfl, congrArg Value.bool (eighth (by omega) (by omega)), rfl, by omega, by omega, Nat.le_refl _, by omega, Nat.le_trans rd_lim_le hlim, HSL, HBL, HAt8, HEQ2⟩
                    · have h4z : ¬ ((mid : Int) - (a' : Int) < (b' : Int) - (mid : Int)) := by omega
                      have hih := ih (mid + 1) b' (rd lt dk a' b' lim wb wp).lim d4 w7 (by omega) HAt7.out.row HS4.out (by omega) (by omega) (Nat.lt_of_le_of_lt (Nat.le_trans rd_lim_le hlim) hlimit) HB4.out.2.1
                      rw [show ((mid + 1 : Nat) : Int) = (mid : Int) + 1 by omega] at hih
                      have HIH := Lib.hid hih
                      clear hih
                      obtain ⟨pL, sL⟩ := pdq_sorts lt hO d4 (mid + 1) b' (rd lt dk a' b' lim wb wp).lim true true (by omega) (by have := HS4.out; omega) HB4.out.2.1
                      have hbl := (HB4.out.2.2.2 _ pL sL).1
                      have HBL := Lib.hid hbl
                      have hsz := pL.1
                      have HSL : Hid ((pdq lt d4 (mid + 1) b' (rd lt dk a' b' lim wb wp).lim true true).size = n) := Lib.hid (hsz.trans HS4.out)
                      clear pL sL hbl hsz
                      have HEQ2 : Hid (pdq lt (pdq lt d4 (mid + 1) b' (rd lt dk a' b' lim wb wp).lim true true) a' mid (rd lt dk a' b' lim wb wp).lim (decide (b' - mid ≥ (b' - a') / 8)) ap = pdq lt d a b limit true true) := Lib.hid (by rw [← A.out, pdq_right h12 hl0 HPI.out H87.out (by rw [X.out]; exact ⟨r1, r2⟩) (by rw [X.out]; exact h4), X.out])
                      go_wp2_with (go_at_call 99; refine HIH.out.mono ?_; rintro e w8 ⟨rfl, hr8, he8⟩)
                      have HAt8 := Lib.hid (HAt7.out.step HLOW.out hr8 he8)
                      clear hr8 he8
                      go_roundg (mid - (a'))
                      case measure => omega
                      case rel => exact ⟨a', mid, (rd lt dk a' b' lim wb wp).lim, decide (b' - mid ≥ (b' - a') / 8), ap, pdq lt d4 (mid + 1) b' (rd lt dk a' b' lim wb wp).lim true true, (by simp), rfl, rfl, congrArg Value.bool (eighth (by omega) (by omega)), rfl, by omega, by omega, Nat.le_refl _, by omega, Nat.le_trans rd_lim_le hlim, HSL, HBL, HAt8, HEQ2⟩
                  · have h87' := h87
                    simp only [Bool.and_eq_true, decide_eq_true_eq, Bool.not_eq_true'] at h87'
                    obtain ⟨mid, d4, hx⟩ : ∃ mid d4, partitionEqual lt (rd lt dk a' b' lim wb wp).pi.1 a' b' (rd lt dk a' b' lim wb wp).pivot = (mid, d4) := ⟨(partitionEqual lt (rd lt dk a' b' lim wb wp).pi.1 a' b' (rd lt dk a' b' lim wb wp).pivot).1, (partitionEqual lt (rd lt dk a' b' lim wb wp).pi.1 a' b' (rd lt dk a' b' lim wb wp).pivot).2, rfl⟩
                    obtain ⟨r1, r2, r3, r4, _⟩ := round_eq hO (partitionEqual_holds lt) h87'.1 HPV.out.1 HPV.out.2 (show b' ≤ (rd lt dk a' b' lim wb wp).pi.1.size by have := HS3.out; omega) HB3.out h87'.2 hx
                    have hc21 := parteq_any E a' b' (rd lt dk a' b' lim wb wp).pivot (rd lt dk a' b' lim wb wp).pi.1 _ HAt6.out.row HS3.out HPV.out.1 HPV.out.2 hb'
                    rw [hx, HPVE.out] at hc21
                    have HC21 := Lib.hid hc21
                    have HEQ2 : Hid (pdq lt d4 mid b' (rd lt dk a' b' lim wb wp).lim wb wp = pdq lt d a b limit true true) := Lib.hid (by rw [← A.out, pdq_eq h12 hl0 HPI.out h87 (by rw [hx]; exact ⟨r1, r2⟩), hx])
                    have HB4 := Lib.hid r4
                    have HS4 := Lib.hid (r3.trans HS3.out)
                    clear hx hc21 r3 r4 h87'
                    go_wp2_with (go_at_call 123; refine HC21.out.mono ?_; rintro e w7 ⟨rfl, hr7, he7⟩)
                    have HAt7 := Lib.hid (HAt6.out.step HLOW.out hr7 he7)
                    clear hr7 he7
                    go_roundg (b' - mid)
                    case measure => omega
                    case rel => exact ⟨mid, b', (rd lt dk a' b' lim wb wp).lim, wb, wp, d4, rfl, rfl, rfl, rfl, rfl, r2, hb', Nat.le_refl _, by omega, Nat.le_trans rd_lim_le hlim, HS4, HB4, HAt7, HEQ2⟩
end
end Go.Proofs.Ytdhibalpnccbiaa
