/- impl.ModSort: a copy, sorted, and copied again. -/
import Derived.Test.YtdhibalpnccbiaaSoR
import Derived.Below
import Derived.OwnWalk
import Derived.Laws.StructEq
import Derived.Test.YtdhibalpnccbiaaSpc
import Derived.Test.YtdhibalpnccbiaaSmall
import Derived.Deep.RegionHeld3
namespace Go.Proofs.Ytdhibalpnccbiaa
open Go.RowKit
set_option linter.unusedVariables false
/-- The list of versions that begins at p. -/
structure Lst (W : World) (p : Option Addr) (d : Array Ver) : Prop where
  cells : ∀ i, i < d.size → ∃ b o, p = some ⟨b, o, none⟩ ∧ W.cell? ⟨b, o + i * 2, none⟩ = some (.string (bs d[i]!.1)) ∧ W.cell? ⟨b, o + i * 2 + 1, none⟩ = some (.string (bs d[i]!.2))
theorem Lst.later {W W' : World} {p : Option Addr} {d : Array Ver} (h : Lst W p d) (hb : Go.RowKit.Below W.heap.size W W') : Lst W' p d :=
  ⟨fun i hi => by
    obtain ⟨b, o, hp, h1, h2⟩ := h.cells i hi
    have hl : b < W.heap.size := World.block_lt_of_cell? _ _ h1
    exact ⟨b, o, hp, (hb.cell (p := ⟨b, o + i * 2, none⟩) hl).trans h1, (hb.cell (p := ⟨b, o + i * 2 + 1, none⟩) hl).trans h2⟩⟩
theorem Lst.of_holds {W : World} {blk : Nat} {d : Array Ver} (h : Go.Sort.HoldsK encV 2 W blk 0 d) : Lst W (some ⟨blk, 0, none⟩) d :=
  ⟨fun i hi => by
    have a := ver_cells h i hi
    exact ⟨blk, 0, rfl, by rw [Nat.zero_add]; exact a.1, by rw [Nat.zero_add]; exact a.2⟩⟩
/-- The first k elements, cell by cell. -/
def flat (d : Array Ver) (k : Nat) : List Value := ((d.toList.take k).map encV).flatten
theorem flat_succ (d : Array Ver) (k : Nat) (h : k < d.size) : flat d (k + 1) = flat d k ++ [.string (bs d[k]!.1), .string (bs d[k]!.2)] := by
  unfold flat
  rw [List.take_succ_eq_append_getElem (by simpa using h)]
  simp [encV, getElem!_pos d k h]
theorem flat_len (d : Array Ver) : ∀ k, k ≤ d.size → (flat d k).length = k * 2
  | 0, _ => by simp [flat]
  | k + 1, h => by
    rw [flat_succ d k (by omega), List.length_append, flat_len d k (by omega)]
    simp
    omega
theorem flat_at (d : Array Ver) : ∀ k, k ≤ d.size → ∀ i, i < k → (flat d k)[i * 2]? = some (.string (bs d[i]!.1)) ∧ (flat d k)[i * 2 + 1]? = some (.string (bs d[i]!.2))
  | 0, _, i, hi => absurd hi (Nat.not_lt_zero _)
  | k + 1, h, i, hi => by
    have hl := flat_len d k (by omega)
    rw [flat_succ d k (by omega)]
    by_cases e : i = k
    · subst e
      rw [List.getElem?_append_right (by omega), List.getElem?_append_right (by omega), hl]
      simp
    · rw [List.getElem?_append_left (by omega), List.getElem?_append_left (by omega)]
      exact flat_at d k (by omega) i (by omega)
theorem holds_own {W : World} {base e g n cap : Nat} {d : Array Ver} (hd : d.size = n) (h : W.ownsRow base e 2 (.slice (some ⟨g, 0, none⟩) n cap) n (flat d n)) : Go.Sort.HoldsK encV 2 W g 0 d := by
  intro t ht
  rw [Go.Sort.size_flatK] at ht
  rw [Go.Sort.get_flatK _ _ _ _ ht, Nat.zero_add]
  have hi : t / 2 < d.size := by omega
  refine ⟨?_, h.frozenAt t⟩
  rw [h.cellAt t (by omega)]
  have a := flat_at d n (by omega) (t / 2) (by omega)
  rcases Nat.mod_two_eq_zero_or_one t with e | e
  · rw [show t = t / 2 * 2 by omega, a.1, show (t / 2 * 2) / 2 = t / 2 by omega, show (t / 2 * 2) % 2 = 0 by omega]
    rfl
  · rw [show t = t / 2 * 2 + 1 by omega, a.2, show (t / 2 * 2 + 1) / 2 = t / 2 by omega, show (t / 2 * 2 + 1) % 2 = 1 by omega]
    rfl
theorem info66 : (Try.prog.info? 66).map (fun i => (i.zero, i.size, i.bytes)) = some (some (.agg #[.string ByteArray.empty, .string ByteArray.empty]), 2, 32) := by kernel_rfl
theorem info52 : (Try.prog.info? 52).map (fun i => (i.zero, i.size, i.bytes)) = some (some (.agg #[.string ByteArray.empty, .string ByteArray.empty]), 2, 32) := by kernel_rfl
theorem rel_app {w wr w1 : World} {B e e1 e2 : Nat} {v v' : Value} {k : Nat} {xs : List Value} {a b : Value} {c1 c2 : Array Value}
    (hs : w.heap.size ≤ B) (hsz : B ≤ wr.heap.size) (hown : wr.ownsRow B e 2 v k xs) (hnx : Go.RowKit.Below w.heap.size w wr)
    (hown' : w1.ownsRow B e 2 v' (k + 1) (xs ++ [a, b])) (hg : ((wr.alloc (.cells c1 e1)).alloc (.cells c2 e2)).grownBy w1 v.ownBlock) :
    w1.ownsRow B e 2 v' (k + 1) (xs ++ [a, b]) ∧ Go.RowKit.Below w.heap.size w w1 ∧ B ≤ w1.heap.size := by
  have h1 := (hnx.alloc (Nat.le_trans hs hsz) (.cells c1 e1))
  have h2 := h1.alloc (by simp; omega) (.cells c2 e2)
  refine ⟨hown', h2.grown hg (by simp; omega) (fun k hk => ?_), Nat.le_trans (by simp; omega) hg.size⟩
  have := hown.lt k hk
  omega
theorem under64 : Try.prog.underlying 64 = some (.slice 66) := by kernel_rfl
theorem under49 : Try.prog.underlying 49 = some (.slice 52) := by kernel_rfl
set_option maxHeartbeats 4000000 in
set_option maxRecDepth 1000000 in
theorem sort45 (p : Option Addr) (n c : Nat) (d : Array Ver) (W : World) (h : Lst W p d) (hd : d.size = n) (hn : n ≤ 24) (hg : ∀ i, i < n → Good d[i]!) :
    Calls Try.prog 45 #[.slice p n c] W fun e w' => ∃ g cap d', e = .returned (.slice (some ⟨g, 0, none⟩) n cap) ∧ Go.Sort.PermIn 0 n d d' ∧ Go.Sort.SortedIn vlt 0 n d' ∧ Lst w' (some ⟨g, 0, none⟩) d' ∧ Go.RowKit.Below W.heap.size W w' := by
  obtain ⟨iA, hiA, hzA0, hzA1, hzA2⟩ := info_parts info66
  obtain ⟨iB, hiB, hzB0, hzB1, hzB2⟩ := info_parts info52
  have HLSTA := Lib.hid h
  have HDA := Lib.hid hd
  have HG := Lib.hid hg
  have OWNA : Hid ((W.alloc (.cells #[] 66)).ownsRow W.heap.size 66 2 (.slice (some ⟨W.heap.size, 0, none⟩) 0 0) 0 (flat d 0)) := Lib.hid (World.ownsRow_made _ _ 0 (Nat.le_refl _) (Nat.zero_le _) rfl)
  have HNXA : Hid (Go.RowKit.Below W.heap.size W (W.alloc (.cells #[] 66))) := Lib.hid ((Go.RowKit.Below.refl _ _).alloc (Nat.le_refl _) _)
  have HBSA : Hid (W.heap.size ≤ (W.alloc (.cells #[] 66)).heap.size) := Lib.hid (by simp)
  clear h hd hg
  go_enter Try.func45, Try.ntmps45
  go_wp2
  go_loopw [3, 12] (fun v i wr => ∃ k : Nat, k ≤ n ∧ i = .int .i64 k ∧ wr.ownsRow W.heap.size 66 2 v k (flat d k) ∧ v ≠ .slice none 0 0 ∧ Go.RowKit.Below W.heap.size W wr ∧ W.heap.size ≤ wr.heap.size) (fun _ i _ => n - (intOf i).toNat)
  case atStart => exact ⟨0, Nat.zero_le _, rfl, OWNA.out, (by intro h; cases h), HNXA.out, HBSA.out⟩
  case round =>
    obtain ⟨k, hk, rfl, hown, hnil, hnx, hbs⟩ := hrel
    by_cases hlt : k < n
    · obtain ⟨b, o, hp, h1, h2⟩ := (HLSTA.out.later hnx).cells k (by have := HDA.out; omega)
      subst hp
      have HF := Lib.hid (flat_succ d k (by have := HDA.out; omega))
      have HFL := Lib.hid (flat_len d k (by have := HDA.out; omega))
      go_wp2_with (first
        | (at_builtin; refine wpList_append_own _ rfl _ _ 64 rfl W.heap.size 66 iA (.agg #[.string ByteArray.empty, .string ByteArray.empty]) 2 32 under64 hiA hzA0 hzA1 hzA2 rfl (by decide) _ _ _ rfl ((hown.alloc _).alloc _) ⟨wr.heap.size + 1, 0, none⟩ 1 1 [.string (bs d[k]!.1), .string (bs d[k]!.2)] rfl rfl ?A1 ?A2 ?A3 ?A4 ?A5 ?_)
        | go_in)
      case A1 =>
        intro j u hj
        match j, hj with
        | 0, hj => simp at hj; subst hj; simp [Addr.add]
        | 1, hj => simp at hj; subst hj; simp [Addr.add]
      case A2 => intro u hu; simp at hu; rcases hu with rfl | rfl <;> rfl
      case A3 => unfold maxLen; omega
      case A4 => omega
      case A5 => simp; omega
      · intro v' w1 hown' hgrow hn'
        have R := rel_app (Nat.le_refl _) hbs hown hnx hown' hgrow
        rw [← HF.out] at R
        have HR := Lib.hid R
        have HN : Hid (v' ≠ .slice none 0 0) := Lib.hid (by first | exact hn' | exact fun h => hnil (hn'.1 h).1)
        clear hown' hgrow hown hnx hnil hn' R h1 h2 hbs
        go_wp2
        go_roundw
        case rel => exact ⟨k + 1, by omega, by go_num, HR.out.1, HN.out, HR.out.2.1, HR.out.2.2⟩
        case measure => simp [intOf]; omega
    · have hkn : n = k := by omega
      subst hkn
      have HOWN := Lib.hid hown
      have HNIL := Lib.hid hnil
      have HNX := Lib.hid hnx
      clear hown hnil hnx hlt hk
      obtain ⟨g, cap, rfl, hbg⟩ : ∃ g cap, u3 = .slice (some ⟨g, 0, none⟩) n cap ∧ W.heap.size ≤ g := by
        rcases HOWN.out.2 with ⟨e, _⟩ | ⟨g, cap, cur, e, hb, _⟩
        · exact absurd e HNIL.out
        · exact ⟨g, cap, e, hb⟩
      have hgl := (HOWN.out.lt g rfl).2
      have HBG := Lib.hid hbg
      have HH := Lib.hid (holds_own HDA.out HOWN.out)
      have HMS := Lib.hid (modsort64 g n cap d wr HH.out HDA.out hn hgl HG.out)
      clear hbg hgl HOWN HNIL HH OWNA HNXA HBSA hbs HLSTA
      go_wp2_with fail
      refine HMS.out.mono ?_
      rintro e w1 ⟨rfl, hsd⟩
      obtain ⟨d', hp, hs, hh, hb⟩ := hsd
      have HPS := Lib.hid (And.intro hp hs)
      have HDB := Lib.hid (hp.1.trans HDA.out)
      have HNX1 := Lib.hid (HNX.out.trans (hb.mono HBG.out))
      have HLSTB := Lib.hid (Lst.of_holds hh)
      have OWNB : Hid ((w1.alloc (.cells #[] 52)).ownsRow w1.heap.size 52 2 (.slice (some ⟨w1.heap.size, 0, none⟩) 0 0) 0 (flat d' 0)) := Lib.hid (World.ownsRow_made _ _ 0 (Nat.le_refl _) (Nat.zero_le _) rfl)
      have HNXB : Hid (Go.RowKit.Below w1.heap.size w1 (w1.alloc (.cells #[] 52))) := Lib.hid ((Go.RowKit.Below.refl _ _).alloc (Nat.le_refl _) _)
      have HBSB : Hid (w1.heap.size ≤ (w1.alloc (.cells #[] 52)).heap.size) := Lib.hid (by simp)
      clear hp hs hh hb HMS HNX
      go_wp2
      go_loopw [6, 26] (fun v i wr => ∃ k : Nat, k ≤ n ∧ i = .int .i64 k ∧ wr.ownsRow w1.heap.size 52 2 v k (flat d' k) ∧ v ≠ .slice none 0 0 ∧ Go.RowKit.Below w1.heap.size w1 wr ∧ w1.heap.size ≤ wr.heap.size) (fun _ i _ => n - (intOf i).toNat)
      case atStart => exact ⟨0, Nat.zero_le _, rfl, OWNB.out, (by intro h; cases h), HNXB.out, HBSB.out⟩
      case round =>
        obtain ⟨k, hk, rfl, hown, hnil, hnx, hbs⟩ := hrel
        by_cases hlt : k < n
        · obtain ⟨b, o, hp, h1, h2⟩ := (HLSTB.out.later hnx).cells k (by have := HDB.out; omega)
          cases hp
          simp only [Nat.zero_add] at h1 h2
          have HF := Lib.hid (flat_succ d' k (by have := HDB.out; omega))
          have HFL := Lib.hid (flat_len d' k (by have := HDB.out; omega))
          go_wp2_with (first
            | (at_builtin; refine wpList_append_own _ rfl _ _ 49 rfl w1.heap.size 52 iB (.agg #[.string ByteArray.empty, .string ByteArray.empty]) 2 32 under49 hiB hzB0 hzB1 hzB2 rfl (by decide) _ _ _ rfl ((hown.alloc _).alloc _) ⟨wr.heap.size + 1, 0, none⟩ 1 1 [.string (bs d'[k]!.1), .string (bs d'[k]!.2)] rfl rfl ?B1 ?B2 ?B3 ?B4 ?B5 ?_)
            | go_in)
          case B1 =>
            intro j u hj
            match j, hj with
            | 0, hj => simp at hj; subst hj; simp [Addr.add]
            | 1, hj => simp at hj; subst hj; simp [Addr.add]
          case B2 => intro u hu; simp at hu; rcases hu with rfl | rfl <;> rfl
          case B3 => unfold maxLen; omega
          case B4 => omega
          case B5 => simp; omega
          · intro v' w1 hown' hgrow hn'
            have R := rel_app (Nat.le_refl _) hbs hown hnx hown' hgrow
            rw [← HF.out] at R
            have HR := Lib.hid R
            have HN : Hid (v' ≠ .slice none 0 0) := Lib.hid (by first | exact hn' | exact fun h => hnil (hn'.1 h).1)
            clear hown' hgrow hown hnx hnil hn' R h1 h2 hbs
            go_wp2
            go_roundw
            case rel => exact ⟨k + 1, by omega, by go_num, HR.out.1, HN.out, HR.out.2.1, HR.out.2.2⟩
            case measure => simp [intOf]; omega
        · have hkn : n = k := by omega
          subst hkn
          have HOWN := Lib.hid hown
          have HNIL := Lib.hid hnil
          have HNX := Lib.hid hnx
          clear hown hnil hnx hlt hk
          obtain ⟨g2, cap2, rfl⟩ : ∃ g2 cap2, u6 = .slice (some ⟨g2, 0, none⟩) n cap2 := by
            rcases HOWN.out.2 with ⟨e, _⟩ | ⟨g2, cap2, cur2, e, _⟩
            · exact absurd e HNIL.out
            · exact ⟨g2, cap2, e⟩
          have HL2 := Lib.hid (Lst.of_holds (holds_own HDB.out HOWN.out))
          have HZ := Lib.hid (HNX1.out.trans (HNX.out.mono HNX1.out.size))
          go_wp2
          go_ret
          exact ⟨g2, cap2, d', rfl, HPS.out.1, HPS.out.2, HL2.out, HZ.out⟩
end Go.Proofs.Ytdhibalpnccbiaa

namespace Go.Proofs.Ytdhibalpnccbiaa
open Go.RowKit
set_option linter.unusedVariables false
theorem fits63 (a b : Bytes) (W : World) (ha : a.length ≤ maxLen) (hb : b.length ≤ maxLen) :
    Calls Try.prog 63 #[.agg #[.string (bs a), .string (bs b)]] W fun e w' => ∃ r : Bool, e = .returned (.bool r) ∧ Go.RowKit.Below W.heap.size W w' := by
  have HB := Lib.hid ((Go.RowKit.Below.refl W.heap.size W).alloc (Nat.le_refl _) (.cells #[.string (bs a), .string (bs b)] 52))
  unfold maxLen at ha hb
  go_enter Try.func63, Try.ntmps63
  go_wp2
  all_goals (go_ret; exact ⟨_, rfl, HB.out⟩)
/-- Texts no longer than a text may be. -/
def Lens (d : Array Ver) : Prop := ∀ i, i < d.size → d[i]!.1.length ≤ maxLen ∧ d[i]!.2.length ≤ maxLen
set_option maxHeartbeats 2000000 in
set_option maxRecDepth 100000 in
theorem fits43 (p : Option Addr) (n c : Nat) (d : Array Ver) (W : World) (h : Lst W p d) (hd : d.size = n) (hl : Lens d) (hn : n ≤ maxLen) :
    Calls Try.prog 43 #[.slice p n c] W fun e w' => ∃ r : Bool, e = .returned (.bool r) ∧ Go.RowKit.Below W.heap.size W w' := by
  have HL := Lib.hid h
  have HD := Lib.hid hd
  have HLE := Lib.hid hl
  have HB0 := Lib.hid (Go.RowKit.Below.refl W.heap.size W)
  unfold maxLen at hn
  clear h hd hl
  by_cases hbig : n ≤ 2147483647
  · have hb1 : ¬ (2147483647 : Int) < (n : Int) := by omega
    go_enter Try.func43, Try.ntmps43
    go_wp2
    go_loopw [10] (fun i wr => ∃ k : Nat, k ≤ n ∧ i = .int .i64 k ∧ Hid (Go.RowKit.Below W.heap.size W wr)) (fun i _ => n - (intOf i).toNat)
    case atStart => exact ⟨0, Nat.zero_le _, rfl, HB0⟩
    case round =>
      obtain ⟨k, hk, rfl, HNX⟩ := hrel
      by_cases hlt : k < n
      · obtain ⟨b, o, hp, h1, h2⟩ := (HL.out.later HNX.out).cells k (by have := HD.out; omega)
        subst hp
        have hll := HLE.out k (by have := HD.out; omega)
        have HF := Lib.hid (fun w => fits63 d[k]!.1 d[k]!.2 w hll.1 hll.2)
        have HNX2 := Lib.hid (HNX.out.alloc HNX.out.size (.cells #[.string (bs d[k]!.1), .string (bs d[k]!.2)] 52))
        clear hll
        go_wp2_with fail
        refine (HF.out _).mono ?_
        rintro e w' ⟨r, rfl, hb⟩
        have HNX3 := Lib.hid (HNX2.out.trans (hb.mono HNX2.out.size))
        clear hb h1 h2
        cases r with
        | true =>
          go_wp2
          go_roundw
          case rel => exact ⟨k + 1, by omega, by go_num, HNX3⟩
          case measure => simp [intOf]; omega
        | false =>
          go_wp2
          go_ret
          exact ⟨_, rfl, HNX3.out⟩
      · go_wp2
        go_ret
        exact ⟨_, rfl, HNX.out⟩
  · have hb1 : (2147483647 : Int) < (n : Int) := by omega
    go_enter Try.func43, Try.ntmps43
    go_wp2
    go_ret
    exact ⟨_, rfl, HB0.out⟩
def cntV (d : Array Ver) (v : Ver) (k : Nat) : Nat := ((d.toList.take k).filter (fun x => decide (x = v))).length
theorem cntV_le (d : Array Ver) (v : Ver) (k : Nat) : cntV d v k ≤ k := by
  unfold cntV
  exact Nat.le_trans (List.length_filter_le _ _) (by simp; omega)
theorem cntV_succ (d : Array Ver) (v : Ver) (k : Nat) (h : k < d.size) : cntV d v (k + 1) = cntV d v k + (if d[k]! = v then 1 else 0) := by
  unfold cntV
  rw [List.take_succ_eq_append_getElem (by simpa using h), List.filter_append, List.length_append]
  simp only [Array.getElem_toList, getElem!_pos d k h]
  by_cases e : d[k] = v <;> simp [e]
set_option maxHeartbeats 2000000 in
set_option maxRecDepth 100000 in
theorem count46 (p : Option Addr) (n c : Nat) (d : Array Ver) (v : Ver) (W : World) (h : Lst W p d) (hd : d.size = n) (hn : n ≤ 24) :
    Calls Try.prog 46 #[.slice p n c, .agg #[.string (bs v.1), .string (bs v.2)]] W fun e w' => e = .returned (.int .i64 (cntV d v n)) ∧ Go.RowKit.Below W.heap.size W w' := by
  have HL := Lib.hid h
  have HD := Lib.hid hd
  have HB0 := Lib.hid ((Go.RowKit.Below.refl W.heap.size W).alloc (Nat.le_refl _) (.cells #[.string (bs v.1), .string (bs v.2)] 52))
  have HV : Hid ((W.alloc (.cells #[.string (bs v.1), .string (bs v.2)] 52)).cell? ⟨W.heap.size, 0, none⟩ = some (.string (bs v.1)) ∧ (W.alloc (.cells #[.string (bs v.1), .string (bs v.2)] 52)).cell? ⟨W.heap.size, 1, none⟩ = some (.string (bs v.2))) := Lib.hid (by simp)
  clear h hd
  go_enter Try.func46, Try.ntmps46
  go_wp2
  go_loopw [5, 10] (fun q i wr => ∃ k : Nat, k ≤ n ∧ i = .int .i64 k ∧ q = .int .i64 (cntV d v k) ∧ Hid (Go.RowKit.Below W.heap.size W wr) ∧ Hid (wr.cell? ⟨W.heap.size, 0, none⟩ = some (.string (bs v.1)) ∧ wr.cell? ⟨W.heap.size, 1, none⟩ = some (.string (bs v.2)))) (fun _ i _ => n - (intOf i).toNat)
  case atStart => exact ⟨0, Nat.zero_le _, rfl, by simp [cntV], HB0, HV⟩
  case round =>
    obtain ⟨k, hk, rfl, rfl, HNX, HC⟩ := hrel
    by_cases hlt : k < n
    · obtain ⟨b, o, hp, h1, h2⟩ := (HL.out.later HNX.out).cells k (by have := HD.out; omega)
      subst hp
      have hs := cntV_succ d v k (by have := HD.out; omega)
      have hcl := cntV_le d v k
      obtain ⟨c0, c1⟩ := HC.out
      have hvl : W.heap.size < wr.heap.size := World.block_lt_of_cell? _ _ c0
      obtain ⟨x, hx⟩ : ∃ x, d[k]! = x := ⟨_, rfl⟩
      rw [hx] at h1 h2 hs
      clear hx
      by_cases e1 : x.1 = v.1
      · by_cases e2 : x.2 = v.2
        · have HS : Hid (cntV d v (k + 1) = cntV d v k + 1) := Lib.hid (by rw [hs, if_pos (Prod.ext e1 e2)])
          rw [e1] at h1
          rw [e2] at h2
          clear hs e1 e2
          have HB2 := Lib.hid (HNX.out.alloc HNX.out.size (.cells #[.string (bs v.1), .string (bs v.2)] 52))
          have HC2 : Hid ((wr.alloc (.cells #[.string (bs v.1), .string (bs v.2)] 52)).cell? ⟨W.heap.size, 0, none⟩ = some (.string (bs v.1)) ∧ (wr.alloc (.cells #[.string (bs v.1), .string (bs v.2)] 52)).cell? ⟨W.heap.size, 1, none⟩ = some (.string (bs v.2))) :=
            Lib.hid (by have ha := (Go.RowKit.Below.refl wr.heap.size wr).alloc (Nat.le_refl _) (.cells #[.string (bs v.1), .string (bs v.2)] 52); exact ⟨(ha.cell (p := ⟨W.heap.size, 0, none⟩) hvl).trans c0, (ha.cell (p := ⟨W.heap.size, 1, none⟩) hvl).trans c1⟩)
          go_wp2
          go_roundw
          case rel => exact ⟨k + 1, by omega, by go_num, by rw [HS.out] <;> rfl, HB2, HC2⟩
          case measure => simp [intOf]; omega
        · have HS : Hid (cntV d v (k + 1) = cntV d v k) := Lib.hid (by rw [hs, if_neg (fun h => e2 (congrArg Prod.snd h))]; rfl)
          rw [e1] at h1
          clear hs e1
          have HB2 := Lib.hid (HNX.out.alloc HNX.out.size (.cells #[.string (bs v.1), .string (bs x.2)] 52))
          have HC2 : Hid ((wr.alloc (.cells #[.string (bs v.1), .string (bs x.2)] 52)).cell? ⟨W.heap.size, 0, none⟩ = some (.string (bs v.1)) ∧ (wr.alloc (.cells #[.string (bs v.1), .string (bs x.2)] 52)).cell? ⟨W.heap.size, 1, none⟩ = some (.string (bs v.2))) :=
            Lib.hid (by have ha := (Go.RowKit.Below.refl wr.heap.size wr).alloc (Nat.le_refl _) (.cells #[.string (bs v.1), .string (bs x.2)] 52); exact ⟨(ha.cell (p := ⟨W.heap.size, 0, none⟩) hvl).trans c0, (ha.cell (p := ⟨W.heap.size, 1, none⟩) hvl).trans c1⟩)
          go_wp2
          go_roundw
          case rel => exact ⟨k + 1, by omega, by go_num, by rw [HS.out] <;> rfl, HB2, HC2⟩
          case measure => simp [intOf]; omega
      · have HS : Hid (cntV d v (k + 1) = cntV d v k) := Lib.hid (by rw [hs, if_neg (fun h => e1 (congrArg Prod.fst h))]; rfl)
        clear hs
        have HB2 := Lib.hid (HNX.out.alloc HNX.out.size (.cells #[.string (bs x.1), .string (bs x.2)] 52))
        have HC2 : Hid ((wr.alloc (.cells #[.string (bs x.1), .string (bs x.2)] 52)).cell? ⟨W.heap.size, 0, none⟩ = some (.string (bs v.1)) ∧ (wr.alloc (.cells #[.string (bs x.1), .string (bs x.2)] 52)).cell? ⟨W.heap.size, 1, none⟩ = some (.string (bs v.2))) :=
          Lib.hid (by have ha := (Go.RowKit.Below.refl wr.heap.size wr).alloc (Nat.le_refl _) (.cells #[.string (bs x.1), .string (bs x.2)] 52); exact ⟨(ha.cell (p := ⟨W.heap.size, 0, none⟩) hvl).trans c0, (ha.cell (p := ⟨W.heap.size, 1, none⟩) hvl).trans c1⟩)
        go_wp2
        go_roundw
        case rel => exact ⟨k + 1, by omega, by go_num, by rw [HS.out] <;> rfl, HB2, HC2⟩
        case measure => simp [intOf]; omega
    · have hkn : n = k := by omega
      subst hkn
      go_wp2
      go_ret
      exact ⟨rfl, HNX.out⟩
end Go.Proofs.Ytdhibalpnccbiaa

namespace Go.Proofs.Ytdhibalpnccbiaa
open Go.RowKit
set_option linter.unusedVariables false
theorem cntV_perm {n : Nat} {d d' : Array Ver} (hd : d.size = n) (h : Go.Sort.PermIn 0 n d d') (v : Ver) : cntV d' v n = cntV d v n := by
  obtain ⟨h1, _, h3⟩ := h
  have e1 : d'.extract 0 n = d' := by rw [← hd, ← h1, Array.extract_size]
  have e2 : d.extract 0 n = d := by rw [← hd, Array.extract_size]
  rw [e1, e2] at h3
  unfold cntV
  rw [List.take_of_length_le (by simp; omega), List.take_of_length_le (by simp; omega)]
  exact (h3.filter _).length_eq
theorem sorted_path {n : Nat} {d : Array Ver} (h : Go.Sort.SortedIn vlt 0 n d) (m : Nat) (hm : m + 1 < n) (e : d[m]!.1 ≠ d[m + 1]!.1) : Op.bytesLess d[m + 1]!.1 d[m]!.1 = false := by
  have hs := h m (m + 1) (Nat.zero_le _) (by omega) hm
  rw [vlt_path (fun x => e x.symm)] at hs
  rw [bytesLess_eq]; exact hs
theorem sorted_same {n : Nat} {d : Array Ver} (h : Go.Sort.SortedIn vlt 0 n d) (m : Nat) (hm : m + 1 < n) (e : d[m]!.1 = d[m + 1]!.1) : modC d[m + 1]!.1 d[m]!.2 d[m + 1]!.2 ≤ 0 := by
  have hs := h m (m + 1) (Nat.zero_le _) (by omega) hm
  rw [vlt_same e.symm, decide_eq_false_iff_not] at hs
  have hb := (ord_mod d[m + 1]!.1).back d[m]!.2 d[m + 1]!.2
  omega
theorem less_self (l : Bytes) : Op.bytesLess l l = false := by
  rw [bytesLess_eq]; exact decide_eq_false (List.lt_irrefl l)
theorem noStroke_of {l : Bytes} (h : inB l 47 = false) : noStroke l := by
  intro c hc
  unfold inB at h
  simp only [Bool.not_eq_false', List.all_eq_true] at h
  have := h c hc
  simpa [isNot] using this
/-- What the second loop's round holds: v's own block, and all from before the loop. -/
theorem keepv {w2 W W' : World} {b : Nat} {x y : Value} (h : W.cell? ⟨b, 0, none⟩ = some x ∧ W.cell? ⟨b, 1, none⟩ = some y ∧ Hid (Go.RowKit.Below w2.heap.size w2 W)) (hb : Go.RowKit.Below W.heap.size W W') :
    W'.cell? ⟨b, 0, none⟩ = some x ∧ W'.cell? ⟨b, 1, none⟩ = some y ∧ Hid (Go.RowKit.Below w2.heap.size w2 W') := by
  have hl : b < W.heap.size := World.block_lt_of_cell? _ _ h.1
  exact ⟨(hb.cell (p := ⟨b, 0, none⟩) hl).trans h.1, (hb.cell (p := ⟨b, 1, none⟩) hl).trans h.2.1, Lib.hid (h.2.2.out.trans (hb.mono h.2.2.out.size))⟩
theorem count_held {w2 W : World} {b : Nat} {x y : Value} {p : Option Addr} {n c : Nat} {d : Array Ver} (v : Ver) {z : Nat} (hz : cntV d v n = z) (hL : Lst w2 p d) (hd : d.size = n) (hn : n ≤ 24)
    (h : W.cell? ⟨b, 0, none⟩ = some x ∧ W.cell? ⟨b, 1, none⟩ = some y ∧ Hid (Go.RowKit.Below w2.heap.size w2 W)) :
    Calls Try.prog 46 #[.slice p n c, .agg #[.string (bs v.1), .string (bs v.2)]] W fun e w' => e = .returned (.int .i64 z) ∧ Go.RowKit.Below W.heap.size W w' := by
  subst hz
  exact count46 p n c d v W (hL.later h.2.2.out) hd hn
end Go.Proofs.Ytdhibalpnccbiaa

namespace Go.Proofs.Ytdhibalpnccbiaa
open Go.RowKit
set_option linter.unusedVariables false
theorem shortB_two (l m : Bytes) : shortB [l, m] = (decide (l.length ≤ 80) && decide (m.length ≤ 80)) := by simp [shortB]
theorem good_perm {n : Nat} {d d' : Array Ver} (hd : d.size = n) (h : Go.Sort.PermIn 0 n d d') (hg : ∀ i, i < n → Good d[i]!) : ∀ i, i < n → Good d'[i]! := by
  intro i hi
  obtain ⟨h1, _, h3⟩ := h
  have e1 : d'.extract 0 n = d' := by rw [← hd, ← h1, Array.extract_size]
  have e2 : d.extract 0 n = d := by rw [← hd, Array.extract_size]
  rw [e1, e2] at h3
  have hi' : i < d'.size := by omega
  rw [getElem!_pos d' i hi']
  have hm : d'[i] ∈ d'.toList := by simp
  rw [h3.mem_iff] at hm
  obtain ⟨j, hj, e⟩ := List.getElem_of_mem hm
  have hj' : j < d.size := by simpa using hj
  have := hg j (by omega)
  rw [getElem!_pos d j hj'] at this
  rw [← e]
  simpa using this
/-- What the last region holds. -/
theorem keep4 {w2 W W' : World} {b g o : Nat} {x y z u : Value} (h : W.cell? ⟨b, 0, none⟩ = some x ∧ W.cell? ⟨b, 1, none⟩ = some y ∧ W.cell? ⟨g, o, none⟩ = some z ∧ W.cell? ⟨g, o + 1, none⟩ = some u ∧ Hid (Go.RowKit.Below w2.heap.size w2 W)) (hb : Go.RowKit.Below W.heap.size W W') :
    W'.cell? ⟨b, 0, none⟩ = some x ∧ W'.cell? ⟨b, 1, none⟩ = some y ∧ W'.cell? ⟨g, o, none⟩ = some z ∧ W'.cell? ⟨g, o + 1, none⟩ = some u ∧ Hid (Go.RowKit.Below w2.heap.size w2 W') := by
  have hl : b < W.heap.size := World.block_lt_of_cell? _ _ h.1
  have hl2 : g < W.heap.size := World.block_lt_of_cell? _ _ h.2.2.1
  exact ⟨(hb.cell (p := ⟨b, 0, none⟩) hl).trans h.1, (hb.cell (p := ⟨b, 1, none⟩) hl).trans h.2.1, (hb.cell (p := ⟨g, o, none⟩) hl2).trans h.2.2.1, (hb.cell (p := ⟨g, o + 1, none⟩) hl2).trans h.2.2.2.1, Lib.hid (h.2.2.2.2.out.trans (hb.mono h.2.2.2.2.out.size))⟩
theorem less_other {a b : Bytes} (h : ¬ a = b) (hl : Op.bytesLess b a = false) : Op.bytesLess a b = true := by
  rw [bytesLess_eq] at hl ⊢
  have hb := ord_S.back b a
  by_cases e : a < b
  · simpa using e
  · have e2 : ¬ b < a := by simpa using hl
    unfold cmpS at hb
    simp only [h, e, e2, if_false] at hb
    have h3 : ¬ b = a := fun x => h x.symm
    simp only [h3, if_false] at hb
    omega
set_option maxHeartbeats 8000000 in
set_option maxRecDepth 100000 in
theorem law20 (p : Option Addr) (n c : Nat) (d : Array Ver) (W : World) (h : Lst W p d) (hd : d.size = n) (hl : Lens d) (hn : n ≤ maxLen) :
    Calls Try.prog 20 #[.slice p n c] W fun e w' => e = .returned (.bool true) ∧ Go.RowKit.Below W.heap.size W w' := by
  have HL := Lib.hid h
  have HD := Lib.hid hd
  have HLE := Lib.hid hl
  have HFIT := Lib.hid (fits43 p n c d W h hd hl hn)
  unfold maxLen at hn
  clear h hd hl
  go_enter Try.func20, Try.ntmps20
  go_wp2_with fail
  refine HFIT.out.mono ?_
  rintro e w1 ⟨r, rfl, hb⟩
  have HB1 := Lib.hid hb
  clear hb HFIT
  cases r with
  | false =>
    go_wp2
    go_ret
    exact ⟨rfl, HB1.out⟩
  | true =>
    by_cases h24 : n ≤ 24
    · have h24z : ¬ (24 : Int) < (n : Int) := by omega
      go_wp2
      go_loopw [16] (fun i wr => ∃ k : Nat, k ≤ n ∧ i = .int .i64 k ∧ Hid (Go.RowKit.Below W.heap.size W wr) ∧ Hid (∀ i, i < k → Good d[i]!)) (fun i _ => n - (intOf i).toNat)
      case atStart => exact ⟨0, Nat.zero_le _, rfl, HB1, Lib.hid (fun i hi => absurd hi (Nat.not_lt_zero _))⟩
      case round =>
        clear HB1
        obtain ⟨k, hk, rfl, HNX, HGD⟩ := hrel
        by_cases hlt : k < n
        · obtain ⟨b, o, hp, h1, h2⟩ := (HL.out.later HNX.out).cells k (by have := HD.out; omega)
          subst hp
          have hll := HLE.out k (by have := HD.out; omega)
          obtain ⟨x, hx⟩ : ∃ x, d[k]! = x := ⟨_, rfl⟩
          rw [hx] at h1 h2 hll
          have HX := Lib.hid hx
          have HLL := Lib.hid hll
          have HB2 := Lib.hid ((HNX.out.alloc HNX.out.size (.cells #[.string (bs x.1), .string (bs x.2)] 52)).alloc (by have := HNX.out.size; simp; omega) (.cells #[.string (bs x.1), .string (bs x.2)] 9))
          clear hx hll
          go_wp2_with fail
          refine (short2 x.1 x.2 _ _ HLL.out.1 HLL.out.2 (by simp) (by simp)).mono ?_
          rintro e w' ⟨rfl, rfl⟩
          cases hs : shortB [x.1, x.2] with
          | false =>
            go_wp2
            go_ret
            exact ⟨rfl, HB2.out⟩
          | true =>
            have HSH := Lib.hid hs
            clear hs
            go_wp2_with fail
            refine (in_any x.2 47 _ HLL.out.2 (by omega)).mono ?_
            rintro e w' ⟨rfl, rfl⟩
            cases hin : inB x.2 47 with
            | true =>
              go_wp2
              go_ret
              exact ⟨rfl, HB2.out⟩
            | false =>
              have HG2 : Hid (∀ i, i < k + 1 → Good d[i]!) := Lib.hid (fun i hi => by
                by_cases e : i = k
                · subst e
                  rw [HX.out]
                  have hs := HSH.out
                  rw [shortB_two, Bool.and_eq_true, decide_eq_true_eq, decide_eq_true_eq] at hs
                  exact ⟨hs.1, hs.2, noStroke_of hin⟩
                · exact HGD.out i (by omega))
              clear hin
              go_wp2
              go_roundw
              case rel => exact ⟨k + 1, by omega, by go_num, HB2, HG2⟩
              case measure => simp [intOf]; omega
        · have hkn : n = k := by omega
          subst hkn
          have HSO := Lib.hid (sort45 p n c d wr (HL.out.later HNX.out) HD.out h24 HGD.out)
          clear hlt hk
          go_wp2_with fail
          refine HSO.out.mono ?_
          rintro e w2 ⟨g, cap, d', rfl, hp, hs, hL, hb⟩
          have HP := Lib.hid (fun v => cntV_perm HD.out hp v)
          have HD2 := Lib.hid (hp.1.trans HD.out)
          have HGP := Lib.hid (good_perm HD.out hp HGD.out)
          have HS := Lib.hid hs
          have HLG := Lib.hid hL
          have HB2 := Lib.hid (HNX.out.trans (hb.mono HNX.out.size))
          have HLP := Lib.hid ((HL.out.later HNX.out).later hb)
          have HR2 := Lib.hid (Go.RowKit.Below.refl w2.heap.size w2)
          clear hp hs hL hb HSO HGD HNX HL
          go_wp2
          go_loopw [42] (fun i wr => ∃ k : Nat, k ≤ n ∧ i = .int .i64 k ∧ Hid (Go.RowKit.Below w2.heap.size w2 wr)) (fun i _ => n - (intOf i).toNat)
          case atStart => exact ⟨0, Nat.zero_le _, rfl, HR2⟩
          case round =>
            obtain ⟨k, hk, rfl, HNX⟩ := hrel
            by_cases hlt : k < n
            · obtain ⟨b, o, hpp, h1, h2⟩ := (HLG.out.later HNX.out).cells k (by have := HD2.out; omega)
              cases hpp
              simp only [Nat.zero_add] at h1 h2
              obtain ⟨x, hx⟩ : ∃ x, d'[k]! = x := ⟨_, rfl⟩
              rw [hx] at h1 h2
              have HX := Lib.hid hx
              have HB3 := Lib.hid (HNX.out.alloc HNX.out.size (.cells #[.string (bs x.1), .string (bs x.2)] 52))
              clear hx
              go_wp2
              obtain ⟨z, hz⟩ : ∃ z, cntV d x n = z := ⟨_, rfl⟩
              have HZ2 := Lib.hid hz
              have HZ1 := Lib.hid ((HP.out x).trans hz)
              clear hz
              go_region_held3 (fun w' => w'.cell? ⟨wr.heap.size, 0, none⟩ = some (.string (bs x.1)) ∧ w'.cell? ⟨wr.heap.size, 1, none⟩ = some (.string (bs x.2)) ∧ Hid (Go.RowKit.Below w2.heap.size w2 w')) (first | exact ⟨by simp, by simp, Lib.hid HB3.out.drew⟩ | exact keepv (by assumption) hb2) (first | (go_at_call_of 46 (Value.slice (some ⟨g, 0, none⟩) n cap); refine (count_held x HZ1.out HLG.out HD2.out h24 (by assumption)).mono ?_; rintro e w' ⟨rfl, hb2⟩) | (go_at_call_of 46 (Value.slice p n c); refine (count_held x HZ2.out HLP.out HD.out h24 (by assumption)).mono ?_; rintro e w' ⟨rfl, hb2⟩))
              have hS3 := (show w'.cell? ⟨wr.heap.size, 0, none⟩ = some (.string (bs x.1)) ∧ w'.cell? ⟨wr.heap.size, 1, none⟩ = some (.string (bs x.2)) ∧ Hid (Go.RowKit.Below w2.heap.size w2 w') by assumption)
              obtain ⟨v0, v1, HNX3⟩ := hS3
              clear hb2 h1 h2 HZ1 HZ2 HB3 HNX
              rcases Nat.eq_zero_or_pos k with h0 | h0
              · subst h0
                go_wp2
                go_quiet (fail)
                all_goals
                  go_wp2
                  go_roundw
                  case rel => exact ⟨1, by omega, by go_num, Lib.hid ⟨HNX3.out.os, HNX3.out.tape, HNX3.out.output, HNX3.out.size, HNX3.out.block⟩⟩
                  case measure => simp [intOf]; omega
              · obtain ⟨m, rfl⟩ : ∃ m, k = m + 1 := ⟨k - 1, by omega⟩
                obtain ⟨b, o, hpp, y1, y2⟩ := (HLG.out.later HNX3.out).cells m (by have := HD2.out; omega)
                cases hpp
                simp only [Nat.zero_add] at y1 y2
                have hk1 : (0 : Int) < (m : Int) + 1 := by omega
                have hmn : m < n := by omega
                have hmz : (m : Int) < (n : Int) := by omega
                have hm0 : (0 : Int) ≤ (m : Int) := by omega
                have hwr : IntKind.i64.wrap (m : Int) = m := by simp [IntKind.wrap, IntKind.bits, IntKind.signed]; omega
                by_cases he : d'[m]!.1 = x.1
                · have hmc := sorted_same HS.out m (by omega) (by rw [HX.out]; exact he)
                  rw [HX.out] at hmc
                  rw [he] at y1
                  obtain ⟨y, hy⟩ : ∃ y, d'[m]!.2 = y := ⟨_, rfl⟩
                  have hyl : y.length ≤ maxLen := by rw [← hy]; have := (HGP.out m (by omega)).2.1; unfold maxLen; omega
                  have HXL : Hid (x.2.length ≤ maxLen) := Lib.hid (by rw [← HX.out]; have := (HGP.out (m + 1) (by omega)).2.1; unfold maxLen; omega)
                  rw [hy] at y2 hmc
                  have hself := less_self x.1
                  have hse2 : (x.1 == x.1) = true := by simp
                  obtain ⟨q, hq⟩ : ∃ q, modC x.1 y x.2 = q := ⟨_, rfl⟩
                  rw [hq] at hmc
                  have hq0 : ¬ (0 : Int) < q := by omega
                  have HQ := Lib.hid hq
                  have HY := Lib.hid hyl
                  clear hq hmc hyl hy he
                  go_wp2
                  go_region_held3 (fun w'' => w''.cell? ⟨wr.heap.size, 0, none⟩ = some (.string (bs x.1)) ∧ w''.cell? ⟨wr.heap.size, 1, none⟩ = some (.string (bs x.2)) ∧ w''.cell? ⟨g, m * 2, none⟩ = some (.string (bs x.1)) ∧ w''.cell? ⟨g, m * 2 + 1, none⟩ = some (.string (bs y)) ∧ Hid (Go.RowKit.Below w2.heap.size w2 w'')) (first | exact ⟨v0, v1, y1, y2, Lib.hid HNX3.out.drew⟩ | exact keep4 (by assumption) hb2) (first | (go_at_call 40; refine (mc_any x.1 y x.2 _ HY.out HXL.out).mono ?_; rintro e w'' ⟨rfl, hb2⟩; rw [HQ.out]))
                  all_goals
                    have HNX4 := (show _ ∧ _ ∧ _ ∧ _ ∧ Hid (Go.RowKit.Below w2.heap.size w2 _) by assumption).2.2.2.2
                    go_wp2
                    go_roundw
                    case rel => exact ⟨m + 1 + 1, by omega, by go_num, HNX4⟩
                    case measure => simp [intOf]; omega
                · have hls := sorted_path HS.out m (by omega) (by rw [HX.out]; exact he)
                  rw [HX.out] at hls
                  obtain ⟨y, hy⟩ : ∃ y, d'[m]! = y := ⟨_, rfl⟩
                  rw [hy] at y1 y2 he hls
                  have he1 : (y.1 == x.1) = false := by simpa using he
                  have hlo := less_other he hls
                  clear hy
                  go_wp2
                  go_quiet (fail)
                  all_goals
                    go_wp2
                    go_roundw
                    case rel => exact ⟨m + 1 + 1, by omega, by go_num, Lib.hid ⟨HNX3.out.os, HNX3.out.tape, HNX3.out.output, HNX3.out.size, HNX3.out.block⟩⟩
                    case measure => simp [intOf]; omega
            · go_wp2
              go_ret
              exact ⟨rfl, HB2.out.trans (HNX.out.mono HB2.out.size)⟩
    · have h24z : (24 : Int) < (n : Int) := by omega
      go_wp2
      go_ret
      exact ⟨rfl, HB1.out⟩
end Go.Proofs.Ytdhibalpnccbiaa
