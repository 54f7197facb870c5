/- Plain: what spec.Semantic computes, and that it is what semver.parse computes. -/
import Derived.Test.YtdhibalpnccbiaaParts
namespace Go.Proofs.Ytdhibalpnccbiaa
set_option linter.unusedVariables false
structure SX where
  n0 : Bytes
  n1 : Bytes
  n2 : Bytes
  pre : Bytes
  plus : Bytes
  told : Nat
def condB (pre plus : Bytes) (L : List Bytes) : Bool := decide (3 < L.length) || (decide (L.length < 3) && decide (pre ++ plus ≠ [])) || (decide (pre ≠ []) && !partsB true (pre.drop 1)) || (decide (plus ≠ []) && !partsB false (plus.drop 1))
def nth (L : List Bytes) (k j : Nat) : Bytes := if j < k then L.getD j [] else [48]
def coreS (pre plus : Bytes) (L : List Bytes) : Option SX := if condB pre plus L = true then none else if L.all numOk = true then some ⟨nth L L.length 0, nth L L.length 1, nth L L.length 2, pre, plus, L.length⟩ else none
def qOf (r : Bytes) : Bytes := (r.takeWhile (isNot 43)).takeWhile (isNot 45)
def eOf (r : Bytes) : Bytes := (r.takeWhile (isNot 43)).dropWhile (isNot 45)
def pOf (r : Bytes) : Bytes := r.dropWhile (isNot 43)
def semS : Bytes → Option SX
  | [] => none
  | c :: r => if c.toNat = 118 then coreS (eOf r) (pOf r) (segs [] (qOf r)) else none

def noSep (c : UInt8) : Bool := decide (c.toNat ≠ 43) && decide (c.toNat ≠ 45) && decide (c.toNat ≠ 46)
theorem noSep_ne {c : UInt8} (h : noSep c = true) : isNot 43 c = true ∧ isNot 45 c = true ∧ notDot c = true := by
  simp only [noSep, Bool.and_eq_true, decide_eq_true_eq] at h
  simp only [isNot, notDot, decide_eq_true_eq]
  exact ⟨h.1.1, h.1.2, h.2⟩
theorem isD_noSep {c : UInt8} (h : isD c = true) : noSep c = true := by
  simp [isD] at h; simp [noSep]; omega
theorem all_imp {p q : UInt8 → Bool} (h : ∀ c, p c = true → q c = true) {l : Bytes} (hl : l.all p = true) : l.all q = true := by
  rw [List.all_eq_true] at hl ⊢
  exact fun c hc => h c (hl c hc)
theorem tk_app {p : UInt8 → Bool} : ∀ {t : Bytes} (s : Bytes), t.all p = true → (t ++ s).takeWhile p = t ++ s.takeWhile p ∧ (t ++ s).dropWhile p = s.dropWhile p
  | [], s, _ => ⟨rfl, rfl⟩
  | c :: t, s, h => by
    rw [List.all_cons, Bool.and_eq_true] at h
    have ih := tk_app s h.2
    simp only [List.cons_append, List.takeWhile_cons, List.dropWhile_cons, h.1, if_true]
    exact ⟨by rw [ih.1], ih.2⟩
theorem segs_app : ∀ (t : Bytes) (seg s : Bytes), t.all notDot = true → segs seg (t ++ s) = segs (seg ++ t) s
  | [], seg, s, _ => by simp
  | c :: t, seg, s, h => by
    rw [List.all_cons, Bool.and_eq_true] at h
    have hc : ¬ c.toNat = 46 := by simpa [notDot] using h.1
    rw [List.cons_append]
    conv => lhs; unfold segs
    rw [if_neg hc, segs_app t _ s h.2]
    simp
/-- One part, and what is behind it. -/
theorem at_end {t : Bytes} (h : t.all noSep = true) : segs [] (qOf t) = [t] ∧ eOf t = [] ∧ pOf t = [] := by
  have h1 := tk_app (p := isNot 43) [] (all_imp (fun c hc => (noSep_ne hc).1) h)
  have h2 := tk_app (p := isNot 45) [] (all_imp (fun c hc => (noSep_ne hc).2.1) h)
  have h3 := segs_app t [] [] (all_imp (fun c hc => (noSep_ne hc).2.2) h)
  simp only [List.append_nil, List.takeWhile_nil, List.dropWhile_nil] at h1 h2 h3
  unfold qOf eOf pOf
  rw [h1.1, h1.2, h2.1, h2.2, h3]
  exact ⟨by unfold segs; simp, rfl, rfl⟩
theorem at_dot {t : Bytes} (r : Bytes) (h : t.all noSep = true) : segs [] (qOf (t ++ 46 :: r)) = t :: segs [] (qOf r) ∧ eOf (t ++ 46 :: r) = eOf r ∧ pOf (t ++ 46 :: r) = pOf r := by
  have h1 := tk_app (p := isNot 43) (46 :: r) (all_imp (fun c hc => (noSep_ne hc).1) h)
  have h2 := tk_app (p := isNot 45) (46 :: r.takeWhile (isNot 43)) (all_imp (fun c hc => (noSep_ne hc).2.1) h)
  have h3 := segs_app t [] (46 :: (r.takeWhile (isNot 43)).takeWhile (isNot 45)) (all_imp (fun c hc => (noSep_ne hc).2.2) h)
  have e1 : isNot 43 46 = true := rfl
  have e2 : isNot 45 46 = true := rfl
  simp only [List.takeWhile_cons, List.dropWhile_cons, e1, e2, if_true] at h1 h2
  unfold qOf eOf pOf
  rw [h1.1, h1.2, h2.1, h2.2, h3]
  refine ⟨?_, rfl, rfl⟩
  conv => lhs; unfold segs
  simp
theorem at_dash {t : Bytes} (r : Bytes) (h : t.all noSep = true) : segs [] (qOf (t ++ 45 :: r)) = [t] ∧ eOf (t ++ 45 :: r) = 45 :: r.takeWhile (isNot 43) ∧ pOf (t ++ 45 :: r) = r.dropWhile (isNot 43) := by
  have h1 := tk_app (p := isNot 43) (45 :: r) (all_imp (fun c hc => (noSep_ne hc).1) h)
  have h2 := tk_app (p := isNot 45) (45 :: r.takeWhile (isNot 43)) (all_imp (fun c hc => (noSep_ne hc).2.1) h)
  have h3 := segs_app t [] [] (all_imp (fun c hc => (noSep_ne hc).2.2) h)
  have e1 : isNot 43 45 = true := rfl
  have e2 : isNot 45 45 = false := rfl
  simp only [List.takeWhile_cons, List.dropWhile_cons, e1, e2, if_true, Bool.false_eq_true, if_false, List.append_nil] at h1 h2 h3
  unfold qOf eOf pOf
  rw [h1.1, h1.2, h2.1, h2.2, h3]
  exact ⟨by unfold segs; simp, rfl, rfl⟩
theorem at_plus {t : Bytes} (r : Bytes) (h : t.all noSep = true) : segs [] (qOf (t ++ 43 :: r)) = [t] ∧ eOf (t ++ 43 :: r) = [] ∧ pOf (t ++ 43 :: r) = 43 :: r := by
  have h1 := tk_app (p := isNot 43) (43 :: r) (all_imp (fun c hc => (noSep_ne hc).1) h)
  have h2 := tk_app (p := isNot 45) [] (all_imp (fun c hc => (noSep_ne hc).2.1) h)
  have h3 := segs_app t [] [] (all_imp (fun c hc => (noSep_ne hc).2.2) h)
  have e1 : isNot 43 43 = false := rfl
  simp only [List.takeWhile_cons, List.dropWhile_cons, e1, Bool.false_eq_true, if_false, List.append_nil, List.takeWhile_nil, List.dropWhile_nil] at h1 h2 h3
  unfold qOf eOf pOf
  rw [h1.1, h1.2, h2.1, h2.2, h3]
  exact ⟨by unfold segs; simp, rfl, rfl⟩
theorem numOk_iff (t : Bytes) : numOk t = (good t && t.all isD) := by
  cases t with
  | nil => rfl
  | cons c r =>
    have e : (bl (c :: r) 0 ≠ 48) ↔ (c ≠ 48) := by
      show c.toNat ≠ 48 ↔ _
      exact ⟨fun h h2 => h (by rw [h2]; rfl), fun h h2 => h (UInt8.toNat_inj.1 (by rw [h2]; rfl))⟩
    unfold numOk figs good
    rw [Bool.eq_iff_iff]
    simp only [Bool.and_eq_true, Bool.or_eq_true, decide_eq_true_eq, bne_iff_ne, ne_eq] at *
    rw [e]
    have e2 : (r.isEmpty = true) ↔ (c :: r).length = 1 := by cases r <;> simp
    rw [e2]
    constructor
    · rintro ⟨⟨_, h2⟩, h3⟩; exact ⟨h3, h2⟩
    · rintro ⟨h3, h2⟩; exact ⟨⟨by simp, h2⟩, h3⟩
/-- A part is a number just if the number is followed by a sign or by nothing. -/
theorem part_cut (r : Bytes) : ∃ t s, r = t ++ s ∧ t.all noSep = true ∧ (s = [] ∨ ∃ c x, s = c :: x ∧ (c = 43 ∨ c = 45 ∨ c = 46)) ∧
    (numOk t = true → cutI r = some (t, s)) ∧ (numOk t = false → ∀ M x, cutI r = some (M, x) → ∃ c y, x = c :: y ∧ c.toNat ≠ 43 ∧ c.toNat ≠ 45 ∧ c.toNat ≠ 46) := by
  have hall : ∀ l : Bytes, (l.takeWhile noSep).all noSep = true := by
    intro l
    induction l with
    | nil => rfl
    | cons c l ih =>
      rw [List.takeWhile_cons]
      split
      · rw [List.all_cons, ih]; simp [*]
      · rfl
  have hhead : ∀ l : Bytes, l.dropWhile noSep = [] ∨ ∃ c x, l.dropWhile noSep = c :: x ∧ noSep c = false := by
    intro l
    induction l with
    | nil => exact .inl rfl
    | cons c l ih =>
      rw [List.dropWhile_cons]
      split
      · exact ih
      · rename_i hc
        exact .inr ⟨c, l, rfl, by simpa using hc⟩
  refine ⟨r.takeWhile noSep, r.dropWhile noSep, List.takeWhile_append_dropWhile.symm, hall r, ?_, ?_, ?_⟩
  · rcases hhead r with h | ⟨c, x, h, hc⟩
    · exact .inl h
    · refine .inr ⟨c, x, h, ?_⟩
      have e : ∀ k : UInt8, c.toNat = k.toNat → c = k := fun k h => UInt8.toNat_inj.1 h
      by_cases h1 : c.toNat = 43
      · exact .inl (e 43 h1)
      · by_cases h2 : c.toNat = 45
        · exact .inr (.inl (e 45 h2))
        · by_cases h3 : c.toNat = 46
          · exact .inr (.inr (e 46 h3))
          · simp [noSep, h1, h2, h3] at hc
  · intro hn
    rw [numOk_iff, Bool.and_eq_true] at hn
    have hs : r.dropWhile noSep = [] ∨ ∃ c x, r.dropWhile noSep = c :: x ∧ isD c = false := by
      rcases hhead r with h | ⟨c, x, h, hc⟩
      · exact .inl h
      · refine .inr ⟨c, x, h, ?_⟩
        cases hd : isD c with
        | false => rfl
        | true => rw [isD_noSep hd] at hc; cases hc
    have h9 := cutI_app (M := r.takeWhile noSep) (rest := r.dropWhile noSep) ⟨hn.1, hn.2⟩ hs
    rwa [List.takeWhile_append_dropWhile] at h9
  · intro hn M x hM
    have hNum := cutI_num hM
    have hsp := cutI_split hM
    cases x with
    | nil =>
      exfalso
      rw [List.append_nil] at hsp
      subst hsp
      have h9 := tk_app (p := noSep) [] (all_imp (fun c hc => isD_noSep hc) hNum.dig)
      rw [List.append_nil] at h9
      simp only [List.takeWhile_nil, List.append_nil] at h9
      rw [h9.1, numOk_iff, hNum.good, hNum.dig] at hn
      cases hn
    | cons c y =>
      refine ⟨c, y, rfl, ?_⟩
      cases hc : noSep c with
      | true =>
        simp [noSep] at hc
        omega
      | false =>
        exfalso
        have h9 := tk_app (p := noSep) (c :: y) (all_imp (fun c hc => isD_noSep hc) hNum.dig)
        rw [hsp, List.takeWhile_cons, hc] at h9
        simp only [Bool.false_eq_true, if_false, List.append_nil] at h9
        rw [h9.1, numOk_iff, hNum.good, hNum.dig] at hn
        cases hn
theorem okSeg_bad (x : Bytes) (h : x.all isId = true) : okSeg true x = !(decide (x = []) || badNum x) := by
  unfold okSeg badNum figs numOk figs
  cases x with
  | nil => rfl
  | cons c r =>
    rw [h]
    generalize (c :: r).all isD = d
    generalize hb : decide (bl (c :: r) 0 = 48) = b
    have hb2 : decide (bl (c :: r) 0 ≠ 48) = !b := by rw [← hb]; exact decide_not
    rw [hb2]
    cases r <;> cases d <;> cases b <;> simp
theorem segs_bad : ∀ (t seg : Bytes), seg.all isId = false → ∀ st, (segs seg t).all (okSeg st) = false := by
  intro t
  induction t with
  | nil => intro seg h st; unfold segs; simp [okSeg, h]
  | cons c t ih =>
    intro seg h st
    unfold segs
    split
    · rw [List.all_cons]; simp [okSeg, h]
    · exact ih _ (by rw [List.all_append, h]; rfl) st
theorem scanP_parts : ∀ (t seg : Bytes), seg.all isId = true → scanP seg t = if (segs seg (t.takeWhile (isNot 43))).all (okSeg true) = true then some (t.dropWhile (isNot 43)) else none
  | [], seg, h => by
    unfold scanP
    simp only [List.takeWhile_nil, List.dropWhile_nil]
    unfold segs
    rw [List.all_cons, okSeg_bad seg h]
    by_cases h1 : seg = [] ∨ badNum seg = true
    · rw [if_pos h1, if_neg (by rcases h1 with h1 | h1 <;> simp [h1])]
    · rw [if_neg h1, if_pos (by rw [not_or] at h1; simp [h1])]
  | c :: t, seg, h => by
    unfold scanP
    by_cases h43 : c.toNat = 43
    · have e : isNot 43 c = false := by simp [isNot, h43]
      rw [if_pos h43, List.takeWhile_cons, List.dropWhile_cons, e]
      simp only [Bool.false_eq_true, if_false]
      unfold segs
      rw [List.all_cons, okSeg_bad seg h]
      by_cases h1 : seg = [] ∨ badNum seg = true
      · rw [if_pos h1, if_neg (by rcases h1 with h1 | h1 <;> simp [h1])]
      · rw [if_neg h1, if_pos (by rw [not_or] at h1; simp [h1])]
    · have e : isNot 43 c = true := by simp [isNot, h43]
      rw [if_neg h43, List.takeWhile_cons, List.dropWhile_cons, e]
      simp only [if_true]
      by_cases h46 : c.toNat = 46
      · rw [if_pos h46]
        conv => rhs; unfold segs
        rw [if_pos h46, List.all_cons, okSeg_bad seg h]
        by_cases h1 : seg = [] ∨ badNum seg = true
        · rw [if_pos h1, if_neg (by rcases h1 with h1 | h1 <;> simp [h1])]
        · rw [if_neg h1, scanP_parts t [] rfl]
          rw [not_or] at h1
          simp [h1]
      · rw [if_neg h46]
        conv => rhs; unfold segs
        rw [if_neg h46]
        by_cases hid : isId c = true
        · rw [if_pos hid, scanP_parts t _ (by rw [List.all_append, h]; simp [hid])]
        · rw [if_neg hid, segs_bad _ _ (by rw [List.all_append, h]; simp [hid])]
          simp
theorem okSeg_free (x : Bytes) (h : x.all isId = true) : okSeg false x = !(decide (x = [])) := by
  unfold okSeg; rw [h]; simp
theorem scanB_parts : ∀ (t seg : Bytes), seg.all isId = true → scanB seg t = if (segs seg t).all (okSeg false) = true then some [] else none
  | [], seg, h => by
    unfold scanB segs
    rw [List.all_cons, okSeg_free seg h]
    by_cases h1 : seg = [] <;> simp [h1]
  | c :: t, seg, h => by
    unfold scanB
    by_cases h46 : c.toNat = 46
    · rw [if_pos h46]
      conv => rhs; unfold segs
      rw [if_pos h46, List.all_cons, okSeg_free seg h]
      by_cases h1 : seg = []
      · simp [h1]
      · rw [if_neg h1, scanB_parts t [] rfl]
        simp [h1]
    · rw [if_neg h46]
      conv => rhs; unfold segs
      rw [if_neg h46]
      by_cases hid : isId c = true
      · rw [if_pos hid, scanB_parts t _ (by rw [List.all_append, h]; simp [hid])]
      · rw [if_neg hid, segs_bad _ _ (by rw [List.all_append, h]; simp [hid])]
        simp
def toX (S : SV) : SX := ⟨S.maj, S.min, S.pat, S.pre, S.build, if S.short = [46, 48, 46, 48] then 1 else if S.short = [46, 48] then 2 else 3⟩
theorem bldP_plus (t : Bytes) : bldP (43 :: t) = if partsB false t = true then some (43 :: t) else none := by
  unfold bldP partsB
  simp only [show (43 : UInt8).toNat = 43 from rfl, if_true]
  rw [scanB_parts t [] rfl]
  by_cases h : (segs [] t).all (okSeg false) = true
  · simp [h]
  · simp [h]
theorem dw_head : ∀ t : Bytes, t.dropWhile (isNot 43) = [] ∨ ∃ u, t.dropWhile (isNot 43) = 43 :: u
  | [] => .inl rfl
  | c :: t => by
    rw [List.dropWhile_cons]
    split
    · exact dw_head t
    · rename_i h
      have hc : c = 43 := UInt8.toNat_inj.1 (by simpa [isNot] using h)
      exact .inr ⟨t, by rw [hc]⟩
theorem tailP_dash (t : Bytes) : tailP (45 :: t) = if partsB true (t.takeWhile (isNot 43)) = true ∧ (t.dropWhile (isNot 43) ≠ [] → partsB false ((t.dropWhile (isNot 43)).drop 1) = true) then some (45 :: t.takeWhile (isNot 43), t.dropWhile (isNot 43)) else none := by
  unfold tailP
  simp only [show (45 : UInt8).toNat = 45 from rfl, if_true]
  rw [scanP_parts t [] rfl]
  have hp : (segs [] (t.takeWhile (isNot 43))).all (okSeg true) = partsB true (t.takeWhile (isNot 43)) := rfl
  rw [hp]
  by_cases h : partsB true (t.takeWhile (isNot 43)) = true
  · rw [if_pos h]
    have ht : (45 :: t).take ((45 :: t).length - (t.dropWhile (isNot 43)).length) = 45 :: t.takeWhile (isNot 43) := by
      have e := congrArg List.length (List.takeWhile_append_dropWhile (p := isNot 43) (l := t))
      rw [List.length_append] at e
      have e2 : (45 :: t).length - (t.dropWhile (isNot 43)).length = (t.takeWhile (isNot 43)).length + 1 := by rw [List.length_cons]; omega
      rw [e2, List.take_succ_cons]
      congr 1
      conv => lhs; rw [← List.takeWhile_append_dropWhile (p := isNot 43) (l := t)]
      rw [show (t.takeWhile (isNot 43) ++ t.dropWhile (isNot 43)).takeWhile (isNot 43) = t.takeWhile (isNot 43) from by rw [List.takeWhile_append_dropWhile], List.take_left']
      rfl
    simp only [ht]
    rcases dw_head t with e | ⟨u, e⟩
    · rw [e]
      simp [bldP, h]
    · rw [e, bldP_plus]
      by_cases h2 : partsB false u = true
      · simp [h, h2]
      · simp [h, h2]
  · rw [if_neg h]
    simp [h]
end Go.Proofs.Ytdhibalpnccbiaa

namespace Go.Proofs.Ytdhibalpnccbiaa
set_option linter.unusedVariables false
theorem coreS_bad {E P : Bytes} {L : List Bytes} (h : L.all numOk = false) : coreS E P L = none := by
  unfold coreS; rw [h]; split <;> rfl
theorem coreS_short {E P : Bytes} {L : List Bytes} (h : L.length < 3) (h2 : E ++ P ≠ []) : coreS E P L = none := by
  have hc : condB E P L = true := by simp only [condB, Bool.or_eq_true, Bool.and_eq_true, decide_eq_true_eq]; exact .inl (.inl (.inr ⟨h, h2⟩))
  unfold coreS; rw [if_pos hc]
theorem coreS_long {E P : Bytes} {L : List Bytes} (h : 3 < L.length) : coreS E P L = none := by
  have hc : condB E P L = true := by simp only [condB, Bool.or_eq_true, Bool.and_eq_true, decide_eq_true_eq]; exact .inl (.inl (.inl h))
  unfold coreS; rw [if_pos hc]
theorem parts_false {t s : Bytes} (hall : t.all noSep = true) (hs : s = [] ∨ ∃ c x, s = c :: x ∧ (c = 43 ∨ c = 45 ∨ c = 46)) (hn : numOk t = false) : (segs [] (qOf (t ++ s))).all numOk = false := by
  rcases hs with rfl | ⟨c, x, rfl, rfl | rfl | rfl⟩
  · rw [List.append_nil, (at_end hall).1]; simp [hn]
  · rw [(at_plus x hall).1]; simp [hn]
  · rw [(at_dash x hall).1]; simp [hn]
  · rw [(at_dot x hall).1]; simp [hn]
theorem tailP_other {c : UInt8} (x : Bytes) (h1 : c.toNat ≠ 43) (h2 : c.toNat ≠ 45) : tailP (c :: x) = none := by
  simp [tailP, bldP, h1, h2]
theorem nat_eq {c d : UInt8} (h : c.toNat = d.toNat) : c = d := UInt8.toNat_inj.1 h
def tail3 (M m y : Bytes) : Option SV := match cutI y with
  | none => none
  | some (p, z) => match tailP z with | none => none | some (a, b) => some ⟨M, m, p, [], a, b⟩
def tail2 (M x : Bytes) : Option SV := match cutI x with
  | none => none
  | some (m, []) => some ⟨M, m, [48], [46, 48], [], []⟩
  | some (m, d2 :: y) => if d2.toNat ≠ 46 then none else tail3 M m y
def tail1 (r : Bytes) : Option SV := match cutI r with
  | none => none
  | some (M, []) => some ⟨M, [48], [48], [46, 48, 46, 48], [], []⟩
  | some (M, d :: x) => if d.toNat ≠ 46 then none else tail2 M x
theorem semP_tail (c : UInt8) (r : Bytes) : semP (c :: r) = if c.toNat ≠ 118 then none else tail1 r := rfl
theorem lev3 (M m y : Bytes) (hM : numOk M = true) (hm : numOk m = true) : coreS (eOf y) (pOf y) (M :: m :: segs [] (qOf y)) = (tail3 M m y).map toX := by
  obtain ⟨t, s, rfl, hall, hs, hok, hno⟩ := part_cut y
  unfold tail3
  cases hn : numOk t with
  | false =>
    rw [coreS_bad (by rw [List.all_cons, List.all_cons, parts_false hall hs hn]; simp)]
    rcases h : cutI (t ++ s) with _ | ⟨p, x⟩
    · rfl
    · obtain ⟨c, z, rfl, n1, n2, _⟩ := hno hn p x h
      simp only [tailP_other z n1 n2]
      rfl
  | true =>
    rw [hok hn]
    simp only
    rcases hs with rfl | ⟨c, x, rfl, rfl | rfl | rfl⟩
    · rw [List.append_nil]
      obtain ⟨e1, e2, e3⟩ := at_end hall
      rw [e1, e2, e3]
      simp [coreS, condB, hM, hm, hn, nth, tailP, toX]
    · obtain ⟨e1, e2, e3⟩ := at_plus x hall
      rw [e1, e2, e3]
      have et : tailP (43 :: x) = if partsB false x = true then some ([], 43 :: x) else none := by
        have hb := bldP_plus x
        unfold tailP
        simp only [show ¬ (43 : UInt8).toNat = 45 by decide, if_false, hb]
        by_cases h : partsB false x = true <;> simp [h]
      rw [et]
      by_cases h : partsB false x = true
      · simp [coreS, condB, hM, hm, hn, nth, toX, h]
      · simp [coreS, condB, h]
    · obtain ⟨e1, e2, e3⟩ := at_dash x hall
      rw [e1, e2, e3, tailP_dash]
      by_cases h : partsB true (x.takeWhile (isNot 43)) = true
      · rcases dw_head x with e | ⟨u, e⟩
        · rw [e]
          simp [coreS, condB, hM, hm, hn, nth, toX, h]
        · rw [e]
          by_cases h2 : partsB false u = true
          · simp [coreS, condB, hM, hm, hn, nth, toX, h, h2]
          · simp [coreS, condB, h, h2]
      · rw [if_neg (fun h2 => h h2.1)]
        simp [coreS, condB, h]
    · obtain ⟨e1, e2, e3⟩ := at_dot x hall
      rw [e1, e2, e3, coreS_long (by have := segs_pos (qOf x) []; simp only [List.length_cons]; omega)]
      rw [tailP_other x (by decide) (by decide)]
      rfl
theorem lev2 (M x : Bytes) (hM : numOk M = true) : coreS (eOf x) (pOf x) (M :: segs [] (qOf x)) = (tail2 M x).map toX := by
  obtain ⟨t, s, rfl, hall, hs, hok, hno⟩ := part_cut x
  unfold tail2
  cases hn : numOk t with
  | false =>
    rw [coreS_bad (by rw [List.all_cons, parts_false hall hs hn]; simp)]
    rcases h : cutI (t ++ s) with _ | ⟨p, x⟩
    · rfl
    · obtain ⟨c, z, rfl, n1, n2, n3⟩ := hno hn p x h
      simp only [ne_eq, n3, not_false_eq_true, if_true]
      rfl
  | true =>
    rw [hok hn]
    rcases hs with rfl | ⟨c, x, rfl, rfl | rfl | rfl⟩
    · rw [List.append_nil]
      obtain ⟨e1, e2, e3⟩ := at_end hall
      rw [e1, e2, e3]
      simp [coreS, condB, hM, hn, nth, toX]
    · obtain ⟨e1, e2, e3⟩ := at_plus x hall
      rw [e1, e2, e3, coreS_short (by simp) (by simp)]
      rfl
    · obtain ⟨e1, e2, e3⟩ := at_dash x hall
      rw [e1, e2, e3, coreS_short (by simp) (by simp)]
      rfl
    · obtain ⟨e1, e2, e3⟩ := at_dot x hall
      rw [e1, e2, e3, lev3 M t x hM hn]
      rfl
theorem lev1 (r : Bytes) : coreS (eOf r) (pOf r) (segs [] (qOf r)) = (tail1 r).map toX := by
  obtain ⟨t, s, rfl, hall, hs, hok, hno⟩ := part_cut r
  unfold tail1
  cases hn : numOk t with
  | false =>
    rw [coreS_bad (parts_false hall hs hn)]
    rcases h : cutI (t ++ s) with _ | ⟨p, x⟩
    · rfl
    · obtain ⟨c, z, rfl, n1, n2, n3⟩ := hno hn p x h
      simp only [ne_eq, n3, not_false_eq_true, if_true]
      rfl
  | true =>
    rw [hok hn]
    rcases hs with rfl | ⟨c, x, rfl, rfl | rfl | rfl⟩
    · rw [List.append_nil]
      obtain ⟨e1, e2, e3⟩ := at_end hall
      rw [e1, e2, e3]
      simp [coreS, condB, hn, nth, toX]
    · obtain ⟨e1, e2, e3⟩ := at_plus x hall
      rw [e1, e2, e3, coreS_short (by simp) (by simp)]
      rfl
    · obtain ⟨e1, e2, e3⟩ := at_dash x hall
      rw [e1, e2, e3, coreS_short (by simp) (by simp)]
      rfl
    · obtain ⟨e1, e2, e3⟩ := at_dot x hall
      rw [e1, e2, e3, lev2 t x hn]
      rfl
theorem semS_eq (l : Bytes) : semS l = (semP l).map toX := by
  cases l with
  | nil => rfl
  | cons c r =>
    rw [semP_tail]
    show (if c.toNat = 118 then coreS (eOf r) (pOf r) (segs [] (qOf r)) else none) = _
    by_cases hc : c.toNat = 118
    · rw [if_pos hc, if_neg (by simpa using hc), lev1 r]
    · rw [if_neg hc, if_pos hc]
      rfl
end Go.Proofs.Ytdhibalpnccbiaa

namespace Go.Proofs.Ytdhibalpnccbiaa
set_option linter.unusedVariables false
inductive Shape (v : Bytes) (S : SV) : Prop
  | one (M : Bytes) (hM : Num M) (hv : v = 118 :: M) (h1 : S.maj = M) (h2 : S.min = [48]) (h3 : S.pat = [48]) (h4 : S.short = [46, 48, 46, 48]) (h5 : S.pre = [])
  | two (M m : Bytes) (hM : Num M) (hm : Num m) (hv : v = 118 :: (M ++ 46 :: m)) (h1 : S.maj = M) (h2 : S.min = m) (h3 : S.pat = [48]) (h4 : S.short = [46, 48]) (h5 : S.pre = [])
  | three (M m p z : Bytes) (hM : Num M) (hm : Num m) (hp : Num p) (hv : v = 118 :: (M ++ 46 :: (m ++ 46 :: (p ++ z)))) (h1 : S.maj = M) (h2 : S.min = m) (h3 : S.pat = p) (h4 : S.short = [])
theorem sem_shape {v : Bytes} {S : SV} (h : semP v = some S) : Shape v S := by
  cases v with
  | nil => cases h
  | cons c r =>
    rw [semP_tail] at h
    by_cases hc : c.toNat ≠ 118
    · rw [if_pos hc] at h; cases h
    rw [if_neg hc] at h
    have hc' : c = 118 := nat_eq (by have : (118 : UInt8).toNat = 118 := rfl; omega)
    subst hc'
    unfold tail1 at h
    rcases h1 : cutI r with _ | ⟨M, _ | ⟨d, x⟩⟩ <;> simp only [h1] at h
    · cases h
    · cases h
      have hs := cutI_split h1
      rw [List.append_nil] at hs
      exact .one M (cutI_num h1) (by rw [hs]) rfl rfl rfl rfl rfl
    · by_cases hd : d.toNat ≠ 46
      · rw [if_pos hd] at h; cases h
      rw [if_neg hd] at h
      have hd' : d = 46 := nat_eq (by have : (46 : UInt8).toNat = 46 := rfl; omega)
      subst hd'
      have hs := cutI_split h1
      unfold tail2 at h
      rcases h2 : cutI x with _ | ⟨m, _ | ⟨d2, y⟩⟩ <;> simp only [h2] at h
      · cases h
      · cases h
        have hs2 := cutI_split h2
        rw [List.append_nil] at hs2
        exact .two M m (cutI_num h1) (cutI_num h2) (by rw [← hs, hs2]) rfl rfl rfl rfl rfl
      · by_cases hd : d2.toNat ≠ 46
        · rw [if_pos hd] at h; cases h
        rw [if_neg hd] at h
        have hd' : d2 = 46 := nat_eq (by have : (46 : UInt8).toNat = 46 := rfl; omega)
        subst hd'
        have hs2 := cutI_split h2
        unfold tail3 at h
        rcases h3 : cutI y with _ | ⟨p, z⟩ <;> simp only [h3] at h
        · cases h
        · have hs3 := cutI_split h3
          rcases h4 : tailP z with _ | ⟨a, b⟩ <;> simp only [h4] at h
          · cases h
          · cases h
            exact .three M m p z (cutI_num h1) (cutI_num h2) (cutI_num h3) (by rw [← hs, ← hs2, ← hs3]) rfl rfl rfl rfl
/-- What ModIsPrefix computes of a text. -/
def pfxB : Nat → Bytes → Bool
  | _, [] => true
  | d, c :: r => if c.toNat = 45 ∨ c.toNat = 43 then false else if c.toNat = 46 then (if 1 ≤ d then false else pfxB (d + 1) r) else pfxB d r
theorem pfxB_app : ∀ (t : Bytes) (d : Nat) (s : Bytes), t.all noSep = true → pfxB d (t ++ s) = pfxB d s
  | [], _, _, _ => rfl
  | c :: t, d, s, h => by
    rw [List.all_cons, Bool.and_eq_true] at h
    have hc := h.1
    simp only [noSep, Bool.and_eq_true, decide_eq_true_eq] at hc
    rw [List.cons_append]
    conv => lhs; unfold pfxB
    rw [if_neg (by omega), if_neg (by omega), pfxB_app t d s h.2]
theorem num_noSep {t : Bytes} (h : Num t) : t.all noSep = true := all_imp (fun c hc => isD_noSep hc) h.dig
theorem pfx_shape {v : Bytes} {S : SV} (h : semP v = some S) : pfxB 0 v = decide ((toX S).told < 3) := by
  rcases sem_shape h with ⟨M, hM, hv, h1, h2, h3, h4, h5⟩ | ⟨M, m, hM, hm, hv, h1, h2, h3, h4, h5⟩ | ⟨M, m, p, z, hM, hm, hp, hv, h1, h2, h3, h4⟩
  · subst hv
    have e := pfxB_app (118 :: M) 0 [] (by rw [List.all_cons, num_noSep hM]; rfl)
    rw [List.append_nil] at e
    rw [e]
    simp [toX, h4, pfxB]
  · subst hv
    have e := pfxB_app (118 :: M) 0 (46 :: m) (by rw [List.all_cons, num_noSep hM]; rfl)
    rw [List.cons_append] at e
    rw [e]
    have e2 := pfxB_app m 1 [] (num_noSep hm)
    rw [List.append_nil] at e2
    have e3 : pfxB 0 (46 :: m) = pfxB 1 m := by conv => lhs; unfold pfxB; simp
    rw [e3, e2]
    simp [toX, h4, pfxB]
  · subst hv
    have e := pfxB_app (118 :: M) 0 (46 :: (m ++ 46 :: (p ++ z))) (by rw [List.all_cons, num_noSep hM]; rfl)
    rw [List.cons_append] at e
    rw [e]
    have e2 := pfxB_app m 1 (46 :: (p ++ z)) (num_noSep hm)
    have e3 : pfxB 0 (46 :: (m ++ 46 :: (p ++ z))) = pfxB 1 (m ++ 46 :: (p ++ z)) := by conv => lhs; unfold pfxB; simp
    have e4 : pfxB 1 (46 :: (p ++ z)) = false := by unfold pfxB; simp
    rw [e3, e2, e4]
    simp [toX, h4]
end Go.Proofs.Ytdhibalpnccbiaa
