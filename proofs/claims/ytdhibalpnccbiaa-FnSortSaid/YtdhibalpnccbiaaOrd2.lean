/- Plain: the comparison of semantic versions, and of versions of modules, is an order. -/
import Derived.Test.YtdhibalpnccbiaaOrd
import Derived.Test.YtdhibalpnccbiaaParts
import Derived.Test.YtdhibalpnccbiaaSorts2
namespace Go.Proofs.Ytdhibalpnccbiaa
set_option linter.unusedVariables false
def identC (a b : Bytes) : Int := if a = b then 0 else if a.all isD = true then (if b.all isD = true then cmpB a b else -1) else if b.all isD = true then 1 else cmpS a b
def idK (a : Bytes) : Nat := if a.all isD = true then 0 else 1
def idL (a : Bytes) : Nat := if a.all isD = true then a.length else 0
theorem identC_lex : identC = fun a b => thenC (cmpN (idK a) (idK b)) (thenC (cmpN (idL a) (idL b)) (cmpS a b)) := by
  funext a b
  have hB : cmpB a b = thenC (cmpN a.length b.length) (cmpS a b) := by rw [cmpB_lex]
  unfold identC idK idL
  by_cases h : a = b
  · subst h
    rw [if_pos rfl]
    simp [cmpN, thenC, cmpS]
  · rw [if_neg h]
    by_cases h1 : a.all isD = true
    · by_cases h2 : b.all isD = true
      · rw [if_pos h1, if_pos h2, hB]
        simp only [h1, h2, if_true]
        simp [cmpN, thenC]
      · rw [if_pos h1, if_neg h2]
        simp only [h1, h2, if_true]
        simp [cmpN, thenC]
    · by_cases h2 : b.all isD = true
      · rw [if_neg h1, if_pos h2]
        simp only [h1, h2, if_true]
        simp [cmpN, thenC]
      · rw [if_neg h1, if_neg h2]
        simp only [h1, h2]
        simp [cmpN, thenC]
theorem ord_ident : Ord3 identC := by
  rw [identC_lex]
  exact (ord_N.pull idK).lex ((ord_N.pull idL).lex ord_S)
theorem identC_zero (a b : Bytes) (h : identC a b = 0) : a = b := by
  unfold identC at h
  split at h
  · assumption
  · split at h
    · split at h
      · exact cmpB_zero h
      · omega
    · split at h
      · omega
      · exact cmpS_zero h
def joinD : List Bytes → Bytes
  | [] => []
  | [a] => a
  | a :: b :: t => a ++ 46 :: joinD (b :: t)
theorem joinD_segs : ∀ (r seg : Bytes), joinD (segs seg r) = seg ++ r
  | [], seg => by unfold segs joinD; simp
  | c :: r, seg => by
    unfold segs
    split
    · rename_i h
      have hc : c = 46 := UInt8.toNat_inj.1 (by rw [h]; rfl)
      have ih := joinD_segs r []
      have hp := segs_pos r []
      cases hs : segs [] r with
      | nil => rw [hs] at hp; simp at hp
      | cons a t =>
        rw [hs] at ih
        unfold joinD
        rw [ih, hc]
        rfl
    · rw [joinD_segs r _]
      simp
theorem segs_inj {r s : Bytes} (h : segs [] r = segs [] s) : r = s := by
  have := congrArg joinD h
  rw [joinD_segs, joinD_segs] at this
  simpa using this
/-- The identifiers of what stands behind a sign. -/
def idt : Bytes → List Bytes
  | [] => []
  | _ :: r => segs [] r
theorem segs_next : ∀ (r seg : Bytes), segs seg r = (seg ++ r.takeWhile notDot) :: idt (r.dropWhile notDot)
  | [], seg => by unfold segs; simp [idt]
  | c :: r, seg => by
    unfold segs
    split
    · rename_i h
      have hn : notDot c = false := by simp [notDot, h]
      rw [List.takeWhile_cons, List.dropWhile_cons, hn]
      simp [idt]
    · rename_i h
      have hn : notDot c = true := by simp [notDot, h]
      rw [segs_next r _, List.takeWhile_cons, List.dropWhile_cons, hn]
      simp
theorem idt_next (c : UInt8) (r : Bytes) : idt (c :: r) = r.takeWhile notDot :: idt (r.dropWhile notDot) := by
  show segs [] r = _
  rw [segs_next]
  rfl
/-- The loop of comparePrerelease. -/
def loopC : List Bytes → List Bytes → Int
  | [], _ => -1
  | _ :: _, [] => 1
  | a :: x, b :: y => if a = b then loopC x y else identC a b
theorem loopC_list : ∀ (x y : List Bytes), x ≠ y → loopC x y = listC identC x y
  | [], [], h => absurd rfl h
  | [], _ :: _, _ => rfl
  | _ :: _, [], _ => rfl
  | a :: x, b :: y, h => by
    unfold loopC listC thenC
    by_cases e : a = b
    · subst e
      rw [if_pos rfl, ord_ident.self a, if_neg (by simp), loopC_list x y (fun h2 => h (by rw [h2]))]
    · rw [if_neg e, if_pos (fun h2 => e (identC_zero a b h2))]
def cpR (x y : Bytes) : Int := if x = y then 0 else if x = [] then 1 else if y = [] then -1 else loopC (idt x) (idt y)
/-- Nothing, or a dash and more. -/
def Dash (x : Bytes) : Prop := x = [] ∨ ∃ r, x = 45 :: r
def pk : Bytes → Option (List Bytes)
  | [] => none
  | _ :: r => some (segs [] r)
theorem cpR_pk {x y : Bytes} (hx : Dash x) (hy : Dash y) : cpR x y = topC (listC identC) (pk x) (pk y) := by
  unfold cpR
  rcases hx with rfl | ⟨r, rfl⟩ <;> rcases hy with rfl | ⟨s, rfl⟩
  · rfl
  · rfl
  · rfl
  · by_cases e : r = s
    · subst e
      rw [if_pos rfl]
      exact ((ord_list ord_ident).self _).symm
    · rw [if_neg (by simpa using e), if_neg (by simp), if_neg (by simp)]
      exact loopC_list _ _ (fun h => e (segs_inj h))
def cmpSV (x y : SV) : Int := thenC (cmpB x.maj y.maj) (thenC (cmpB x.min y.min) (thenC (cmpB x.pat y.pat) (topC (listC identC) (pk x.pre) (pk y.pre))))
theorem ord_SV : Ord3 cmpSV :=
  (ord_B.pull SV.maj).lex ((ord_B.pull SV.min).lex ((ord_B.pull SV.pat).lex ((ord_top (ord_list ord_ident)).pull (fun s : SV => pk s.pre))))
def cmpV (x y : Bytes) : Int := optC cmpSV (semP x) (semP y)
theorem ord_V : Ord3 cmpV := (ord_opt ord_SV).pull semP
/-- What stands behind the numbers begins with a dash. -/
theorem sem_dash {l : Bytes} {S : SV} (h : semP l = some S) : Dash S.pre := by
  cases l with
  | nil => cases h
  | cons c r =>
    unfold semP at h
    simp only at h
    split at h
    · cases h
    · rcases h1 : cutI r with _ | ⟨M, _ | ⟨d, x⟩⟩ <;> simp only [h1] at h
      · cases h
      · cases h; exact .inl rfl
      · split at h
        · cases h
        · rcases h2 : cutI x with _ | ⟨m, _ | ⟨d2, y⟩⟩ <;> simp only [h2] at h
          · cases h
          · cases h; exact .inl rfl
          · split at h
            · cases h
            · rcases h3 : cutI y with _ | ⟨p, z⟩ <;> simp only [h3] at h
              · cases h
              · rcases h4 : tailP z with _ | ⟨a, b⟩ <;> simp only [h4] at h
                · cases h
                · cases h
                  unfold tailP at h4
                  split at h4
                  · cases h4; exact .inl rfl
                  · rename_i c t
                    split at h4
                    · rename_i hc
                      have hc' : c = 45 := UInt8.toNat_inj.1 (by rw [hc]; rfl)
                      split at h4
                      · cases h4
                      · rename_i r' hr
                        split at h4
                        · cases h4
                        · cases h4
                          have hl := scanP_len _ _ _ hr
                          refine .inr ⟨t.take (t.length - r'.length), ?_⟩
                          show (c :: t).take ((c :: t).length - r'.length) = _
                          rw [hc', List.length_cons, show t.length + 1 - r'.length = (t.length - r'.length) + 1 by omega, List.take_succ_cons]
                    · split at h4
                      · cases h4
                      · cases h4; exact .inl rfl
def modC (path x y : Bytes) : Int := if path = tGo then cmpG (parse x) (parse y) else if path = tToolchain then cmpG (parse (maybe x)) (parse (maybe y)) else cmpV x y
theorem ord_mod (path : Bytes) : Ord3 (modC path) := by
  by_cases h1 : path = tGo
  · have e : modC path = fun x y => cmpG (parse x) (parse y) := by funext x y; unfold modC; rw [if_pos h1]
    rw [e]; exact ord_G.pull parse
  · by_cases h2 : path = tToolchain
    · have e : modC path = fun x y => cmpG (parse (maybe x)) (parse (maybe y)) := by funext x y; unfold modC; rw [if_neg h1, if_pos h2]
      rw [e]; exact ord_G.pull (fun x => parse (maybe x))
    · have e : modC path = cmpV := by funext x y; unfold modC; rw [if_neg h1, if_neg h2]
      rw [e]; exact ord_V
end Go.Proofs.Ytdhibalpnccbiaa
