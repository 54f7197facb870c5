/- Plain: comparisons that answer -1, 0, 1 and are orders. -/
import Derived.Test.YtdhibalpnccbiaaPlain5
namespace Go.Proofs.Ytdhibalpnccbiaa
set_option linter.unusedVariables false
structure Ord3 {α : Type} (f : α → α → Int) : Prop where
  rng : ∀ a b, f a b = -1 ∨ f a b = 0 ∨ f a b = 1
  back : ∀ a b, f b a = - f a b
  le : ∀ a b c, f a b ≤ 0 → f b c ≤ 0 → f a c ≤ 0
theorem Ord3.self {α : Type} {f : α → α → Int} (h : Ord3 f) (a : α) : f a a = 0 := by have := h.back a a; omega
theorem Ord3.eq {α : Type} {f : α → α → Int} (h : Ord3 f) {a b c : α} (h1 : f a b ≤ 0) (h2 : f b c ≤ 0) (h3 : f a c = 0) : f a b = 0 ∧ f b c = 0 := by
  have e1 := h.back a c
  have e2 := h.back b c
  have e3 := h.back a b
  have p := h.le b c a h2 (by omega)
  have q := h.le c a b (by omega) h1
  omega
theorem Ord3.pull {α β : Type} {f : α → α → Int} (h : Ord3 f) (g : β → α) : Ord3 (fun a b => f (g a) (g b)) :=
  ⟨fun _ _ => h.rng _ _, fun _ _ => h.back _ _, fun _ _ _ => h.le _ _ _⟩
def thenC (x y : Int) : Int := if x ≠ 0 then x else y
theorem Ord3.lex {α : Type} {f g : α → α → Int} (hf : Ord3 f) (hg : Ord3 g) : Ord3 (fun a b => thenC (f a b) (g a b)) := by
  refine ⟨fun a b => ?_, fun a b => ?_, fun a b c h1 h2 => ?_⟩
  · unfold thenC
    split
    · exact hf.rng a b
    · exact hg.rng a b
  · have h1 := hf.back a b
    have h2 := hg.back a b
    unfold thenC
    split <;> split <;> omega
  · unfold thenC at h1 h2 ⊢
    have a1 : f a b ≤ 0 := by split at h1 <;> omega
    have a2 : f b c ≤ 0 := by split at h2 <;> omega
    have a3 := hf.le a b c a1 a2
    by_cases e3 : f a c = 0
    · obtain ⟨e1, e2⟩ := hf.eq a1 a2 e3
      rw [if_neg (by simp [e1])] at h1
      rw [if_neg (by simp [e2])] at h2
      rw [if_neg (by simp [e3])]
      exact hg.le a b c h1 h2
    · rw [if_pos e3]; exact a3
def cmpN (a b : Nat) : Int := if a < b then -1 else if b < a then 1 else 0
theorem ord_N : Ord3 cmpN := by
  refine ⟨fun a b => ?_, fun a b => ?_, fun a b c h1 h2 => ?_⟩
  · unfold cmpN; split
    · simp
    · split <;> simp
  · unfold cmpN; split <;> split <;> first | omega | (split <;> omega)
  · unfold cmpN at *
    split at h1 <;> split at h2 <;> first | omega | (split <;> first | omega | (split <;> omega)) | skip
    all_goals (repeat' split at *) <;> omega
def listC {α : Type} (f : α → α → Int) : List α → List α → Int
  | [], [] => 0
  | [], _ :: _ => -1
  | _ :: _, [] => 1
  | a :: x, b :: y => thenC (f a b) (listC f x y)
theorem ord_list {α : Type} {f : α → α → Int} (h : Ord3 f) : Ord3 (listC f) := by
  refine ⟨fun a => ?_, fun a => ?_, fun a => ?_⟩
  · induction a with
    | nil => intro b; cases b <;> simp [listC]
    | cons c a ih =>
      intro b
      cases b with
      | nil => simp [listC]
      | cons d b =>
        unfold listC thenC
        split
        · exact h.rng c d
        · exact ih b
  · induction a with
    | nil => intro b; cases b <;> simp [listC]
    | cons c a ih =>
      intro b
      cases b with
      | nil => simp [listC]
      | cons d b =>
        have h1 := h.back c d
        have h2 := ih b
        unfold listC thenC
        split <;> split <;> omega
  · induction a with
    | nil => intro b c h1 h2; cases b <;> cases c <;> simp_all [listC]
    | cons x a ih =>
      intro b c h1 h2
      cases b with
      | nil => simp [listC] at h1
      | cons y b =>
        cases c with
        | nil => simp [listC] at h2
        | cons z c =>
          unfold listC thenC at h1 h2 ⊢
          have a1 : f x y ≤ 0 := by split at h1 <;> omega
          have a2 : f y z ≤ 0 := by split at h2 <;> omega
          have a3 := h.le x y z a1 a2
          by_cases e3 : f x z = 0
          · obtain ⟨e1, e2⟩ := h.eq a1 a2 e3
            rw [if_neg (by simp [e1])] at h1
            rw [if_neg (by simp [e2])] at h2
            rw [if_neg (by simp [e3])]
            exact ih b c h1 h2
          · rw [if_pos e3]; exact a3
theorem listC_zero {α : Type} {f : α → α → Int} (hf : ∀ a b, f a b = 0 → a = b) : ∀ a b : List α, listC f a b = 0 → a = b
  | [], [], _ => rfl
  | [], _ :: _, h => by simp [listC] at h
  | _ :: _, [], h => by simp [listC] at h
  | a :: x, b :: y, h => by
    unfold listC thenC at h
    split at h
    · contradiction
    · rename_i h1
      rw [hf a b (by omega), listC_zero hf x y h]
theorem cmpS_list : ∀ a b : Bytes, cmpS a b = listC (fun c d : UInt8 => cmpN c.toNat d.toNat) a b
  | [], [] => rfl
  | [], d :: b => by simp [cmpS, listC]
  | c :: a, [] => by simp [cmpS, listC]
  | c :: a, d :: b => by
    have ih := cmpS_list a b
    unfold listC thenC
    rw [← ih]
    unfold cmpS cmpN
    have hlt : (c :: a < d :: b) ↔ (c.toNat < d.toNat ∨ c = d ∧ a < b) := by rw [List.cons_lt_cons_iff, lt_iff_toNat]
    by_cases e : c = d
    · subst e
      simp
    · have e2 : c.toNat ≠ d.toNat := fun h => e (UInt8.toNat_inj.1 h)
      have e3 : ¬ (c :: a = d :: b) := by intro h; cases h; exact e rfl
      simp only [hlt, if_neg e3]
      by_cases h1 : c.toNat < d.toNat
      · simp [h1]
      · have h2 : d.toNat < c.toNat := by omega
        simp [h1, h2, e]
theorem ord_S : Ord3 cmpS := by
  have h := ord_list (ord_N.pull (fun c : UInt8 => c.toNat))
  have e : cmpS = listC (fun c d : UInt8 => cmpN c.toNat d.toNat) := by funext a b; exact cmpS_list a b
  rw [e]; exact h
theorem cmpB_lex : cmpB = fun a b => thenC (cmpN a.length b.length) (cmpS a b) := by
  funext a b
  unfold cmpB thenC cmpN cmpS
  by_cases h : a = b
  · simp [h]
  · rw [if_neg h]
    by_cases h1 : a.length < b.length
    · simp [h1]
    · by_cases h2 : b.length < a.length
      · simp [h1, h2]
      · simp [h1, h2, h]
theorem ord_B : Ord3 cmpB := by
  rw [cmpB_lex]
  exact (ord_N.pull List.length).lex ord_S
theorem cmpG_lex : cmpG = fun x y => thenC (cmpB x.maj y.maj) (thenC (cmpB x.min y.min) (thenC (cmpB x.pat y.pat) (thenC (cmpS x.kind y.kind) (cmpB x.pre y.pre)))) := rfl
theorem ord_G : Ord3 cmpG := by
  rw [cmpG_lex]
  exact (ord_B.pull GV.maj).lex ((ord_B.pull GV.min).lex ((ord_B.pull GV.pat).lex ((ord_S.pull GV.kind).lex (ord_B.pull GV.pre))))
theorem cmpB_zero {a b : Bytes} (h : cmpB a b = 0) : a = b := by
  unfold cmpB at h
  split at h
  · assumption
  · split at h
    · omega
    · split at h
      · omega
      · split at h <;> omega
theorem cmpS_zero {a b : Bytes} (h : cmpS a b = 0) : a = b := by
  unfold cmpS at h
  split at h
  · assumption
  · split at h <;> omega
def optC {α : Type} (f : α → α → Int) : Option α → Option α → Int
  | none, none => 0
  | none, some _ => -1
  | some _, none => 1
  | some a, some b => f a b
theorem ord_opt {α : Type} {f : α → α → Int} (h : Ord3 f) : Ord3 (optC f) := by
  refine ⟨fun a b => ?_, fun a b => ?_, fun a b c h1 h2 => ?_⟩
  · cases a <;> cases b <;> simp [optC]
    exact h.rng _ _
  · cases a <;> cases b <;> simp [optC]
    exact h.back _ _
  · cases a <;> cases b <;> cases c <;> simp [optC] at *
    exact h.le _ _ _ h1 h2
/-- None is more than all. -/
def topC {α : Type} (f : α → α → Int) : Option α → Option α → Int
  | none, none => 0
  | none, some _ => 1
  | some _, none => -1
  | some a, some b => f a b
theorem ord_top {α : Type} {f : α → α → Int} (h : Ord3 f) : Ord3 (topC f) := by
  refine ⟨fun a b => ?_, fun a b => ?_, fun a b c h1 h2 => ?_⟩
  · cases a <;> cases b <;> simp [topC]
    exact h.rng _ _
  · cases a <;> cases b <;> simp [topC]
    exact h.back _ _
  · cases a <;> cases b <;> cases c <;> simp [topC] at *
    exact h.le _ _ _ h1 h2
end Go.Proofs.Ytdhibalpnccbiaa
