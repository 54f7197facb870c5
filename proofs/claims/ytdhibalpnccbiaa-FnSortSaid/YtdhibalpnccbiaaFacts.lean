/- The closed facts on the dump's head, shown without reckoning over the whole head: its first three words suffice. -/
import Derived.Test.YtdhibalpnccbiaaRows
import Derived.JoinedOf
import Derived.KernelRfl
namespace Go.Proofs.Ytdhibalpnccbiaa
open Go

def blank : Char := Char.ofNat 32
theorem wordsSigns_cons (c : Char) (r : List Char) (h : (c == blank) = false) : wordsSigns (c :: r) = match wordsSigns r with | w :: ws => (c :: w) :: ws | [] => [[c]] := by
  conv => lhs; unfold wordsSigns
  split
  · contradiction
  · rename_i heq
    obtain ⟨rfl, rfl⟩ := List.cons.inj heq
    exact absurd h (by decide)
  · rename_i heq
    obtain ⟨rfl, rfl⟩ := List.cons.inj heq
    rfl
theorem wordsSigns_word (r : List Char) : ∀ a : List Char, (a.all fun c => !(c == blank)) = true → wordsSigns (a ++ blank :: r) = a :: wordsSigns r
  | [], _ => rfl
  | c :: a, h => by
    rw [List.all_cons, Bool.and_eq_true] at h
    rw [List.cons_append, wordsSigns_cons _ _ (by simpa using h.1), wordsSigns_word r a h.2]
set_option maxRecDepth 100000 in
theorem headSplit : ∃ cs : List Char, Try.prog.initOrder = String.ofList cs ∧ cs = "harness".toList ++ blank :: ((cs.drop 8).take 64 ++ blank :: ("cut".toList ++ blank :: cs.drop 77)) ∧
    isSumSigns ((cs.drop 8).take 64) = true ∧ (((cs.drop 8).take 64).all fun c => !(c == blank)) = true :=
  ⟨_, rfl, by kernel_rfl, by kernel_rfl, by kernel_rfl⟩
theorem words : ∃ rest, behindMainWord (wordsSigns Try.prog.initOrder.toList) = "cut".toList :: rest := by
  obtain ⟨cs, h1, h2, h3, h4⟩ := headSplit
  generalize (cs.drop 8).take 64 = B at h2 h3 h4
  generalize cs.drop 77 = r at h2
  rw [h1, String.toList_ofList, h2, wordsSigns_word _ _ (by decide +kernel), wordsSigns_word _ _ h4, wordsSigns_word _ _ (by decide +kernel)]
  exact ⟨wordsSigns r, by simp [behindMainWord, h3]⟩
theorem headLifts : Try.prog.headLifts = [] := by
  obtain ⟨rest, h⟩ := words
  unfold Program.headLifts
  rw [h]
  kernel_rfl
theorem liftsFinal_of (P : Program) (rest : List (List Char)) (h : behindMainWord (wordsSigns P.initOrder.toList) = "cut".toList :: rest) (hl : P.headLifts = []) : P.liftsFinal = false := by
  unfold Program.liftsFinal
  rw [h, hl]
  rfl
theorem liftsFinal : Try.prog.liftsFinal = false := by
  obtain ⟨rest, h⟩ := words
  exact liftsFinal_of _ rest h headLifts
theorem make_of (P : Program) (rest : List (List Char)) (h : behindMainWord (wordsSigns P.initOrder.toList) = "cut".toList :: rest) : P.make = some .cut := by
  unfold Program.make
  rw [h]
  have e1 : ("cut".toList == "gc".toList || "cut".toList == "spec".toList) = false := by decide +kernel
  have e2 : ("cut".toList == "cut".toList) = true := by decide +kernel
  simp only [e1, e2, Bool.true_or, if_true, Bool.false_eq_true, if_false]
theorem mayEnter_of (P : Program) (rest : List (List Char)) (h : behindMainWord (wordsSigns P.initOrder.toList) = "cut".toList :: rest)
    (e4 : P.laysLater = false) (e5 : P.bearsReflect = false) (e6 : P.doorFits [] = true) : P.mayEnter = true := by
  unfold Program.mayEnter
  rw [h]
  have e1 : ("cut".toList == "gc".toList || "cut".toList == "spec".toList) = false := by decide +kernel
  have e2 : ("cut".toList == "carried".toList) = false := by decide +kernel
  have e3 : stripLifts liftWords ("cut".toList :: rest) = ([], "cut".toList :: rest) := by kernel_rfl
  simp only [e1, e2, e3, e4, e5, e6]
  rfl
theorem doorRows : Try.prog.doorRows = [] := by kernel_rfl
theorem laysLater : Try.prog.laysLater = false := by kernel_rfl
theorem bearsReflect : Try.prog.bearsReflect = false := by kernel_rfl
theorem doorFits : Try.prog.doorFits [] = true := by
  have h (P : Program) (e : P.doorRows = []) : P.doorFits [] = true := by
    unfold Program.doorFits; rw [e]; rfl
  exact h _ doorRows
theorem mayEnter : Try.prog.mayEnter = true := by
  obtain ⟨rest, h⟩ := words
  exact mayEnter_of _ rest h laysLater bearsReflect doorFits
theorem make : Try.prog.make = some .cut := by
  obtain ⟨rest, h⟩ := words
  exact make_of _ rest h

end Go.Proofs.Ytdhibalpnccbiaa
