/- Plain lists of bytes: what the program's texts compute, with no program in sight. -/
namespace Go.Proofs.Ytdhibalpnccbiaa
abbrev Bytes := List UInt8
def isD (c : UInt8) : Bool := decide (48 ≤ c.toNat) && decide (c.toNat ≤ 57)
def isL (c : UInt8) : Bool := decide (97 ≤ c.toNat) && decide (c.toNat ≤ 122)
def notD (c : UInt8) : Bool := !isD c
/-- How many bytes at the beginning meet p. -/
def tw (p : UInt8 → Bool) (l : Bytes) : Nat := (l.takeWhile p).length

theorem tw_le (p : UInt8 → Bool) (l : Bytes) : tw p l ≤ l.length := (List.takeWhile_sublist p).length_le
theorem tw_at (p : UInt8 → Bool) : ∀ (l : Bytes) (k : Nat) (h : k < l.length), k < tw p l → p l[k] = true
  | [], k, h, _ => by simp at h
  | c :: l, k, h, ht => by
    unfold tw at ht
    rw [List.takeWhile_cons] at ht
    by_cases hc : p c = true
    · rw [if_pos hc] at ht
      cases k with
      | zero => simpa using hc
      | succ k => simpa using tw_at p l k (by simpa using h) (by unfold tw; simpa using ht)
    · rw [if_neg hc] at ht; simp at ht
theorem tw_not (p : UInt8 → Bool) : ∀ (l : Bytes) (h : tw p l < l.length), p l[tw p l] = false
  | [], h => by simp at h
  | c :: l, h => by
    by_cases hc : p c = true
    · have e : tw p (c :: l) = tw p l + 1 := by unfold tw; rw [List.takeWhile_cons, if_pos hc]; rfl
      have h' : tw p l < l.length := by rw [e] at h; simpa using h
      have := tw_not p l h'
      simpa [e] using this
    · have e : tw p (c :: l) = 0 := by unfold tw; rw [List.takeWhile_cons, if_neg hc]; rfl
      simpa [e] using hc
theorem tw_step (p : UInt8 → Bool) (l : Bytes) (k : Nat) (hk : k < l.length) (h : k ≤ tw p l) (hp : p l[k] = true) : k + 1 ≤ tw p l := by
  by_cases e : k = tw p l
  · subst e; rw [tw_not p l hk] at hp; cases hp
  · omega
theorem tw_stop (p : UInt8 → Bool) (l : Bytes) (k : Nat) (hk : k < l.length) (h : k ≤ tw p l) (hp : p l[k] = false) : k = tw p l := by
  by_cases e : k = tw p l
  · exact e
  · rw [tw_at p l k hk (by omega)] at hp; cases hp
theorem tw_end (p : UInt8 → Bool) (l : Bytes) (k : Nat) (hk : l.length ≤ k) (h : k ≤ tw p l) : k = tw p l := by
  have := tw_le p l; omega
theorem take_tw (p : UInt8 → Bool) : ∀ l : Bytes, l.take (tw p l) = l.takeWhile p
  | [] => by simp
  | c :: l => by
    unfold tw
    rw [List.takeWhile_cons]
    by_cases hc : p c = true
    · simp only [hc, if_true, List.length_cons, List.take_succ_cons]; exact congrArg _ (take_tw p l)
    · simp [hc]
theorem drop_tw (p : UInt8 → Bool) : ∀ l : Bytes, l.drop (tw p l) = l.dropWhile p
  | [] => by simp
  | c :: l => by
    unfold tw
    rw [List.takeWhile_cons, List.dropWhile_cons]
    by_cases hc : p c = true
    · simp only [hc, if_true, List.length_cons, List.drop_succ_cons]; exact drop_tw p l
    · simp [hc]

/-- A number without needless noughts. -/
def good : Bytes → Bool
  | [] => false
  | c :: r => r.isEmpty || c != 48
def cutI (l : Bytes) : Option (Bytes × Bytes) := if good (l.takeWhile isD) then some (l.takeWhile isD, l.dropWhile isD) else none

structure GV where
  maj : Bytes
  min : Bytes
  pat : Bytes
  kind : Bytes
  pre : Bytes
def zero : GV := ⟨[], [], [], [], []⟩
/-- Shorter is less; else as texts. -/
def cmpB (a b : Bytes) : Int := if a = b then 0 else if a.length < b.length then -1 else if b.length < a.length then 1 else if a < b then -1 else 1
def cmpS (a b : Bytes) : Int := if a = b then 0 else if a < b then -1 else 1

def parse4 (M m y : Bytes) : GV :=
  if (y.takeWhile notD).all isL = false then zero else if y.takeWhile notD = [] then zero else
  if y.dropWhile notD = [] then ⟨M, m, [], y.takeWhile notD, []⟩ else
  match cutI (y.dropWhile notD) with
  | some (p, []) => ⟨M, m, [], y.takeWhile notD, p⟩
  | _ => zero
def parse3 (M m y : Bytes) : GV :=
  match cutI y with
  | some (p, []) => ⟨M, m, p, [], []⟩
  | _ => zero
def parse2 (M x : Bytes) : GV :=
  match cutI x with
  | none => zero
  | some (m, []) => ⟨M, m, if cmpB m [50, 49] < 0 then [48] else [], [], []⟩
  | some (m, c :: y) => if c = 46 then parse3 M m y else parse4 M m (c :: y)
/-- What gover.Parse computes. -/
def parse (l : Bytes) : GV :=
  match cutI l with
  | none => zero
  | some (M, []) => ⟨M, [48], [48], [], []⟩
  | some (M, c :: x) => if c = 46 then parse2 M x else zero

def tAlpha : Bytes := [97, 108, 112, 104, 97]
def tBeta : Bytes := [98, 101, 116, 97]
def tRc : Bytes := [114, 99]
def read4 (M m y : Bytes) : GV × Nat :=
  if y.takeWhile isL = [] then (zero, 2) else
  if ((y.takeWhile isL ≠ tAlpha ∧ y.takeWhile isL ≠ tBeta) ∧ y.takeWhile isL ≠ tRc) ∨ y.dropWhile isL = [] then (zero, 0) else
  match cutI (y.dropWhile isL) with
  | some (p, []) => (⟨M, m, [], y.takeWhile isL, p⟩, 1)
  | _ => (zero, 2)
def read3 (M m y : Bytes) : GV × Nat :=
  match cutI y with
  | some (p, []) => (⟨M, m, p, [], []⟩, 1)
  | _ => (zero, 2)
def read2 (M x : Bytes) : GV × Nat :=
  match cutI x with
  | none => (zero, 2)
  | some (m, []) => (⟨M, m, if cmpB m [50, 49] < 0 then [48] else [], [], []⟩, 1)
  | some (m, c :: y) => if c = 46 then read3 M m y else read4 M m (c :: y)
/-- What spec.Read computes. -/
def read (l : Bytes) : GV × Nat :=
  match cutI l with
  | none => (zero, 2)
  | some (M, []) => (⟨M, [48], [48], [], []⟩, 1)
  | some (M, c :: x) => if c = 46 then read2 M x else (zero, 2)

theorem notD_of_isL {c : UInt8} (h : isL c = true) : notD c = true := by
  simp [isL, notD, isD] at *; omega
theorem split_all (p q : UInt8 → Bool) (hpq : ∀ c, p c = true → q c = true) : ∀ y : Bytes,
    ((y.takeWhile q).all p = true → y.takeWhile p = y.takeWhile q ∧ y.dropWhile p = y.dropWhile q) ∧
    ((y.takeWhile q).all p = false → ∃ c r, y.dropWhile p = c :: r ∧ p c = false ∧ q c = true)
  | [] => by simp
  | c :: y => by
    have ih := split_all p q hpq y
    by_cases hc : p c = true
    · have hq := hpq c hc
      simp only [List.takeWhile_cons, List.dropWhile_cons, hc, hq, if_true, List.all_cons, Bool.true_and]
      exact ⟨fun h => ⟨by rw [(ih.1 h).1], (ih.1 h).2⟩, ih.2⟩
    · have hc' : p c = false := by simpa using hc
      by_cases hq : q c = true
      · simp only [List.takeWhile_cons, List.dropWhile_cons, hc', hq, if_true, List.all_cons, Bool.false_and, Bool.false_eq_true, if_false]
        exact ⟨(fun h => by cases h), fun _ => ⟨c, y, rfl, hc', hq⟩⟩
      · simp only [List.takeWhile_cons, List.dropWhile_cons, hc', hq, if_false, Bool.false_eq_true, List.all_nil]
        exact ⟨fun _ => ⟨trivial, trivial⟩, (fun h => by cases h)⟩
theorem cutI_none_of_head {c : UInt8} {r : Bytes} (h : isD c = false) : cutI (c :: r) = none := by
  simp [cutI, h, good]
theorem read4_parse4 (M m y : Bytes) (h : (read4 M m y).2 ≠ 0) : parse4 M m y = (read4 M m y).1 := by
  have hs := split_all isL notD (fun c => notD_of_isL) y
  unfold read4 at h ⊢
  unfold parse4
  by_cases ha : (y.takeWhile notD).all isL = true
  · obtain ⟨e1, e2⟩ := hs.1 ha
    rw [e1, e2] at h ⊢
    rw [if_neg (by simp [ha])]
    by_cases hk : y.takeWhile notD = []
    · rw [if_pos hk, if_pos hk]
    · rw [if_neg hk, if_neg hk]
      rw [if_neg hk] at h
      split at h
      · simp at h
      · rename_i hn
        rw [if_neg hn, if_neg (fun e => hn (Or.inr e))]
        split <;> simp_all
  · have ha' : (y.takeWhile notD).all isL = false := by simpa using ha
    rw [if_pos ha']
    obtain ⟨c, r, e, hc, hq⟩ := hs.2 ha'
    by_cases hk : y.takeWhile isL = []
    · rw [if_pos hk]
    · rw [if_neg hk] at h ⊢
      split at h
      · simp at h
      · rename_i hn
        rw [if_neg hn, e, cutI_none_of_head (by simpa [notD] using hq)]
theorem read_parse (l : Bytes) (h : (read l).2 ≠ 0) : parse l = (read l).1 := by
  unfold read at h ⊢
  unfold parse
  rcases e : cutI l with _ | ⟨M, _ | ⟨c, x⟩⟩ <;> simp only [e] at h ⊢
  by_cases hc : c = 46
  · rw [if_pos hc] at h
    rw [if_pos hc, if_pos hc]
    unfold read2 at h ⊢
    unfold parse2
    rcases e2 : cutI x with _ | ⟨m, _ | ⟨c2, y⟩⟩ <;> simp only [e2] at h ⊢
    by_cases hc2 : c2 = 46
    · rw [if_pos hc2, if_pos hc2]
      unfold read3 parse3
      split <;> simp_all
    · rw [if_neg hc2] at h
      rw [if_neg hc2, if_neg hc2]
      exact read4_parse4 _ _ _ h
  · rw [if_neg hc, if_neg hc]
theorem all_take_succ (p : UInt8 → Bool) (l : Bytes) (k : Nat) (h : k < l.length) (ha : (l.take k).all p = true) (hp : p l[k] = true) : (l.take (k + 1)).all p = true := by
  rw [List.take_succ_eq_append_getElem h, List.all_append, ha]
  simpa using hp
theorem all_at (p q : UInt8 → Bool) (l : Bytes) (k : Nat) (h : k < l.length) (hk : k < tw q l) (ha : (l.takeWhile q).all p = true) : p l[k] = true := by
  rw [← take_tw] at ha
  rw [List.all_eq_true] at ha
  refine ha _ ?_
  rw [List.mem_take_iff_getElem]
  exact ⟨k, by omega, rfl⟩
theorem all_exit (p q : UInt8 → Bool) (l : Bytes) (k : Nat) (hk : k = tw q l) (ha : (l.take k).all p = true) : (l.takeWhile q).all p = true := by
  rw [← take_tw, ← hk]; exact ha
end Go.Proofs.Ytdhibalpnccbiaa
