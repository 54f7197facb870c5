/- semver.parse. -/
import Derived.Test.YtdhibalpnccbiaaSem2
import Derived.Handy
namespace Go.Proofs.Ytdhibalpnccbiaa
open Go.RowKit
set_option linter.unusedVariables false

structure SV where
  maj : Bytes
  min : Bytes
  pat : Bytes
  short : Bytes
  pre : Bytes
  build : Bytes
def sgv (s : SV) : Value := .agg #[.string (bs s.maj), .string (bs s.min), .string (bs s.pat), .string (bs s.short), .string (bs s.pre), .string (bs s.build)]
def bldP (z : Bytes) : Option Bytes := match z with
  | [] => some []
  | c :: t => if c.toNat = 43 then (match scanB [] t with | none => none | some _ => some (c :: t)) else none
def tailP (z : Bytes) : Option (Bytes × Bytes) := match z with
  | [] => some ([], [])
  | c :: t => if c.toNat = 45 then
      match scanP [] t with
      | none => none
      | some r => match bldP r with | none => none | some b => some ((c :: t).take ((c :: t).length - r.length), b)
    else match bldP (c :: t) with | none => none | some b => some ([], b)
def semP (l : Bytes) : Option SV := match l with
  | [] => none
  | c :: r => if c.toNat ≠ 118 then none else
    match cutI r with
    | none => none
    | some (M, []) => some ⟨M, [48], [48], [46, 48, 46, 48], [], []⟩
    | some (M, d :: x) => if d.toNat ≠ 46 then none else
      match cutI x with
      | none => none
      | some (m, []) => some ⟨M, m, [48], [46, 48], [], []⟩
      | some (m, d2 :: y) => if d2.toNat ≠ 46 then none else
        match cutI y with
        | none => none
        | some (p, z) => match tailP z with | none => none | some (a, b) => some ⟨M, m, p, [], a, b⟩
theorem scanB_rest : ∀ (x seg r : Bytes), scanB seg x = some r → r = []
  | [], seg, r, h => by
    unfold scanB at h
    split at h <;> simp_all
  | c :: x, seg, r, h => by
    unfold scanB at h
    split at h
    · split at h
      · cases h
      · exact scanB_rest x _ r h
    · split at h
      · exact scanB_rest x _ r h
      · cases h
theorem scanP_rest : ∀ (x seg r : Bytes), scanP seg x = some r → r = [] ∨ ∃ t, r = 43 :: t
  | [], seg, r, h => by
    unfold scanP at h
    split at h <;> simp_all
  | c :: x, seg, r, h => by
    unfold scanP at h
    split at h
    · rename_i hc
      split at h
      · cases h
      · cases h
        exact .inr ⟨x, by rw [show c = 43 from UInt8.toNat_inj.1 (by rw [hc]; rfl)]⟩
    · split at h
      · split at h
        · cases h
        · exact scanP_rest x _ r h
      · split at h
        · exact scanP_rest x _ r h
        · cases h
theorem scanP_len : ∀ (x seg r : Bytes), scanP seg x = some r → r.length ≤ x.length
  | [], seg, r, h => by
    unfold scanP at h
    split at h <;> simp_all
  | c :: x, seg, r, h => by
    unfold scanP at h
    split at h
    · split at h
      · cases h
      · cases h; simp
    · split at h
      · split at h
        · cases h
        · have := scanP_len x _ r h; simp; omega
      · split at h
        · have := scanP_len x _ r h; simp; omega
        · cases h
def SemE (l : Bytes) (e : Ending) : Prop := match semP l with
  | none => ∃ S, e = .returned (.tuple #[sgv S, .bool false])
  | some S => e = .returned (.tuple #[sgv S, .bool true])
theorem semE_none {l : Bytes} {e : Ending} (h : semP l = none) (S : SV) (he : e = .returned (.tuple #[sgv S, .bool false])) : SemE l e := by
  unfold SemE; rw [h]; exact ⟨S, he⟩
theorem semE_some {l : Bytes} {e : Ending} {S : SV} (h : semP l = some S) (he : e = .returned (.tuple #[sgv S, .bool true])) : SemE l e := by
  unfold SemE; rw [h]; exact he

set_option maxRecDepth 100000 in
set_option maxHeartbeats 1000000 in
theorem sem_1 (l : Bytes) (w : World) (hs : l.length ≤ maxLen) (h : l = [] ∨ (0 < l.length ∧ bl l 0 ≠ 118)) :
    Calls Try.prog 90 #[.string (bs l)] w fun e w' => SemE l e ∧ Below w.heap.size w w' := by
  unfold maxLen at hs
  rcases h with rfl | ⟨h, h2⟩
  · have HG : Hid (semP [] = none) := Lib.hid rfl
    go_enter Try.func90, Try.ntmps90
    go_wp2
    refine bodyPost_ret (v := .tuple #[sgv ⟨[], [], [], [], [], []⟩, .bool false]) (by simp [results, Try.results90, go_sem]; try rfl) rfl ⟨semE_none HG.out _ rfl, ?_⟩
    repeat' (first | exact Below.refl _ _ | refine below_drewN ?_ _ | refine Below.drew ?_ | refine Below.alloc ?_ ?_ _ | refine Below.setCell ?_ ?_ _ | go_size)
  · have HG : Hid (semP l = none) := by
      cases l with
      | nil => simp at h
      | cons c r =>
        have : c.toNat ≠ 118 := h2
        show semP (c :: r) = none
        simp [semP, this]
    have hne : (l == []) = false := by cases l <;> simp_all
    have hne2 : l.isEmpty = false := by cases l <;> simp_all
    have h45 : ((bl l 0 : Int) != 118) = true := by simp; omega
    clear h2
    go_enter Try.func90, Try.ntmps90
    go_wp2
    refine bodyPost_ret (v := .tuple #[sgv ⟨[], [], [], [], [], []⟩, .bool false]) (by simp [results, Try.results90, go_sem]; try rfl) rfl ⟨semE_none HG.out _ rfl, ?_⟩
    repeat' (first | exact Below.refl _ _ | refine below_drewN ?_ _ | refine Below.drew ?_ | refine Below.alloc ?_ ?_ _ | refine Below.setCell ?_ ?_ _ | go_size)
/- WALKS -/
theorem preV_full {l : Bytes} (h : scanP [] (l.drop 1) = some []) : preV l = .tuple #[.string (bs l), .string (bs []), .bool true] := by
  unfold preV; rw [h]; simp
theorem buildV_full {l : Bytes} (h : scanB [] (l.drop 1) = some []) : buildV l = .tuple #[.string (bs l), .string (bs []), .bool true] := by
  unfold buildV; rw [h]; simp
set_option maxRecDepth 100000 in
set_option maxHeartbeats 1000000 in
theorem sem_2 (r : Bytes) (w : World) (hs : (118 :: r).length ≤ maxLen) (h1 : cutI r = none) :
    Calls Try.prog 90 #[.string (bs (118 :: r))] w fun e w' => SemE (118 :: r) e ∧ Below w.heap.size w w' := by
  have HR : Hid (r.length ≤ maxLen) := by show _ ≤ _; simp at hs; omega
  have HG : Hid (semP (118 :: r) = none) := by show _ = _; simp [semP, h1]
  have Kh1 := Lib.hid h1
  clear h1
  unfold maxLen at hs
  go_enter Try.func90, Try.ntmps90
  go_wp2_with fail
  refine (pint_none _ HR.out Kh1.out).mono ?_
  rintro e w' ⟨rfl, n1, rfl⟩
  go_wp2
  refine bodyPost_ret (v := .tuple #[sgv ⟨[], [], [], [], [], []⟩, .bool false]) (by simp [results, Try.results90, go_sem]; try rfl) rfl ⟨semE_none HG.out _ rfl, ?_⟩
  repeat' (first | exact Below.refl _ _ | refine below_drewN ?_ _ | refine Below.drew ?_ | refine Below.alloc ?_ ?_ _ | refine Below.setCell ?_ ?_ _ | go_size)
set_option maxRecDepth 100000 in
set_option maxHeartbeats 1000000 in
theorem sem_3 (r M : Bytes) (w : World) (hs : (118 :: r).length ≤ maxLen) (h1 : cutI r = some (M, [])) :
    Calls Try.prog 90 #[.string (bs (118 :: r))] w fun e w' => SemE (118 :: r) e ∧ Below w.heap.size w w' := by
  have HR : Hid (r.length ≤ maxLen) := by show _ ≤ _; simp at hs; omega
  have HG : Hid (semP (118 :: r) = some ⟨M, [48], [48], [46, 48, 46, 48], [], []⟩) := by show _ = _; simp [semP, h1]
  have Kh1 := Lib.hid h1
  clear h1
  unfold maxLen at hs
  go_enter Try.func90, Try.ntmps90
  go_wp2_with fail
  refine (pint_some _ HR.out Kh1.out).mono ?_
  rintro e w' ⟨rfl, n1, rfl⟩
  go_wp2
  refine bodyPost_ret (v := .tuple #[sgv ⟨M, [48], [48], [46, 48, 46, 48], [], []⟩, .bool true]) (by simp [results, Try.results90, go_sem]; try rfl) rfl ⟨semE_some HG.out rfl, ?_⟩
  repeat' (first | exact Below.refl _ _ | refine below_drewN ?_ _ | refine Below.drew ?_ | refine Below.alloc ?_ ?_ _ | refine Below.setCell ?_ ?_ _ | go_size)
set_option maxRecDepth 100000 in
set_option maxHeartbeats 1000000 in
theorem sem_4 (r M x : Bytes) (w : World) (hs : (118 :: r).length ≤ maxLen) (d : UInt8) (h1 : cutI r = some (M, d :: x)) (hd : d.toNat ≠ 46) :
    Calls Try.prog 90 #[.string (bs (118 :: r))] w fun e w' => SemE (118 :: r) e ∧ Below w.heap.size w w' := by
  have HR : Hid (r.length ≤ maxLen) := by show _ ≤ _; simp at hs; omega
  have HG : Hid (semP (118 :: r) = none) := by show _ = _; simp [semP, h1, hd]
  have hd' : ((d.toNat : Int) != 46) = true := by simp; omega
  have Kh1 := Lib.hid h1
  have Khd := Lib.hid hd
  clear h1 hd
  unfold maxLen at hs
  go_enter Try.func90, Try.ntmps90
  go_wp2_with fail
  refine (pint_some _ HR.out Kh1.out).mono ?_
  rintro e w' ⟨rfl, n1, rfl⟩
  go_wp2
  refine bodyPost_ret (v := .tuple #[sgv ⟨M, [], [], [], [], []⟩, .bool false]) (by simp [results, Try.results90, go_sem]; try rfl) rfl ⟨semE_none HG.out _ rfl, ?_⟩
  repeat' (first | exact Below.refl _ _ | refine below_drewN ?_ _ | refine Below.drew ?_ | refine Below.alloc ?_ ?_ _ | refine Below.setCell ?_ ?_ _ | go_size)
set_option maxRecDepth 100000 in
set_option maxHeartbeats 1000000 in
theorem sem_5 (r M x : Bytes) (w : World) (hs : (118 :: r).length ≤ maxLen) (h1 : cutI r = some (M, 46 :: x)) (h2 : cutI x = none) :
    Calls Try.prog 90 #[.string (bs (118 :: r))] w fun e w' => SemE (118 :: r) e ∧ Below w.heap.size w w' := by
  have HR : Hid (r.length ≤ maxLen) := by show _ ≤ _; simp at hs; omega
  have HX : Hid (x.length ≤ maxLen) := by have := HR.out; have := cutI_len h1; simp at this; show _ ≤ _; omega
  have HG : Hid (semP (118 :: r) = none) := by show _ = _; simp [semP, h1, h2]
  have Kh1 := Lib.hid h1
  have Kh2 := Lib.hid h2
  clear h1 h2
  unfold maxLen at hs
  go_enter Try.func90, Try.ntmps90
  go_wp2_with fail
  refine (pint_some _ HR.out Kh1.out).mono ?_
  rintro e w' ⟨rfl, n1, rfl⟩
  go_wp2_with fail
  refine (pint_none _ HX.out Kh2.out).mono ?_
  rintro e w' ⟨rfl, n2, rfl⟩
  go_wp2
  refine bodyPost_ret (v := .tuple #[sgv ⟨M, [], [], [], [], []⟩, .bool false]) (by simp [results, Try.results90, go_sem]; try rfl) rfl ⟨semE_none HG.out _ rfl, ?_⟩
  repeat' (first | exact Below.refl _ _ | refine below_drewN ?_ _ | refine Below.drew ?_ | refine Below.alloc ?_ ?_ _ | refine Below.setCell ?_ ?_ _ | go_size)
set_option maxRecDepth 100000 in
set_option maxHeartbeats 1000000 in
theorem sem_6 (r M x m : Bytes) (w : World) (hs : (118 :: r).length ≤ maxLen) (h1 : cutI r = some (M, 46 :: x)) (h2 : cutI x = some (m, [])) :
    Calls Try.prog 90 #[.string (bs (118 :: r))] w fun e w' => SemE (118 :: r) e ∧ Below w.heap.size w w' := by
  have HR : Hid (r.length ≤ maxLen) := by show _ ≤ _; simp at hs; omega
  have HX : Hid (x.length ≤ maxLen) := by have := HR.out; have := cutI_len h1; simp at this; show _ ≤ _; omega
  have HG : Hid (semP (118 :: r) = some ⟨M, m, [48], [46, 48], [], []⟩) := by show _ = _; simp [semP, h1, h2]
  have Kh1 := Lib.hid h1
  have Kh2 := Lib.hid h2
  clear h1 h2
  unfold maxLen at hs
  go_enter Try.func90, Try.ntmps90
  go_wp2_with fail
  refine (pint_some _ HR.out Kh1.out).mono ?_
  rintro e w' ⟨rfl, n1, rfl⟩
  go_wp2_with fail
  refine (pint_some _ HX.out Kh2.out).mono ?_
  rintro e w' ⟨rfl, n2, rfl⟩
  go_wp2
  refine bodyPost_ret (v := .tuple #[sgv ⟨M, m, [48], [46, 48], [], []⟩, .bool true]) (by simp [results, Try.results90, go_sem]; try rfl) rfl ⟨semE_some HG.out rfl, ?_⟩
  repeat' (first | exact Below.refl _ _ | refine below_drewN ?_ _ | refine Below.drew ?_ | refine Below.alloc ?_ ?_ _ | refine Below.setCell ?_ ?_ _ | go_size)
set_option maxRecDepth 100000 in
set_option maxHeartbeats 1000000 in
theorem sem_7 (r M x m y : Bytes) (w : World) (hs : (118 :: r).length ≤ maxLen) (h1 : cutI r = some (M, 46 :: x)) (d : UInt8) (h2 : cutI x = some (m, d :: y)) (hd : d.toNat ≠ 46) :
    Calls Try.prog 90 #[.string (bs (118 :: r))] w fun e w' => SemE (118 :: r) e ∧ Below w.heap.size w w' := by
  have HR : Hid (r.length ≤ maxLen) := by show _ ≤ _; simp at hs; omega
  have HX : Hid (x.length ≤ maxLen) := by have := HR.out; have := cutI_len h1; simp at this; show _ ≤ _; omega
  have HG : Hid (semP (118 :: r) = none) := by show _ = _; simp [semP, h1, h2, hd]
  have hd' : ((d.toNat : Int) != 46) = true := by simp; omega
  have Kh1 := Lib.hid h1
  have Kh2 := Lib.hid h2
  have Khd := Lib.hid hd
  clear h1 h2 hd
  unfold maxLen at hs
  go_enter Try.func90, Try.ntmps90
  go_wp2_with fail
  refine (pint_some _ HR.out Kh1.out).mono ?_
  rintro e w' ⟨rfl, n1, rfl⟩
  go_wp2_with fail
  refine (pint_some _ HX.out Kh2.out).mono ?_
  rintro e w' ⟨rfl, n2, rfl⟩
  go_wp2
  refine bodyPost_ret (v := .tuple #[sgv ⟨M, m, [], [], [], []⟩, .bool false]) (by simp [results, Try.results90, go_sem]; try rfl) rfl ⟨semE_none HG.out _ rfl, ?_⟩
  repeat' (first | exact Below.refl _ _ | refine below_drewN ?_ _ | refine Below.drew ?_ | refine Below.alloc ?_ ?_ _ | refine Below.setCell ?_ ?_ _ | go_size)
set_option maxRecDepth 100000 in
set_option maxHeartbeats 1000000 in
theorem sem_8 (r M x m y : Bytes) (w : World) (hs : (118 :: r).length ≤ maxLen) (h1 : cutI r = some (M, 46 :: x)) (h2 : cutI x = some (m, 46 :: y)) (h3 : cutI y = none) :
    Calls Try.prog 90 #[.string (bs (118 :: r))] w fun e w' => SemE (118 :: r) e ∧ Below w.heap.size w w' := by
  have HR : Hid (r.length ≤ maxLen) := by show _ ≤ _; simp at hs; omega
  have HX : Hid (x.length ≤ maxLen) := by have := HR.out; have := cutI_len h1; simp at this; show _ ≤ _; omega
  have HY : Hid (y.length ≤ maxLen) := by have := HX.out; have := cutI_len h2; simp at this; show _ ≤ _; omega
  have HG : Hid (semP (118 :: r) = none) := by show _ = _; simp [semP, h1, h2, h3]
  have Kh1 := Lib.hid h1
  have Kh2 := Lib.hid h2
  have Kh3 := Lib.hid h3
  clear h1 h2 h3
  unfold maxLen at hs
  go_enter Try.func90, Try.ntmps90
  go_wp2_with fail
  refine (pint_some _ HR.out Kh1.out).mono ?_
  rintro e w' ⟨rfl, n1, rfl⟩
  go_wp2_with fail
  refine (pint_some _ HX.out Kh2.out).mono ?_
  rintro e w' ⟨rfl, n2, rfl⟩
  go_wp2_with fail
  refine (pint_none _ HY.out Kh3.out).mono ?_
  rintro e w' ⟨rfl, n3, rfl⟩
  go_wp2
  refine bodyPost_ret (v := .tuple #[sgv ⟨M, m, [], [], [], []⟩, .bool false]) (by simp [results, Try.results90, go_sem]; try rfl) rfl ⟨semE_none HG.out _ rfl, ?_⟩
  repeat' (first | exact Below.refl _ _ | refine below_drewN ?_ _ | refine Below.drew ?_ | refine Below.alloc ?_ ?_ _ | refine Below.setCell ?_ ?_ _ | go_size)
set_option maxRecDepth 100000 in
set_option maxHeartbeats 1000000 in
theorem sem_9 (r M x m y q : Bytes) (w : World) (hs : (118 :: r).length ≤ maxLen) (h1 : cutI r = some (M, 46 :: x)) (h2 : cutI x = some (m, 46 :: y)) (h3 : cutI y = some (q, [])) :
    Calls Try.prog 90 #[.string (bs (118 :: r))] w fun e w' => SemE (118 :: r) e ∧ Below w.heap.size w w' := by
  have HR : Hid (r.length ≤ maxLen) := by show _ ≤ _; simp at hs; omega
  have HX : Hid (x.length ≤ maxLen) := by have := HR.out; have := cutI_len h1; simp at this; show _ ≤ _; omega
  have HY : Hid (y.length ≤ maxLen) := by have := HX.out; have := cutI_len h2; simp at this; show _ ≤ _; omega
  have HG : Hid (semP (118 :: r) = some ⟨M, m, q, [], [], []⟩) := by show _ = _; simp [semP, h1, h2, h3, tailP]
  have Kh1 := Lib.hid h1
  have Kh2 := Lib.hid h2
  have Kh3 := Lib.hid h3
  clear h1 h2 h3
  unfold maxLen at hs
  go_enter Try.func90, Try.ntmps90
  go_wp2_with fail
  refine (pint_some _ HR.out Kh1.out).mono ?_
  rintro e w' ⟨rfl, n1, rfl⟩
  go_wp2_with fail
  refine (pint_some _ HX.out Kh2.out).mono ?_
  rintro e w' ⟨rfl, n2, rfl⟩
  go_wp2_with fail
  refine (pint_some _ HY.out Kh3.out).mono ?_
  rintro e w' ⟨rfl, n3, rfl⟩
  go_wp2
  refine bodyPost_ret (v := .tuple #[sgv ⟨M, m, q, [], [], []⟩, .bool true]) (by simp [results, Try.results90, go_sem]; try rfl) rfl ⟨semE_some HG.out rfl, ?_⟩
  repeat' (first | exact Below.refl _ _ | refine below_drewN ?_ _ | refine Below.drew ?_ | refine Below.alloc ?_ ?_ _ | refine Below.setCell ?_ ?_ _ | go_size)
set_option maxRecDepth 100000 in
set_option maxHeartbeats 1000000 in
theorem sem_10 (r M x m y q t : Bytes) (w : World) (hs : (118 :: r).length ≤ maxLen) (h1 : cutI r = some (M, 46 :: x)) (h2 : cutI x = some (m, 46 :: y)) (d : UInt8) (h3 : cutI y = some (q, d :: t)) (e1 : d.toNat ≠ 45) (e2 : d.toNat ≠ 43) :
    Calls Try.prog 90 #[.string (bs (118 :: r))] w fun e w' => SemE (118 :: r) e ∧ Below w.heap.size w w' := by
  have HR : Hid (r.length ≤ maxLen) := by show _ ≤ _; simp at hs; omega
  have HX : Hid (x.length ≤ maxLen) := by have := HR.out; have := cutI_len h1; simp at this; show _ ≤ _; omega
  have HY : Hid (y.length ≤ maxLen) := by have := HX.out; have := cutI_len h2; simp at this; show _ ≤ _; omega
  have HG : Hid (semP (118 :: r) = none) := by show _ = _; simp [semP, h1, h2, h3, tailP, bldP, e1, e2]
  have f1 : ((d.toNat : Int) == 45) = false := by simp; omega
  have f2 : ((d.toNat : Int) == 43) = false := by simp; omega
  have Kh1 := Lib.hid h1
  have Kh2 := Lib.hid h2
  have Kh3 := Lib.hid h3
  have Ke1 := Lib.hid e1
  have Ke2 := Lib.hid e2
  clear h1 h2 h3 e1 e2
  unfold maxLen at hs
  go_enter Try.func90, Try.ntmps90
  go_wp2_with fail
  refine (pint_some _ HR.out Kh1.out).mono ?_
  rintro e w' ⟨rfl, n1, rfl⟩
  go_wp2_with fail
  refine (pint_some _ HX.out Kh2.out).mono ?_
  rintro e w' ⟨rfl, n2, rfl⟩
  go_wp2_with fail
  refine (pint_some _ HY.out Kh3.out).mono ?_
  rintro e w' ⟨rfl, n3, rfl⟩
  go_wp2
  refine bodyPost_ret (v := .tuple #[sgv ⟨M, m, q, [], [], []⟩, .bool false]) (by simp [results, Try.results90, go_sem]; try rfl) rfl ⟨semE_none HG.out _ rfl, ?_⟩
  repeat' (first | exact Below.refl _ _ | refine below_drewN ?_ _ | refine Below.drew ?_ | refine Below.alloc ?_ ?_ _ | refine Below.setCell ?_ ?_ _ | go_size)
set_option maxRecDepth 100000 in
set_option maxHeartbeats 1000000 in
theorem sem_11 (r M x m y q t : Bytes) (w : World) (hs : (118 :: r).length ≤ maxLen) (h1 : cutI r = some (M, 46 :: x)) (h2 : cutI x = some (m, 46 :: y)) (h3 : cutI y = some (q, 45 :: t)) (h4 : scanP [] t = none) :
    Calls Try.prog 90 #[.string (bs (118 :: r))] w fun e w' => SemE (118 :: r) e ∧ Below w.heap.size w w' := by
  have HR : Hid (r.length ≤ maxLen) := by show _ ≤ _; simp at hs; omega
  have HX : Hid (x.length ≤ maxLen) := by have := HR.out; have := cutI_len h1; simp at this; show _ ≤ _; omega
  have HY : Hid (y.length ≤ maxLen) := by have := HX.out; have := cutI_len h2; simp at this; show _ ≤ _; omega
  have HZ : Hid ((45 :: t).length ≤ maxLen) := by have := HY.out; have := cutI_len h3; show _ ≤ _; simp at *; omega
  have hz1 : 1 ≤ (45 :: t : Bytes).length := by simp
  have hz2 : bl (45 :: t) 0 = 45 := rfl
  have HG : Hid (semP (118 :: r) = none) := by show _ = _; simp [semP, h1, h2, h3, tailP, h4]
  have HV := Lib.hid (preV_none (l := 45 :: t) h4)
  have Kh1 := Lib.hid h1
  have Kh2 := Lib.hid h2
  have Kh3 := Lib.hid h3
  have Kh4 := Lib.hid h4
  clear h1 h2 h3 h4
  unfold maxLen at hs
  go_enter Try.func90, Try.ntmps90
  go_wp2_with fail
  refine (pint_some _ HR.out Kh1.out).mono ?_
  rintro e w' ⟨rfl, n1, rfl⟩
  go_wp2_with fail
  refine (pint_some _ HX.out Kh2.out).mono ?_
  rintro e w' ⟨rfl, n2, rfl⟩
  go_wp2_with fail
  refine (pint_some _ HY.out Kh3.out).mono ?_
  rintro e w' ⟨rfl, n3, rfl⟩
  go_wp2_with fail
  refine (pre_any _ _ HZ.out hz1 hz2).mono ?_
  rintro e w' ⟨rfl, n4, rfl⟩
  rw [HV.out]
  go_wp2
  refine bodyPost_ret (v := .tuple #[sgv ⟨M, m, q, [], [], []⟩, .bool false]) (by simp [results, Try.results90, go_sem]; try rfl) rfl ⟨semE_none HG.out _ rfl, ?_⟩
  repeat' (first | exact Below.refl _ _ | refine below_drewN ?_ _ | refine Below.drew ?_ | refine Below.alloc ?_ ?_ _ | refine Below.setCell ?_ ?_ _ | go_size)
set_option maxRecDepth 100000 in
set_option maxHeartbeats 1000000 in
theorem sem_12 (r M x m y q t : Bytes) (w : World) (hs : (118 :: r).length ≤ maxLen) (h1 : cutI r = some (M, 46 :: x)) (h2 : cutI x = some (m, 46 :: y)) (h3 : cutI y = some (q, 45 :: t)) (h4 : scanP [] t = some []) :
    Calls Try.prog 90 #[.string (bs (118 :: r))] w fun e w' => SemE (118 :: r) e ∧ Below w.heap.size w w' := by
  have HR : Hid (r.length ≤ maxLen) := by show _ ≤ _; simp at hs; omega
  have HX : Hid (x.length ≤ maxLen) := by have := HR.out; have := cutI_len h1; simp at this; show _ ≤ _; omega
  have HY : Hid (y.length ≤ maxLen) := by have := HX.out; have := cutI_len h2; simp at this; show _ ≤ _; omega
  have HZ : Hid ((45 :: t).length ≤ maxLen) := by have := HY.out; have := cutI_len h3; show _ ≤ _; simp at *; omega
  have hz1 : 1 ≤ (45 :: t : Bytes).length := by simp
  have hz2 : bl (45 :: t) 0 = 45 := rfl
  have HG : Hid (semP (118 :: r) = some ⟨M, m, q, [], 45 :: t, []⟩) := by show _ = _; simp [semP, h1, h2, h3, tailP, h4, bldP]
  have HV := Lib.hid (preV_full (l := 45 :: t) h4)
  have Kh1 := Lib.hid h1
  have Kh2 := Lib.hid h2
  have Kh3 := Lib.hid h3
  have Kh4 := Lib.hid h4
  clear h1 h2 h3 h4
  unfold maxLen at hs
  go_enter Try.func90, Try.ntmps90
  go_wp2_with fail
  refine (pint_some _ HR.out Kh1.out).mono ?_
  rintro e w' ⟨rfl, n1, rfl⟩
  go_wp2_with fail
  refine (pint_some _ HX.out Kh2.out).mono ?_
  rintro e w' ⟨rfl, n2, rfl⟩
  go_wp2_with fail
  refine (pint_some _ HY.out Kh3.out).mono ?_
  rintro e w' ⟨rfl, n3, rfl⟩
  go_wp2_with fail
  refine (pre_any _ _ HZ.out hz1 hz2).mono ?_
  rintro e w' ⟨rfl, n4, rfl⟩
  rw [HV.out]
  go_wp2
  refine bodyPost_ret (v := .tuple #[sgv ⟨M, m, q, [], 45 :: t, []⟩, .bool true]) (by simp [results, Try.results90, go_sem]; try rfl) rfl ⟨semE_some HG.out rfl, ?_⟩
  repeat' (first | exact Below.refl _ _ | refine below_drewN ?_ _ | refine Below.drew ?_ | refine Below.alloc ?_ ?_ _ | refine Below.setCell ?_ ?_ _ | go_size)
set_option maxRecDepth 100000 in
set_option maxHeartbeats 1000000 in
theorem sem_13 (r M x m y q t u : Bytes) (w : World) (hs : (118 :: r).length ≤ maxLen) (h1 : cutI r = some (M, 46 :: x)) (h2 : cutI x = some (m, 46 :: y)) (h3 : cutI y = some (q, 45 :: t)) (h4 : scanP [] t = some (43 :: u)) (h5 : scanB [] u = none) :
    Calls Try.prog 90 #[.string (bs (118 :: r))] w fun e w' => SemE (118 :: r) e ∧ Below w.heap.size w w' := by
  have HR : Hid (r.length ≤ maxLen) := by show _ ≤ _; simp at hs; omega
  have HX : Hid (x.length ≤ maxLen) := by have := HR.out; have := cutI_len h1; simp at this; show _ ≤ _; omega
  have HY : Hid (y.length ≤ maxLen) := by have := HX.out; have := cutI_len h2; simp at this; show _ ≤ _; omega
  have HZ : Hid ((45 :: t).length ≤ maxLen) := by have := HY.out; have := cutI_len h3; show _ ≤ _; simp at *; omega
  have hz1 : 1 ≤ (45 :: t : Bytes).length := by simp
  have hz2 : bl (45 :: t) 0 = 45 := rfl
  have HG : Hid (semP (118 :: r) = none) := by show _ = _; simp [semP, h1, h2, h3, tailP, h4, bldP, h5]
  have HB : Hid ((43 :: u).length ≤ maxLen) := by have := HZ.out; have := scanP_len _ _ _ h4; show _ ≤ _; simp at *; omega
  have hb1 : 1 ≤ (43 :: u : Bytes).length := by simp
  have hb2 : bl (43 :: u) 0 = 43 := rfl
  obtain ⟨k, hk⟩ : ∃ k, (45 :: t).length - (43 :: u).length = k := ⟨_, rfl⟩
  have hk2 : t.length - u.length = k := by simpa using hk
  have HV : Hid (preV (45 :: t) = .tuple #[.string (bs ((45 :: t).take k)), .string (bs (43 :: u)), .bool true]) := by show _ = _; unfold preV; simp only [List.drop_one, List.tail_cons, h4, hk]
  obtain ⟨A, hA⟩ : ∃ A, (45 :: t).take k = A := ⟨_, rfl⟩
  rw [hA] at HV
  have HV2 := Lib.hid (buildV_none (l := 43 :: u) h5)
  have Kh1 := Lib.hid h1
  have Kh2 := Lib.hid h2
  have Kh3 := Lib.hid h3
  have Kh4 := Lib.hid h4
  have Kh5 := Lib.hid h5
  have Khk := Lib.hid hk
  have KhA := Lib.hid hA
  have Khk2 := Lib.hid hk2
  clear h1 h2 h3 h4 h5 hk hA hk2
  unfold maxLen at hs
  go_enter Try.func90, Try.ntmps90
  go_wp2_with fail
  refine (pint_some _ HR.out Kh1.out).mono ?_
  rintro e w' ⟨rfl, n1, rfl⟩
  go_wp2_with fail
  refine (pint_some _ HX.out Kh2.out).mono ?_
  rintro e w' ⟨rfl, n2, rfl⟩
  go_wp2_with fail
  refine (pint_some _ HY.out Kh3.out).mono ?_
  rintro e w' ⟨rfl, n3, rfl⟩
  go_wp2_with fail
  refine (pre_any _ _ HZ.out hz1 hz2).mono ?_
  rintro e w' ⟨rfl, n4, rfl⟩
  rw [HV.out]
  go_wp2_with fail
  refine (build_any _ _ HB.out hb1 hb2).mono ?_
  rintro e w' ⟨rfl, n5, rfl⟩
  rw [HV2.out]
  go_wp2
  refine bodyPost_ret (v := .tuple #[sgv ⟨M, m, q, [], A, []⟩, .bool false]) (by simp [results, Try.results90, go_sem]; try rfl) rfl ⟨semE_none HG.out _ rfl, ?_⟩
  repeat' (first | exact Below.refl _ _ | refine below_drewN ?_ _ | refine Below.drew ?_ | refine Below.alloc ?_ ?_ _ | refine Below.setCell ?_ ?_ _ | go_size)
set_option maxRecDepth 100000 in
set_option maxHeartbeats 1000000 in
theorem sem_14 (r M x m y q t u : Bytes) (w : World) (hs : (118 :: r).length ≤ maxLen) (h1 : cutI r = some (M, 46 :: x)) (h2 : cutI x = some (m, 46 :: y)) (h3 : cutI y = some (q, 45 :: t)) (h4 : scanP [] t = some (43 :: u)) (h5 : scanB [] u = some []) :
    Calls Try.prog 90 #[.string (bs (118 :: r))] w fun e w' => SemE (118 :: r) e ∧ Below w.heap.size w w' := by
  have HR : Hid (r.length ≤ maxLen) := by show _ ≤ _; simp at hs; omega
  have HX : Hid (x.length ≤ maxLen) := by have := HR.out; have := cutI_len h1; simp at this; show _ ≤ _; omega
  have HY : Hid (y.length ≤ maxLen) := by have := HX.out; have := cutI_len h2; simp at this; show _ ≤ _; omega
  have HZ : Hid ((45 :: t).length ≤ maxLen) := by have := HY.out; have := cutI_len h3; show _ ≤ _; simp at *; omega
  have hz1 : 1 ≤ (45 :: t : Bytes).length := by simp
  have hz2 : bl (45 :: t) 0 = 45 := rfl
  have HB : Hid ((43 :: u).length ≤ maxLen) := by have := HZ.out; have := scanP_len _ _ _ h4; show _ ≤ _; simp at *; omega
  have hb1 : 1 ≤ (43 :: u : Bytes).length := by simp
  have hb2 : bl (43 :: u) 0 = 43 := rfl
  obtain ⟨k, hk⟩ : ∃ k, (45 :: t).length - (43 :: u).length = k := ⟨_, rfl⟩
  have hk2 : t.length - u.length = k := by simpa using hk
  have HV : Hid (preV (45 :: t) = .tuple #[.string (bs ((45 :: t).take k)), .string (bs (43 :: u)), .bool true]) := by show _ = _; unfold preV; simp only [List.drop_one, List.tail_cons, h4, hk]
  obtain ⟨A, hA⟩ : ∃ A, (45 :: t).take k = A := ⟨_, rfl⟩
  rw [hA] at HV
  have HG : Hid (semP (118 :: r) = some ⟨M, m, q, [], A, 43 :: u⟩) := by show _ = _; simp [semP, h1, h2, h3, tailP, h4, bldP, h5, ← hA, hk2]
  have HV2 := Lib.hid (buildV_full (l := 43 :: u) h5)
  have Kh1 := Lib.hid h1
  have Kh2 := Lib.hid h2
  have Kh3 := Lib.hid h3
  have Kh4 := Lib.hid h4
  have Kh5 := Lib.hid h5
  have Khk := Lib.hid hk
  have KhA := Lib.hid hA
  have Khk2 := Lib.hid hk2
  clear h1 h2 h3 h4 h5 hk hA hk2
  unfold maxLen at hs
  go_enter Try.func90, Try.ntmps90
  go_wp2_with fail
  refine (pint_some _ HR.out Kh1.out).mono ?_
  rintro e w' ⟨rfl, n1, rfl⟩
  go_wp2_with fail
  refine (pint_some _ HX.out Kh2.out).mono ?_
  rintro e w' ⟨rfl, n2, rfl⟩
  go_wp2_with fail
  refine (pint_some _ HY.out Kh3.out).mono ?_
  rintro e w' ⟨rfl, n3, rfl⟩
  go_wp2_with fail
  refine (pre_any _ _ HZ.out hz1 hz2).mono ?_
  rintro e w' ⟨rfl, n4, rfl⟩
  rw [HV.out]
  go_wp2_with fail
  refine (build_any _ _ HB.out hb1 hb2).mono ?_
  rintro e w' ⟨rfl, n5, rfl⟩
  rw [HV2.out]
  go_wp2
  refine bodyPost_ret (v := .tuple #[sgv ⟨M, m, q, [], A, 43 :: u⟩, .bool true]) (by simp [results, Try.results90, go_sem]; try rfl) rfl ⟨semE_some HG.out rfl, ?_⟩
  repeat' (first | exact Below.refl _ _ | refine below_drewN ?_ _ | refine Below.drew ?_ | refine Below.alloc ?_ ?_ _ | refine Below.setCell ?_ ?_ _ | go_size)
set_option maxRecDepth 100000 in
set_option maxHeartbeats 1000000 in
theorem sem_15 (r M x m y q t : Bytes) (w : World) (hs : (118 :: r).length ≤ maxLen) (h1 : cutI r = some (M, 46 :: x)) (h2 : cutI x = some (m, 46 :: y)) (h3 : cutI y = some (q, 43 :: t)) (h5 : scanB [] t = none) :
    Calls Try.prog 90 #[.string (bs (118 :: r))] w fun e w' => SemE (118 :: r) e ∧ Below w.heap.size w w' := by
  have HR : Hid (r.length ≤ maxLen) := by show _ ≤ _; simp at hs; omega
  have HX : Hid (x.length ≤ maxLen) := by have := HR.out; have := cutI_len h1; simp at this; show _ ≤ _; omega
  have HY : Hid (y.length ≤ maxLen) := by have := HX.out; have := cutI_len h2; simp at this; show _ ≤ _; omega
  have HB : Hid ((43 :: t).length ≤ maxLen) := by have := HY.out; have := cutI_len h3; show _ ≤ _; simp at *; omega
  have hb1 : 1 ≤ (43 :: t : Bytes).length := by simp
  have hb2 : bl (43 :: t) 0 = 43 := rfl
  have HG : Hid (semP (118 :: r) = none) := by show _ = _; simp [semP, h1, h2, h3, tailP, bldP, h5]
  have HV2 := Lib.hid (buildV_none (l := 43 :: t) h5)
  have Kh1 := Lib.hid h1
  have Kh2 := Lib.hid h2
  have Kh3 := Lib.hid h3
  have Kh5 := Lib.hid h5
  clear h1 h2 h3 h5
  unfold maxLen at hs
  go_enter Try.func90, Try.ntmps90
  go_wp2_with fail
  refine (pint_some _ HR.out Kh1.out).mono ?_
  rintro e w' ⟨rfl, n1, rfl⟩
  go_wp2_with fail
  refine (pint_some _ HX.out Kh2.out).mono ?_
  rintro e w' ⟨rfl, n2, rfl⟩
  go_wp2_with fail
  refine (pint_some _ HY.out Kh3.out).mono ?_
  rintro e w' ⟨rfl, n3, rfl⟩
  go_wp2_with fail
  refine (build_any _ _ HB.out hb1 hb2).mono ?_
  rintro e w' ⟨rfl, n5, rfl⟩
  rw [HV2.out]
  go_wp2
  refine bodyPost_ret (v := .tuple #[sgv ⟨M, m, q, [], [], []⟩, .bool false]) (by simp [results, Try.results90, go_sem]; try rfl) rfl ⟨semE_none HG.out _ rfl, ?_⟩
  repeat' (first | exact Below.refl _ _ | refine below_drewN ?_ _ | refine Below.drew ?_ | refine Below.alloc ?_ ?_ _ | refine Below.setCell ?_ ?_ _ | go_size)
set_option maxRecDepth 100000 in
set_option maxHeartbeats 1000000 in
theorem sem_16 (r M x m y q t : Bytes) (w : World) (hs : (118 :: r).length ≤ maxLen) (h1 : cutI r = some (M, 46 :: x)) (h2 : cutI x = some (m, 46 :: y)) (h3 : cutI y = some (q, 43 :: t)) (h5 : scanB [] t = some []) :
    Calls Try.prog 90 #[.string (bs (118 :: r))] w fun e w' => SemE (118 :: r) e ∧ Below w.heap.size w w' := by
  have HR : Hid (r.length ≤ maxLen) := by show _ ≤ _; simp at hs; omega
  have HX : Hid (x.length ≤ maxLen) := by have := HR.out; have := cutI_len h1; simp at this; show _ ≤ _; omega
  have HY : Hid (y.length ≤ maxLen) := by have := HX.out; have := cutI_len h2; simp at this; show _ ≤ _; omega
  have HB : Hid ((43 :: t).length ≤ maxLen) := by have := HY.out; have := cutI_len h3; show _ ≤ _; simp at *; omega
  have hb1 : 1 ≤ (43 :: t : Bytes).length := by simp
  have hb2 : bl (43 :: t) 0 = 43 := rfl
  have HG : Hid (semP (118 :: r) = some ⟨M, m, q, [], [], 43 :: t⟩) := by show _ = _; simp [semP, h1, h2, h3, tailP, bldP, h5]
  have HV2 := Lib.hid (buildV_full (l := 43 :: t) h5)
  have Kh1 := Lib.hid h1
  have Kh2 := Lib.hid h2
  have Kh3 := Lib.hid h3
  have Kh5 := Lib.hid h5
  clear h1 h2 h3 h5
  unfold maxLen at hs
  go_enter Try.func90, Try.ntmps90
  go_wp2_with fail
  refine (pint_some _ HR.out Kh1.out).mono ?_
  rintro e w' ⟨rfl, n1, rfl⟩
  go_wp2_with fail
  refine (pint_some _ HX.out Kh2.out).mono ?_
  rintro e w' ⟨rfl, n2, rfl⟩
  go_wp2_with fail
  refine (pint_some _ HY.out Kh3.out).mono ?_
  rintro e w' ⟨rfl, n3, rfl⟩
  go_wp2_with fail
  refine (build_any _ _ HB.out hb1 hb2).mono ?_
  rintro e w' ⟨rfl, n5, rfl⟩
  rw [HV2.out]
  go_wp2
  refine bodyPost_ret (v := .tuple #[sgv ⟨M, m, q, [], [], 43 :: t⟩, .bool true]) (by simp [results, Try.results90, go_sem]; try rfl) rfl ⟨semE_some HG.out rfl, ?_⟩
  repeat' (first | exact Below.refl _ _ | refine below_drewN ?_ _ | refine Below.drew ?_ | refine Below.alloc ?_ ?_ _ | refine Below.setCell ?_ ?_ _ | go_size)

theorem nat_ne {d : UInt8} {k : UInt8} (h : ¬ d = k) : d.toNat ≠ k.toNat := fun e => h (UInt8.toNat_inj.1 e)
theorem sem_any (l : Bytes) (w : World) (hs : l.length ≤ maxLen) :
    Calls Try.prog 90 #[.string (bs l)] w fun e w' => SemE l e ∧ Below w.heap.size w w' := by
  cases l with
  | nil => exact sem_1 [] w hs (.inl rfl)
  | cons c r =>
    by_cases hc : c = 118
    · subst hc
      rcases h1 : cutI r with _ | ⟨M, _ | ⟨d, x⟩⟩
      · exact sem_2 r w hs h1
      · exact sem_3 r M w hs h1
      · by_cases hd : d = 46
        · subst hd
          rcases h2 : cutI x with _ | ⟨m, _ | ⟨d, y⟩⟩
          · exact sem_5 r M x w hs h1 h2
          · exact sem_6 r M x m w hs h1 h2
          · by_cases hd : d = 46
            · subst hd
              rcases h3 : cutI y with _ | ⟨q, _ | ⟨d, t⟩⟩
              · exact sem_8 r M x m y w hs h1 h2 h3
              · exact sem_9 r M x m y q w hs h1 h2 h3
              · by_cases hm : d = 45
                · subst hm
                  rcases h4 : scanP [] t with _ | z
                  · exact sem_11 r M x m y q t w hs h1 h2 h3 h4
                  · rcases scanP_rest t _ z h4 with rfl | ⟨u, rfl⟩
                    · exact sem_12 r M x m y q t w hs h1 h2 h3 h4
                    · rcases h5 : scanB [] u with _ | v
                      · exact sem_13 r M x m y q t u w hs h1 h2 h3 h4 h5
                      · obtain rfl := scanB_rest u _ v h5
                        exact sem_14 r M x m y q t u w hs h1 h2 h3 h4 h5
                · by_cases hp : d = 43
                  · subst hp
                    rcases h5 : scanB [] t with _ | v
                    · exact sem_15 r M x m y q t w hs h1 h2 h3 h5
                    · obtain rfl := scanB_rest t _ v h5
                      exact sem_16 r M x m y q t w hs h1 h2 h3 h5
                  · exact sem_10 r M x m y q t w hs h1 h2 d h3 (nat_ne hm) (nat_ne hp)
            · exact sem_7 r M x m y w hs h1 d h2 (nat_ne hd)
        · exact sem_4 r M x w hs d h1 (nat_ne hd)
    · exact sem_1 _ w hs (.inr ⟨by simp, nat_ne hc⟩)
theorem sem_ok {l : Bytes} {S : SV} (w : World) (hs : l.length ≤ maxLen) (h : semP l = some S) :
    Calls Try.prog 90 #[.string (bs l)] w fun e w' => e = .returned (.tuple #[sgv S, .bool true]) ∧ Below w.heap.size w w' :=
  (sem_any l w hs).mono fun e w' ⟨he, hb⟩ => ⟨by unfold SemE at he; rw [h] at he; exact he, hb⟩
theorem sem_no {l : Bytes} (w : World) (hs : l.length ≤ maxLen) (h : semP l = none) :
    Calls Try.prog 90 #[.string (bs l)] w fun e w' => (∃ S, e = .returned (.tuple #[sgv S, .bool false])) ∧ Below w.heap.size w w' :=
  (sem_any l w hs).mono fun e w' ⟨he, hb⟩ => ⟨by unfold SemE at he; rw [h] at he; exact he, hb⟩
end Go.Proofs.Ytdhibalpnccbiaa
