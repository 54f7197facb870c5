/- gover.Parse. -/
import Derived.Test.YtdhibalpnccbiaaCut
import Derived.Handy
namespace Go.Proofs.Ytdhibalpnccbiaa
open Go.RowKit

def gv (g : GV) : Value := .agg #[.string (bs g.maj), .string (bs g.min), .string (bs g.pat), .string (bs g.kind), .string (bs g.pre)]
set_option maxRecDepth 100000 in
set_option maxHeartbeats 400000 in
theorem parse_1 (l : Bytes) (w : World) (hs : l.length ≤ maxLen) (h : cutI l = none) :
    Calls Try.prog 66 #[.string (bs l)] w fun e w' => e = .returned (gv zero) ∧ Below w.heap.size w w' := by
  have H := Lib.hid h
  have HS := Lib.hid hs
  clear h
  unfold maxLen at hs
  go_enter Try.func66, Try.ntmps66
  go_wp2_with fail
  refine (cut_none _ HS.out H.out).mono ?_
  rintro e w' ⟨rfl, n, rfl⟩
  go_wp2
  refine bodyPost_ret (v := gv zero) (by simp [results, Try.results66, go_sem]; try rfl) rfl ⟨rfl, ?_⟩
  repeat' (first | exact Below.refl _ _ | refine below_drewN ?_ _ | refine Below.drew ?_ | refine Below.alloc ?_ ?_ _ | refine Below.setCell ?_ ?_ _ | go_size)
set_option maxRecDepth 100000 in
set_option maxHeartbeats 400000 in
theorem parse_2 (l M : Bytes) (w : World) (hs : l.length ≤ maxLen) (h : cutI l = some (M, [])) :
    Calls Try.prog 66 #[.string (bs l)] w fun e w' => e = .returned (gv ⟨M, [48], [48], [], []⟩) ∧ Below w.heap.size w w' := by
  have H := Lib.hid h
  have HS := Lib.hid hs
  clear h
  unfold maxLen at hs
  go_enter Try.func66, Try.ntmps66
  go_wp2_with fail
  refine (cut_some _ HS.out H.out).mono ?_
  rintro e w' ⟨rfl, n, rfl⟩
  go_wp2
  refine bodyPost_ret (v := gv ⟨M, [48], [48], [], []⟩) (by simp [results, Try.results66, go_sem]; try rfl) rfl ⟨rfl, ?_⟩
  repeat' (first | exact Below.refl _ _ | refine below_drewN ?_ _ | refine Below.drew ?_ | refine Below.alloc ?_ ?_ _ | refine Below.setCell ?_ ?_ _ | go_size)
theorem parse_3 (l M x : Bytes) (c : UInt8) (w : World) (hs : l.length ≤ maxLen) (h : cutI l = some (M, c :: x)) (hc : ¬ c = 46) :
    Calls Try.prog 66 #[.string (bs l)] w fun e w' => e = .returned (gv zero) ∧ Below w.heap.size w w' := by
  have H := Lib.hid h
  have HS := Lib.hid hs
  have hc' : ((c.toNat : Int) != 46) = true := by
    have : ¬ c.toNat = 46 := fun e => hc (UInt8.toNat_inj.1 (by rw [e]; rfl))
    simp; omega
  clear h hc
  unfold maxLen at hs
  go_enter Try.func66, Try.ntmps66
  go_wp2_with fail
  refine (cut_some _ HS.out H.out).mono ?_
  rintro e w' ⟨rfl, n, rfl⟩
  go_wp2
  refine bodyPost_ret (v := gv zero) (by simp [results, Try.results66, go_sem]; try rfl) rfl ⟨rfl, ?_⟩
  repeat' (first | exact Below.refl _ _ | refine below_drewN ?_ _ | refine Below.drew ?_ | refine Below.alloc ?_ ?_ _ | refine Below.setCell ?_ ?_ _ | go_size)
set_option linter.unusedVariables false
set_option maxRecDepth 100000 in
set_option maxHeartbeats 400000 in
theorem parse_4 (l M x : Bytes) (w : World) (hs : l.length ≤ maxLen) (h : cutI l = some (M, 46 :: x)) (h2 : cutI x = none) :
    Calls Try.prog 66 #[.string (bs l)] w fun e w' => e = .returned (gv zero) ∧ Below w.heap.size w w' := by
  have HS := Lib.hid hs
  have HL := Lib.hid (cutI_len h)
  have HX : Hid (x.length ≤ maxLen) := by have := HL.out; simp at this; show _ ≤ _; omega
  have H := Lib.hid h
  clear h
  have H2 := Lib.hid h2
  clear h2
  unfold maxLen at hs
  go_enter Try.func66, Try.ntmps66
  go_wp2_with fail
  refine (cut_some _ HS.out H.out).mono ?_
  rintro e w' ⟨rfl, n, rfl⟩
  go_wp2_with fail
  refine (cut_none _ HX.out H2.out).mono ?_
  rintro e w' ⟨rfl, n2, rfl⟩
  go_wp2
  refine bodyPost_ret (v := gv zero) (by simp [results, Try.results66, go_sem]; try rfl) rfl ⟨rfl, ?_⟩
  repeat' (first | exact Below.refl _ _ | refine below_drewN ?_ _ | refine Below.drew ?_ | refine Below.alloc ?_ ?_ _ | refine Below.setCell ?_ ?_ _ | go_size)
set_option maxRecDepth 100000 in
set_option maxHeartbeats 400000 in
theorem parse_5 (l M x m : Bytes) (w : World) (hs : l.length ≤ maxLen) (h : cutI l = some (M, 46 :: x)) (h2 : cutI x = some (m, [])) (hc : cmpB m [50, 49] < 0) :
    Calls Try.prog 66 #[.string (bs l)] w fun e w' => e = .returned (gv ⟨M, m, [48], [], []⟩) ∧ Below w.heap.size w w' := by
  have HS := Lib.hid hs
  have HL := Lib.hid (cutI_len h)
  have HX : Hid (x.length ≤ maxLen) := by have := HL.out; simp at this; show _ ≤ _; omega
  have H := Lib.hid h
  clear h
  have H2 := Lib.hid h2
  clear h2
  unfold maxLen at hs
  go_enter Try.func66, Try.ntmps66
  go_wp2_with fail
  refine (cut_some _ HS.out H.out).mono ?_
  rintro e w' ⟨rfl, n, rfl⟩
  go_wp2_with fail
  refine (cut_some _ HX.out H2.out).mono ?_
  rintro e w' ⟨rfl, n2, rfl⟩
  go_wp2_with fail
  refine (cmpInt_any m [50, 49] _).mono ?_
  rintro e w' ⟨rfl, rfl⟩
  go_wp2
  refine bodyPost_ret (v := gv ⟨M, m, [48], [], []⟩) (by simp [results, Try.results66, go_sem]; try rfl) rfl ⟨rfl, ?_⟩
  repeat' (first | exact Below.refl _ _ | refine below_drewN ?_ _ | refine Below.drew ?_ | refine Below.alloc ?_ ?_ _ | refine Below.setCell ?_ ?_ _ | go_size)
set_option maxRecDepth 100000 in
set_option maxHeartbeats 400000 in
theorem parse_6 (l M x m : Bytes) (w : World) (hs : l.length ≤ maxLen) (h : cutI l = some (M, 46 :: x)) (h2 : cutI x = some (m, [])) (hc : ¬ cmpB m [50, 49] < 0) :
    Calls Try.prog 66 #[.string (bs l)] w fun e w' => e = .returned (gv ⟨M, m, [], [], []⟩) ∧ Below w.heap.size w w' := by
  have HS := Lib.hid hs
  have HL := Lib.hid (cutI_len h)
  have HX : Hid (x.length ≤ maxLen) := by have := HL.out; simp at this; show _ ≤ _; omega
  have H := Lib.hid h
  clear h
  have H2 := Lib.hid h2
  clear h2
  unfold maxLen at hs
  go_enter Try.func66, Try.ntmps66
  go_wp2_with fail
  refine (cut_some _ HS.out H.out).mono ?_
  rintro e w' ⟨rfl, n, rfl⟩
  go_wp2_with fail
  refine (cut_some _ HX.out H2.out).mono ?_
  rintro e w' ⟨rfl, n2, rfl⟩
  go_wp2_with fail
  refine (cmpInt_any m [50, 49] _).mono ?_
  rintro e w' ⟨rfl, rfl⟩
  go_wp2
  refine bodyPost_ret (v := gv ⟨M, m, [], [], []⟩) (by simp [results, Try.results66, go_sem]; try rfl) rfl ⟨rfl, ?_⟩
  repeat' (first | exact Below.refl _ _ | refine below_drewN ?_ _ | refine Below.drew ?_ | refine Below.alloc ?_ ?_ _ | refine Below.setCell ?_ ?_ _ | go_size)
set_option maxRecDepth 100000 in
set_option maxHeartbeats 400000 in
theorem parse_7 (l M x m y p z : Bytes) (d : UInt8) (w : World) (hs : l.length ≤ maxLen) (h : cutI l = some (M, 46 :: x)) (h2 : cutI x = some (m, 46 :: y)) (h3 : cutI y = none) :
    Calls Try.prog 66 #[.string (bs l)] w fun e w' => e = .returned (gv zero) ∧ Below w.heap.size w w' := by
  have HS := Lib.hid hs
  have HL := Lib.hid (cutI_len h)
  have HX : Hid (x.length ≤ maxLen) := by have := HL.out; simp at this; show _ ≤ _; omega
  have H := Lib.hid h
  clear h
  have HL2 := Lib.hid (cutI_len h2)
  have HY : Hid (y.length ≤ maxLen) := by have := HL2.out; have := HX.out; simp at *; show _ ≤ _; omega
  have H2 := Lib.hid h2
  have H3 := Lib.hid h3
  clear h2 h3
  unfold maxLen at hs
  go_enter Try.func66, Try.ntmps66
  go_wp2_with fail
  refine (cut_some _ HS.out H.out).mono ?_
  rintro e w' ⟨rfl, n, rfl⟩
  go_wp2_with fail
  refine (cut_some _ HX.out H2.out).mono ?_
  rintro e w' ⟨rfl, n2, rfl⟩
  go_wp2_with fail
  refine (cut_none _ HY.out H3.out).mono ?_
  rintro e w' ⟨rfl, n3, rfl⟩
  go_wp2
  refine bodyPost_ret (v := gv zero) (by simp [results, Try.results66, go_sem]; try rfl) rfl ⟨rfl, ?_⟩
  repeat' (first | exact Below.refl _ _ | refine below_drewN ?_ _ | refine Below.drew ?_ | refine Below.alloc ?_ ?_ _ | refine Below.setCell ?_ ?_ _ | go_size)
set_option maxRecDepth 100000 in
set_option maxHeartbeats 400000 in
theorem parse_8 (l M x m y p z : Bytes) (d : UInt8) (w : World) (hs : l.length ≤ maxLen) (h : cutI l = some (M, 46 :: x)) (h2 : cutI x = some (m, 46 :: y)) (h3 : cutI y = some (p, [])) :
    Calls Try.prog 66 #[.string (bs l)] w fun e w' => e = .returned (gv ⟨M, m, p, [], []⟩) ∧ Below w.heap.size w w' := by
  have HS := Lib.hid hs
  have HL := Lib.hid (cutI_len h)
  have HX : Hid (x.length ≤ maxLen) := by have := HL.out; simp at this; show _ ≤ _; omega
  have H := Lib.hid h
  clear h
  have HL2 := Lib.hid (cutI_len h2)
  have HY : Hid (y.length ≤ maxLen) := by have := HL2.out; have := HX.out; simp at *; show _ ≤ _; omega
  have H2 := Lib.hid h2
  have H3 := Lib.hid h3
  clear h2 h3
  unfold maxLen at hs
  go_enter Try.func66, Try.ntmps66
  go_wp2_with fail
  refine (cut_some _ HS.out H.out).mono ?_
  rintro e w' ⟨rfl, n, rfl⟩
  go_wp2_with fail
  refine (cut_some _ HX.out H2.out).mono ?_
  rintro e w' ⟨rfl, n2, rfl⟩
  go_wp2_with fail
  refine (cut_some _ HY.out H3.out).mono ?_
  rintro e w' ⟨rfl, n3, rfl⟩
  go_wp2
  refine bodyPost_ret (v := gv ⟨M, m, p, [], []⟩) (by simp [results, Try.results66, go_sem]; try rfl) rfl ⟨rfl, ?_⟩
  repeat' (first | exact Below.refl _ _ | refine below_drewN ?_ _ | refine Below.drew ?_ | refine Below.alloc ?_ ?_ _ | refine Below.setCell ?_ ?_ _ | go_size)
set_option maxRecDepth 100000 in
set_option maxHeartbeats 400000 in
theorem parse_9 (l M x m y p z : Bytes) (d : UInt8) (w : World) (hs : l.length ≤ maxLen) (h : cutI l = some (M, 46 :: x)) (h2 : cutI x = some (m, 46 :: y)) (h3 : cutI y = some (p, d :: z)) :
    Calls Try.prog 66 #[.string (bs l)] w fun e w' => e = .returned (gv zero) ∧ Below w.heap.size w w' := by
  have HS := Lib.hid hs
  have HL := Lib.hid (cutI_len h)
  have HX : Hid (x.length ≤ maxLen) := by have := HL.out; simp at this; show _ ≤ _; omega
  have H := Lib.hid h
  clear h
  have HL2 := Lib.hid (cutI_len h2)
  have HY : Hid (y.length ≤ maxLen) := by have := HL2.out; have := HX.out; simp at *; show _ ≤ _; omega
  have H2 := Lib.hid h2
  have H3 := Lib.hid h3
  clear h2 h3
  unfold maxLen at hs
  go_enter Try.func66, Try.ntmps66
  go_wp2_with fail
  refine (cut_some _ HS.out H.out).mono ?_
  rintro e w' ⟨rfl, n, rfl⟩
  go_wp2_with fail
  refine (cut_some _ HX.out H2.out).mono ?_
  rintro e w' ⟨rfl, n2, rfl⟩
  go_wp2_with fail
  refine (cut_some _ HY.out H3.out).mono ?_
  rintro e w' ⟨rfl, n3, rfl⟩
  go_wp2
  refine bodyPost_ret (v := gv zero) (by simp [results, Try.results66, go_sem]; try rfl) rfl ⟨rfl, ?_⟩
  repeat' (first | exact Below.refl _ _ | refine below_drewN ?_ _ | refine Below.drew ?_ | refine Below.alloc ?_ ?_ _ | refine Below.setCell ?_ ?_ _ | go_size)
end Go.Proofs.Ytdhibalpnccbiaa
