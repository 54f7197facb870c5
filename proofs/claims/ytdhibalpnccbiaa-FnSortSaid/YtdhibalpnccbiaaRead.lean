/- spec.Read. -/
import Derived.Test.YtdhibalpnccbiaaParse2
import Derived.RegionTactic
namespace Go.Proofs.Ytdhibalpnccbiaa
open Go.RowKit
set_option linter.unusedVariables false

set_option maxRecDepth 100000 in
set_option maxHeartbeats 1000000 in
theorem read_1 (l : Bytes) (w : World) (hs : l.length ≤ maxLen) (h : cutI l = none) :
    Calls Try.prog 24 #[.string (bs l)] w fun e w' => e = .returned (.tuple #[gv zero, .int .i64 2]) ∧ Below w.heap.size w w' := by
  have H := Lib.hid h
  have HS := Lib.hid hs
  clear h
  unfold maxLen at hs
  go_enter Try.func24, Try.ntmps24
  go_wp2_with fail
  refine (num_bad _ HS.out H.out).mono ?_
  rintro e w' ⟨⟨t', r', rfl⟩, n, rfl⟩
  go_wp2
  refine bodyPost_ret (v := .tuple #[gv zero, .int .i64 2]) ?_ rfl ⟨rfl, ?_⟩
  · simp [results, Try.results24, go_sem, gv]; repeat' (first | rfl | refine ⟨?_, ?_⟩)
  repeat' (first | exact Below.refl _ _ | refine below_drewN ?_ _ | refine Below.drew ?_ | refine Below.alloc ?_ ?_ _ | refine Below.setCell ?_ ?_ _ | go_size)
set_option maxRecDepth 100000 in
set_option maxHeartbeats 1000000 in
theorem read_2 (l M : Bytes) (w : World) (hs : l.length ≤ maxLen) (h : cutI l = some (M, [])) :
    Calls Try.prog 24 #[.string (bs l)] w fun e w' => e = .returned (.tuple #[gv ⟨M, [48], [48], [], []⟩, .int .i64 1]) ∧ Below w.heap.size w w' := by
  have H := Lib.hid h
  have HS := Lib.hid hs
  clear h
  unfold maxLen at hs
  go_enter Try.func24, Try.ntmps24
  go_wp2_with fail
  refine (num_good _ HS.out H.out).mono ?_
  rintro e w' ⟨rfl, n, rfl⟩
  go_wp2
  refine bodyPost_ret (v := .tuple #[gv ⟨M, [48], [48], [], []⟩, .int .i64 1]) ?_ rfl ⟨rfl, ?_⟩
  · simp [results, Try.results24, go_sem, gv]; repeat' (first | rfl | refine ⟨?_, ?_⟩)
  repeat' (first | exact Below.refl _ _ | refine below_drewN ?_ _ | refine Below.drew ?_ | refine Below.alloc ?_ ?_ _ | refine Below.setCell ?_ ?_ _ | go_size)
set_option maxRecDepth 100000 in
set_option maxHeartbeats 1000000 in
theorem read_3 (l M x : Bytes) (c : UInt8) (w : World) (hs : l.length ≤ maxLen) (h : cutI l = some (M, c :: x)) (hc : ¬ c = 46) :
    Calls Try.prog 24 #[.string (bs l)] w fun e w' => e = .returned (.tuple #[gv zero, .int .i64 2]) ∧ Below w.heap.size w w' := by
  have H := Lib.hid h
  have HS := Lib.hid hs
  have hc' : ((c.toNat : Int) != 46) = true := by
    have : ¬ c.toNat = 46 := fun e => hc (UInt8.toNat_inj.1 (by rw [e]; rfl))
    simp; omega
  clear h hc
  unfold maxLen at hs
  go_enter Try.func24, Try.ntmps24
  go_wp2_with fail
  refine (num_good _ HS.out H.out).mono ?_
  rintro e w' ⟨rfl, n, rfl⟩
  go_wp2
  refine bodyPost_ret (v := .tuple #[gv zero, .int .i64 2]) ?_ rfl ⟨rfl, ?_⟩
  · simp [results, Try.results24, go_sem, gv]; repeat' (first | rfl | refine ⟨?_, ?_⟩)
  repeat' (first | exact Below.refl _ _ | refine below_drewN ?_ _ | refine Below.drew ?_ | refine Below.alloc ?_ ?_ _ | refine Below.setCell ?_ ?_ _ | go_size)
set_option maxRecDepth 100000 in
set_option maxHeartbeats 1000000 in
theorem read_4 (l M x : Bytes) (w : World) (hs : l.length ≤ maxLen) (h : cutI l = some (M, 46 :: x)) (h2 : cutI x = none) :
    Calls Try.prog 24 #[.string (bs l)] w fun e w' => e = .returned (.tuple #[gv zero, .int .i64 2]) ∧ Below w.heap.size w w' := by
  have HS := Lib.hid hs
  have HL := Lib.hid (cutI_len h)
  have HX : Hid (x.length ≤ maxLen) := by have := HL.out; simp at this; show _ ≤ _; omega
  have H := Lib.hid h
  clear h
  have H2 := Lib.hid h2
  clear h2
  unfold maxLen at hs
  go_enter Try.func24, Try.ntmps24
  go_wp2_with fail
  refine (num_good _ HS.out H.out).mono ?_
  rintro e w' ⟨rfl, n, rfl⟩
  go_wp2_with fail
  refine (num_bad _ HX.out H2.out).mono ?_
  rintro e w' ⟨⟨t', r', rfl⟩, n2, rfl⟩
  go_wp2
  refine bodyPost_ret (v := .tuple #[gv zero, .int .i64 2]) ?_ rfl ⟨rfl, ?_⟩
  · simp [results, Try.results24, go_sem, gv]; repeat' (first | rfl | refine ⟨?_, ?_⟩)
  repeat' (first | exact Below.refl _ _ | refine below_drewN ?_ _ | refine Below.drew ?_ | refine Below.alloc ?_ ?_ _ | refine Below.setCell ?_ ?_ _ | go_size)
set_option maxRecDepth 100000 in
set_option maxHeartbeats 1000000 in
theorem read_5 (l M x m : Bytes) (w : World) (hs : l.length ≤ maxLen) (h : cutI l = some (M, 46 :: x)) (h2 : cutI x = some (m, [])) (hc : cmpB m [50, 49] < 0) :
    Calls Try.prog 24 #[.string (bs l)] w fun e w' => e = .returned (.tuple #[gv ⟨M, m, [48], [], []⟩, .int .i64 1]) ∧ Below w.heap.size w w' := by
  have HS := Lib.hid hs
  have HL := Lib.hid (cutI_len h)
  have HX : Hid (x.length ≤ maxLen) := by have := HL.out; simp at this; show _ ≤ _; omega
  have H := Lib.hid h
  clear h
  have H2 := Lib.hid h2
  clear h2
  unfold maxLen at hs
  go_enter Try.func24, Try.ntmps24
  go_wp2_with fail
  refine (num_good _ HS.out H.out).mono ?_
  rintro e w' ⟨rfl, n, rfl⟩
  go_wp2_with fail
  refine (num_good _ HX.out H2.out).mono ?_
  rintro e w' ⟨rfl, n2, rfl⟩
  go_wp2_with fail
  refine (nums_any m [50, 49] _).mono ?_
  rintro e w' ⟨rfl, rfl⟩
  go_wp2
  refine bodyPost_ret (v := .tuple #[gv ⟨M, m, [48], [], []⟩, .int .i64 1]) ?_ rfl ⟨rfl, ?_⟩
  · simp [results, Try.results24, go_sem, gv]; repeat' (first | rfl | refine ⟨?_, ?_⟩)
  repeat' (first | exact Below.refl _ _ | refine below_drewN ?_ _ | refine Below.drew ?_ | refine Below.alloc ?_ ?_ _ | refine Below.setCell ?_ ?_ _ | go_size)
set_option maxRecDepth 100000 in
set_option maxHeartbeats 1000000 in
theorem read_6 (l M x m : Bytes) (w : World) (hs : l.length ≤ maxLen) (h : cutI l = some (M, 46 :: x)) (h2 : cutI x = some (m, [])) (hc : ¬ cmpB m [50, 49] < 0) :
    Calls Try.prog 24 #[.string (bs l)] w fun e w' => e = .returned (.tuple #[gv ⟨M, m, [], [], []⟩, .int .i64 1]) ∧ Below w.heap.size w w' := by
  have HS := Lib.hid hs
  have HL := Lib.hid (cutI_len h)
  have HX : Hid (x.length ≤ maxLen) := by have := HL.out; simp at this; show _ ≤ _; omega
  have H := Lib.hid h
  clear h
  have H2 := Lib.hid h2
  clear h2
  unfold maxLen at hs
  go_enter Try.func24, Try.ntmps24
  go_wp2_with fail
  refine (num_good _ HS.out H.out).mono ?_
  rintro e w' ⟨rfl, n, rfl⟩
  go_wp2_with fail
  refine (num_good _ HX.out H2.out).mono ?_
  rintro e w' ⟨rfl, n2, rfl⟩
  go_wp2_with fail
  refine (nums_any m [50, 49] _).mono ?_
  rintro e w' ⟨rfl, rfl⟩
  go_wp2
  refine bodyPost_ret (v := .tuple #[gv ⟨M, m, [], [], []⟩, .int .i64 1]) ?_ rfl ⟨rfl, ?_⟩
  · simp [results, Try.results24, go_sem, gv]; repeat' (first | rfl | refine ⟨?_, ?_⟩)
  repeat' (first | exact Below.refl _ _ | refine below_drewN ?_ _ | refine Below.drew ?_ | refine Below.alloc ?_ ?_ _ | refine Below.setCell ?_ ?_ _ | go_size)
set_option maxRecDepth 100000 in
set_option maxHeartbeats 1000000 in
theorem read_7 (l M x m y p z : Bytes) (d : UInt8) (w : World) (hs : l.length ≤ maxLen) (h : cutI l = some (M, 46 :: x)) (h2 : cutI x = some (m, 46 :: y)) (h3 : cutI y = none) :
    Calls Try.prog 24 #[.string (bs l)] w fun e w' => e = .returned (.tuple #[gv zero, .int .i64 2]) ∧ Below w.heap.size w w' := by
  have HS := Lib.hid hs
  have HL := Lib.hid (cutI_len h)
  have HX : Hid (x.length ≤ maxLen) := by have := HL.out; simp at this; show _ ≤ _; omega
  have H := Lib.hid h
  clear h
  have HL2 := Lib.hid (cutI_len h2)
  have HY : Hid (y.length ≤ maxLen) := by have := HL2.out; have := HX.out; simp at *; show _ ≤ _; omega
  have H2 := Lib.hid h2
  have H3 := Lib.hid h3
  clear h2 h3
  unfold maxLen at hs
  go_enter Try.func24, Try.ntmps24
  go_wp2_with fail
  refine (num_good _ HS.out H.out).mono ?_
  rintro e w' ⟨rfl, n, rfl⟩
  go_wp2_with fail
  refine (num_good _ HX.out H2.out).mono ?_
  rintro e w' ⟨rfl, n2, rfl⟩
  go_wp2_with fail
  refine (num_bad _ HY.out H3.out).mono ?_
  rintro e w' ⟨⟨t', r', rfl⟩, n3, rfl⟩
  go_wp2
  refine bodyPost_ret (v := .tuple #[gv zero, .int .i64 2]) ?_ rfl ⟨rfl, ?_⟩
  · simp [results, Try.results24, go_sem, gv]; repeat' (first | rfl | refine ⟨?_, ?_⟩)
  repeat' (first | exact Below.refl _ _ | refine below_drewN ?_ _ | refine Below.drew ?_ | refine Below.alloc ?_ ?_ _ | refine Below.setCell ?_ ?_ _ | go_size)
set_option maxRecDepth 100000 in
set_option maxHeartbeats 1000000 in
theorem read_8 (l M x m y p z : Bytes) (d : UInt8) (w : World) (hs : l.length ≤ maxLen) (h : cutI l = some (M, 46 :: x)) (h2 : cutI x = some (m, 46 :: y)) (h3 : cutI y = some (p, [])) :
    Calls Try.prog 24 #[.string (bs l)] w fun e w' => e = .returned (.tuple #[gv ⟨M, m, p, [], []⟩, .int .i64 1]) ∧ Below w.heap.size w w' := by
  have HS := Lib.hid hs
  have HL := Lib.hid (cutI_len h)
  have HX : Hid (x.length ≤ maxLen) := by have := HL.out; simp at this; show _ ≤ _; omega
  have H := Lib.hid h
  clear h
  have HL2 := Lib.hid (cutI_len h2)
  have HY : Hid (y.length ≤ maxLen) := by have := HL2.out; have := HX.out; simp at *; show _ ≤ _; omega
  have H2 := Lib.hid h2
  have H3 := Lib.hid h3
  clear h2 h3
  unfold maxLen at hs
  go_enter Try.func24, Try.ntmps24
  go_wp2_with fail
  refine (num_good _ HS.out H.out).mono ?_
  rintro e w' ⟨rfl, n, rfl⟩
  go_wp2_with fail
  refine (num_good _ HX.out H2.out).mono ?_
  rintro e w' ⟨rfl, n2, rfl⟩
  go_wp2_with fail
  refine (num_good _ HY.out H3.out).mono ?_
  rintro e w' ⟨rfl, n3, rfl⟩
  go_wp2
  refine bodyPost_ret (v := .tuple #[gv ⟨M, m, p, [], []⟩, .int .i64 1]) ?_ rfl ⟨rfl, ?_⟩
  · simp [results, Try.results24, go_sem, gv]; repeat' (first | rfl | refine ⟨?_, ?_⟩)
  repeat' (first | exact Below.refl _ _ | refine below_drewN ?_ _ | refine Below.drew ?_ | refine Below.alloc ?_ ?_ _ | refine Below.setCell ?_ ?_ _ | go_size)
set_option maxRecDepth 100000 in
set_option maxHeartbeats 1000000 in
theorem read_9 (l M x m y p z : Bytes) (d : UInt8) (w : World) (hs : l.length ≤ maxLen) (h : cutI l = some (M, 46 :: x)) (h2 : cutI x = some (m, 46 :: y)) (h3 : cutI y = some (p, d :: z)) :
    Calls Try.prog 24 #[.string (bs l)] w fun e w' => e = .returned (.tuple #[gv zero, .int .i64 2]) ∧ Below w.heap.size w w' := by
  have HS := Lib.hid hs
  have HL := Lib.hid (cutI_len h)
  have HX : Hid (x.length ≤ maxLen) := by have := HL.out; simp at this; show _ ≤ _; omega
  have H := Lib.hid h
  clear h
  have HL2 := Lib.hid (cutI_len h2)
  have HY : Hid (y.length ≤ maxLen) := by have := HL2.out; have := HX.out; simp at *; show _ ≤ _; omega
  have H2 := Lib.hid h2
  have H3 := Lib.hid h3
  clear h2 h3
  unfold maxLen at hs
  go_enter Try.func24, Try.ntmps24
  go_wp2_with fail
  refine (num_good _ HS.out H.out).mono ?_
  rintro e w' ⟨rfl, n, rfl⟩
  go_wp2_with fail
  refine (num_good _ HX.out H2.out).mono ?_
  rintro e w' ⟨rfl, n2, rfl⟩
  go_wp2_with fail
  refine (num_good _ HY.out H3.out).mono ?_
  rintro e w' ⟨rfl, n3, rfl⟩
  go_wp2
  refine bodyPost_ret (v := .tuple #[gv zero, .int .i64 2]) ?_ rfl ⟨rfl, ?_⟩
  · simp [results, Try.results24, go_sem, gv]; repeat' (first | rfl | refine ⟨?_, ?_⟩)
  repeat' (first | exact Below.refl _ _ | refine below_drewN ?_ _ | refine Below.drew ?_ | refine Below.alloc ?_ ?_ _ | refine Below.setCell ?_ ?_ _ | go_size)
end Go.Proofs.Ytdhibalpnccbiaa
