/- spec.Semantic: its great condition. -/
import Derived.Test.YtdhibalpnccbiaaSmt0
import Derived.Deep.Cut
namespace Go.Proofs.Ytdhibalpnccbiaa
open Go.RowKit
set_option linter.unusedVariables false
theorem Loop3.later {w W W' : World} {g cap : Nat} {L : List Bytes} {E P : Bytes} {k : Nat} (h : Loop3 w W g cap L E P k) (hb : Below W.heap.size W W') : Loop3 w W' g cap L E P k :=
  ⟨h.res.later hb, h.box.later hb, h.row.later hb, below_next h.bel hb, h.all⟩
theorem condB_no {E P : Bytes} {L : List Bytes} (h3 : ¬ 3 < L.length) (hq : ¬ (L.length < 3 ∧ E ++ P ≠ [])) (hE : E ≠ [] → partsB true (E.drop 1) = true) (hP : P ≠ [] → partsB false (P.drop 1) = true) : condB E P L = false := by
  cases hc : condB E P L with
  | false => rfl
  | true =>
    exfalso
    unfold condB at hc
    simp only [Bool.or_eq_true, Bool.and_eq_true, decide_eq_true_eq, Bool.not_eq_true'] at hc
    rcases hc with ((h | h) | h) | h
    · exact h3 h
    · exact hq h
    · rw [hE h.1] at h; exact absurd h.2 (by simp)
    · rw [hP h.1] at h; exact absurd h.2 (by simp)
theorem core_none {E P : Bytes} {L : List Bytes} {o : Option SX} (ho : o = coreS E P L) (h : condB E P L = true) : o = none := by
  rw [ho]; unfold coreS; rw [if_pos h]
theorem core_all {E P : Bytes} {L : List Bytes} {o : Option SX} (ho : o = coreS E P L) (h : condB E P L = false) : o = if L.all numOk = true then some ⟨nth L L.length 0, nth L L.length 1, nth L L.length 2, E, P, L.length⟩ else none := by
  rw [ho]; unfold coreS; rw [h]; rfl
noncomputable def c19 : Code := nx (nx c17)
set_option maxHeartbeats 4000000 in
set_option maxRecDepth 1000000 in
theorem m1 (w W : World) (g cap : Nat) (L : List Bytes) (E P : Bytes) (o : Option SX) (u0 u1 u3 u5 u6 u8 u9 u10 u11 u12 u13 u14 u15 u16 u17 u18 u19 u20 u21 u22 u23 u24 u25 u26 u27 u28 u29 u30 u31 u32 u33 u34 u35 u36 u37 u38 u39 u40 u41 u42 u43 u44 u45 u46 u47 u48 u49 u50 u51 u52 u53 u54 u55 u56 u57 u58 u59 u60 u61 u62 u63 u64 u65 u66 u67 u68 u69 u70 u71 u72 u73 u74 u75 u76 u77 u78 u79 u80 u81 u82 u83 u84 u85 u86 u87 u88 u89 u90 u91 u92 u93 u94 u95 u96 u97 u98 u99 u100 u101 u102 u103 u104 u105 u106 u107 u108 u109 u110 u111 u112 u113 u114 u115 u116 u117 u118 : Value) (HLEN : Hid (∀ x ∈ L, x.length ≤ maxLen)) (hE : E.length ≤ 1000) (hP : P.length ≤ 1000)
    (HS : Hid (Loop3 w W g cap L E P 0)) (HO : Hid (o = coreS E P L))(h3 : 3 < L.length) :
    Code.wp Try.prog c19 (bodyPost Try.prog Try.f34 fun e w' => SxE o e ∧ Below w.heap.size w w') {tmps := #[u0, u1, Value.pointer (some ⟨w.heap.size, 0, none⟩), u3, Value.pointer (some ⟨w.heap.size + 1, 0, none⟩), u5, u6, Value.slice (some ⟨g, 0, none⟩) L.length cap, u8, u9, u10, u11, u12, u13, u14, u15, u16, u17, u18, u19, u20, u21, u22, u23, u24, u25, u26, u27, u28, u29, u30, u31, u32, u33, u34, u35, u36, u37, u38, u39, u40, u41, u42, u43, u44, u45, u46, u47, u48, u49, u50, u51, u52, u53, u54, u55, u56, u57, u58, u59, u60, u61, u62, u63, u64, u65, u66, u67, u68, u69, u70, u71, u72, u73, u74, u75, u76, u77, u78, u79, u80, u81, u82, u83, u84, u85, u86, u87, u88, u89, u90, u91, u92, u93, u94, u95, u96, u97, u98, u99, u100, u101, u102, u103, u104, u105, u106, u107, u108, u109, u110, u111, u112, u113, u114, u115, u116, u117, u118], defers := []} W := by
  conv => arg 2; whnf
  go_upto_region 19 with (fail)
  rename_i KR hR KC hC
  have key : condB E P L = false → ∀ (W : World), Loop3 w W g cap L E P 0 → ∀ u0 u1 u3 u5 u6 u8 u9 u10 u11 u12 u13 u14 u15 u16 u17 u18 u19 u20 u21 u22 u23 u24 u25 u26 u27 u28 u29 u30 u31 u32 u33 u34 u35 u36 u37 u38 u39 u40 u41 u42 u43 u44 u45 u46 u47 u48 u49 u50 u51 u52 u53 u54 u55 u56 u57 u58 u59 u60 u61 u62 u63 u64 u65 u66 u67 u68 u69 u70 u71 u72 u73 u74 u75 u76 u77 u78 u79 u80 u81 u82 u83 u84 u85 u86 u87 u88 u89 u90 u91 u92 u93 u94 u95 u96 u97 u98 u99 u100 u101 u102 u103 u104 u105 u106 u107 u108 u109 u110 u111 u112 u113 u114 u115 u116 u117 u118 : Value, KR {tmps := #[u0, u1, Value.pointer (some ⟨w.heap.size, 0, none⟩), u3, Value.pointer (some ⟨w.heap.size + 1, 0, none⟩), u5, u6, Value.slice (some ⟨g, 0, none⟩) L.length cap, u8, u9, u10, u11, u12, u13, u14, u15, u16, u17, u18, u19, u20, u21, u22, u23, u24, u25, u26, u27, u28, u29, u30, u31, u32, u33, u34, u35, u36, u37, u38, u39, u40, u41, u42, u43, u44, u45, u46, u47, u48, u49, u50, u51, u52, u53, u54, u55, u56, u57, u58, u59, u60, u61, u62, u63, u64, u65, u66, u67, u68, u69, u70, u71, u72, u73, u74, u75, u76, u77, u78, u79, u80, u81, u82, u83, u84, u85, u86, u87, u88, u89, u90, u91, u92, u93, u94, u95, u96, u97, u98, u99, u100, u101, u102, u103, u104, u105, u106, u107, u108, u109, u110, u111, u112, u113, u114, u115, u116, u117, u118], defers := []} W := by
    intro hc W hS u0 u1 u3 u5 u6 u8 u9 u10 u11 u12 u13 u14 u15 u16 u17 u18 u19 u20 u21 u22 u23 u24 u25 u26 u27 u28 u29 u30 u31 u32 u33 u34 u35 u36 u37 u38 u39 u40 u41 u42 u43 u44 u45 u46 u47 u48 u49 u50 u51 u52 u53 u54 u55 u56 u57 u58 u59 u60 u61 u62 u63 u64 u65 u66 u67 u68 u69 u70 u71 u72 u73 u74 u75 u76 u77 u78 u79 u80 u81 u82 u83 u84 u85 u86 u87 u88 u89 u90 u91 u92 u93 u94 u95 u96 u97 u98 u99 u100 u101 u102 u103 u104 u105 u106 u107 u108 u109 u110 u111 u112 u113 u114 u115 u116 u117 u118
    apply hR
    exact tail21 w W g cap L E P o u0 u1 u3 u5 u6 u8 u9 u10 u11 u12 u13 u14 u15 u16 u17 u18 u19 u20 u21 u22 u23 u24 u25 u26 u27 u28 u29 u30 u31 u32 u33 u34 u35 u36 u37 u38 u39 u40 u41 u42 u43 u44 u45 u46 u47 u48 u49 u50 u51 u52 u53 u54 u55 u56 u57 u58 u59 u60 u61 u62 u63 u64 u65 u66 u67 u68 u69 u70 u71 u72 u73 u74 u75 u76 u77 u78 u79 u80 u81 u82 u83 u84 u85 u86 u87 u88 u89 u90 u91 u92 u93 u94 u95 u96 u97 u98 u99 u100 u101 u102 u103 u104 u105 u106 u107 u108 u109 u110 u111 u112 u113 u114 u115 u116 u117 u118 (by
      by_cases h : 3 < L.length
      · have : condB E P L = true := by simp [condB, h]
        rw [this] at hc; cases hc
      · omega) HLEN.out hS (core_all HO.out hc)
  have KEY := Lib.hid key
  clear key hR
  have HF := Lib.hid (core_none HO.out (by simp [condB, h3]))
  obtain ⟨⟨c0, c1, c2, c3, c4, c5⟩, f0, f1, f2, f3, f4, f5⟩ := HS.out.box
  obtain ⟨⟨r0, r1, r2, r3, r4, r5⟩, g0, g1, g2, g3, g4, g5⟩ := HS.out.res
  have HB := Lib.hid HS.out.bel
  go_wp2
  refine bodyPost_ret (v := .tuple #[sxv ⟨nth L 0 0, nth L 0 1, nth L 0 2, E, P, L.length⟩, .bool false]) (by simp [results, Try.results34, go_sem, r0, r1, r2, r3, r4, r5]; try rfl) rfl ⟨sxE_none HF.out _ rfl, ?_⟩
  exact below6 HB.out
set_option maxHeartbeats 4000000 in
set_option maxRecDepth 1000000 in
theorem m2 (w W : World) (g cap : Nat) (L : List Bytes) (E P : Bytes) (o : Option SX) (u0 u1 u3 u5 u6 u8 u9 u10 u11 u12 u13 u14 u15 u16 u17 u18 u19 u20 u21 u22 u23 u24 u25 u26 u27 u28 u29 u30 u31 u32 u33 u34 u35 u36 u37 u38 u39 u40 u41 u42 u43 u44 u45 u46 u47 u48 u49 u50 u51 u52 u53 u54 u55 u56 u57 u58 u59 u60 u61 u62 u63 u64 u65 u66 u67 u68 u69 u70 u71 u72 u73 u74 u75 u76 u77 u78 u79 u80 u81 u82 u83 u84 u85 u86 u87 u88 u89 u90 u91 u92 u93 u94 u95 u96 u97 u98 u99 u100 u101 u102 u103 u104 u105 u106 u107 u108 u109 u110 u111 u112 u113 u114 u115 u116 u117 u118 : Value) (HLEN : Hid (∀ x ∈ L, x.length ≤ maxLen)) (hE : E.length ≤ 1000) (hP : P.length ≤ 1000)
    (HS : Hid (Loop3 w W g cap L E P 0)) (HO : Hid (o = coreS E P L))(h2 : L.length < 3) (hne : E ++ P ≠ []) :
    Code.wp Try.prog c19 (bodyPost Try.prog Try.f34 fun e w' => SxE o e ∧ Below w.heap.size w w') {tmps := #[u0, u1, Value.pointer (some ⟨w.heap.size, 0, none⟩), u3, Value.pointer (some ⟨w.heap.size + 1, 0, none⟩), u5, u6, Value.slice (some ⟨g, 0, none⟩) L.length cap, u8, u9, u10, u11, u12, u13, u14, u15, u16, u17, u18, u19, u20, u21, u22, u23, u24, u25, u26, u27, u28, u29, u30, u31, u32, u33, u34, u35, u36, u37, u38, u39, u40, u41, u42, u43, u44, u45, u46, u47, u48, u49, u50, u51, u52, u53, u54, u55, u56, u57, u58, u59, u60, u61, u62, u63, u64, u65, u66, u67, u68, u69, u70, u71, u72, u73, u74, u75, u76, u77, u78, u79, u80, u81, u82, u83, u84, u85, u86, u87, u88, u89, u90, u91, u92, u93, u94, u95, u96, u97, u98, u99, u100, u101, u102, u103, u104, u105, u106, u107, u108, u109, u110, u111, u112, u113, u114, u115, u116, u117, u118], defers := []} W := by
  conv => arg 2; whnf
  go_upto_region 19 with (fail)
  rename_i KR hR KC hC
  have key : condB E P L = false → ∀ (W : World), Loop3 w W g cap L E P 0 → ∀ u0 u1 u3 u5 u6 u8 u9 u10 u11 u12 u13 u14 u15 u16 u17 u18 u19 u20 u21 u22 u23 u24 u25 u26 u27 u28 u29 u30 u31 u32 u33 u34 u35 u36 u37 u38 u39 u40 u41 u42 u43 u44 u45 u46 u47 u48 u49 u50 u51 u52 u53 u54 u55 u56 u57 u58 u59 u60 u61 u62 u63 u64 u65 u66 u67 u68 u69 u70 u71 u72 u73 u74 u75 u76 u77 u78 u79 u80 u81 u82 u83 u84 u85 u86 u87 u88 u89 u90 u91 u92 u93 u94 u95 u96 u97 u98 u99 u100 u101 u102 u103 u104 u105 u106 u107 u108 u109 u110 u111 u112 u113 u114 u115 u116 u117 u118 : Value, KR {tmps := #[u0, u1, Value.pointer (some ⟨w.heap.size, 0, none⟩), u3, Value.pointer (some ⟨w.heap.size + 1, 0, none⟩), u5, u6, Value.slice (some ⟨g, 0, none⟩) L.length cap, u8, u9, u10, u11, u12, u13, u14, u15, u16, u17, u18, u19, u20, u21, u22, u23, u24, u25, u26, u27, u28, u29, u30, u31, u32, u33, u34, u35, u36, u37, u38, u39, u40, u41, u42, u43, u44, u45, u46, u47, u48, u49, u50, u51, u52, u53, u54, u55, u56, u57, u58, u59, u60, u61, u62, u63, u64, u65, u66, u67, u68, u69, u70, u71, u72, u73, u74, u75, u76, u77, u78, u79, u80, u81, u82, u83, u84, u85, u86, u87, u88, u89, u90, u91, u92, u93, u94, u95, u96, u97, u98, u99, u100, u101, u102, u103, u104, u105, u106, u107, u108, u109, u110, u111, u112, u113, u114, u115, u116, u117, u118], defers := []} W := by
    intro hc W hS u0 u1 u3 u5 u6 u8 u9 u10 u11 u12 u13 u14 u15 u16 u17 u18 u19 u20 u21 u22 u23 u24 u25 u26 u27 u28 u29 u30 u31 u32 u33 u34 u35 u36 u37 u38 u39 u40 u41 u42 u43 u44 u45 u46 u47 u48 u49 u50 u51 u52 u53 u54 u55 u56 u57 u58 u59 u60 u61 u62 u63 u64 u65 u66 u67 u68 u69 u70 u71 u72 u73 u74 u75 u76 u77 u78 u79 u80 u81 u82 u83 u84 u85 u86 u87 u88 u89 u90 u91 u92 u93 u94 u95 u96 u97 u98 u99 u100 u101 u102 u103 u104 u105 u106 u107 u108 u109 u110 u111 u112 u113 u114 u115 u116 u117 u118
    apply hR
    exact tail21 w W g cap L E P o u0 u1 u3 u5 u6 u8 u9 u10 u11 u12 u13 u14 u15 u16 u17 u18 u19 u20 u21 u22 u23 u24 u25 u26 u27 u28 u29 u30 u31 u32 u33 u34 u35 u36 u37 u38 u39 u40 u41 u42 u43 u44 u45 u46 u47 u48 u49 u50 u51 u52 u53 u54 u55 u56 u57 u58 u59 u60 u61 u62 u63 u64 u65 u66 u67 u68 u69 u70 u71 u72 u73 u74 u75 u76 u77 u78 u79 u80 u81 u82 u83 u84 u85 u86 u87 u88 u89 u90 u91 u92 u93 u94 u95 u96 u97 u98 u99 u100 u101 u102 u103 u104 u105 u106 u107 u108 u109 u110 u111 u112 u113 u114 u115 u116 u117 u118 (by
      by_cases h : 3 < L.length
      · have : condB E P L = true := by simp [condB, h]
        rw [this] at hc; cases hc
      · omega) HLEN.out hS (core_all HO.out hc)
  have KEY := Lib.hid key
  clear key hR
  have HF := Lib.hid (core_none HO.out (by unfold condB; simp only [Bool.or_eq_true, Bool.and_eq_true, decide_eq_true_eq]; exact .inl (.inl (.inr ⟨h2, hne⟩))))
  have e1 : (E ++ P == []) = false := by simpa using hne
  have e2 : (E ++ P != []) = true := by simpa using hne
  have e3 : (E ++ P).isEmpty = false := by simpa using hne
  clear hne
  obtain ⟨⟨c0, c1, c2, c3, c4, c5⟩, f0, f1, f2, f3, f4, f5⟩ := HS.out.box
  obtain ⟨⟨r0, r1, r2, r3, r4, r5⟩, g0, g1, g2, g3, g4, g5⟩ := HS.out.res
  have HB := Lib.hid HS.out.bel
  go_wp2
  refine bodyPost_ret (v := .tuple #[sxv ⟨nth L 0 0, nth L 0 1, nth L 0 2, E, P, L.length⟩, .bool false]) (by simp [results, Try.results34, go_sem, r0, r1, r2, r3, r4, r5]; try rfl) rfl ⟨sxE_none HF.out _ rfl, ?_⟩
  exact below6 HB.out
set_option maxHeartbeats 4000000 in
set_option maxRecDepth 1000000 in
theorem m3 (w W : World) (g cap : Nat) (L : List Bytes) (E P : Bytes) (o : Option SX) (u0 u1 u3 u5 u6 u8 u9 u10 u11 u12 u13 u14 u15 u16 u17 u18 u19 u20 u21 u22 u23 u24 u25 u26 u27 u28 u29 u30 u31 u32 u33 u34 u35 u36 u37 u38 u39 u40 u41 u42 u43 u44 u45 u46 u47 u48 u49 u50 u51 u52 u53 u54 u55 u56 u57 u58 u59 u60 u61 u62 u63 u64 u65 u66 u67 u68 u69 u70 u71 u72 u73 u74 u75 u76 u77 u78 u79 u80 u81 u82 u83 u84 u85 u86 u87 u88 u89 u90 u91 u92 u93 u94 u95 u96 u97 u98 u99 u100 u101 u102 u103 u104 u105 u106 u107 u108 u109 u110 u111 u112 u113 u114 u115 u116 u117 u118 : Value) (HLEN : Hid (∀ x ∈ L, x.length ≤ maxLen)) (hE : E.length ≤ 1000) (hP : P.length ≤ 1000)
    (HS : Hid (Loop3 w W g cap L E P 0)) (HO : Hid (o = coreS E P L))(hE0 : E = []) (hP0 : P = []) (h3 : L.length ≤ 3) :
    Code.wp Try.prog c19 (bodyPost Try.prog Try.f34 fun e w' => SxE o e ∧ Below w.heap.size w w') {tmps := #[u0, u1, Value.pointer (some ⟨w.heap.size, 0, none⟩), u3, Value.pointer (some ⟨w.heap.size + 1, 0, none⟩), u5, u6, Value.slice (some ⟨g, 0, none⟩) L.length cap, u8, u9, u10, u11, u12, u13, u14, u15, u16, u17, u18, u19, u20, u21, u22, u23, u24, u25, u26, u27, u28, u29, u30, u31, u32, u33, u34, u35, u36, u37, u38, u39, u40, u41, u42, u43, u44, u45, u46, u47, u48, u49, u50, u51, u52, u53, u54, u55, u56, u57, u58, u59, u60, u61, u62, u63, u64, u65, u66, u67, u68, u69, u70, u71, u72, u73, u74, u75, u76, u77, u78, u79, u80, u81, u82, u83, u84, u85, u86, u87, u88, u89, u90, u91, u92, u93, u94, u95, u96, u97, u98, u99, u100, u101, u102, u103, u104, u105, u106, u107, u108, u109, u110, u111, u112, u113, u114, u115, u116, u117, u118], defers := []} W := by
  conv => arg 2; whnf
  go_upto_region 19 with (fail)
  rename_i KR hR KC hC
  have key : condB E P L = false → ∀ (W : World), Loop3 w W g cap L E P 0 → ∀ u0 u1 u3 u5 u6 u8 u9 u10 u11 u12 u13 u14 u15 u16 u17 u18 u19 u20 u21 u22 u23 u24 u25 u26 u27 u28 u29 u30 u31 u32 u33 u34 u35 u36 u37 u38 u39 u40 u41 u42 u43 u44 u45 u46 u47 u48 u49 u50 u51 u52 u53 u54 u55 u56 u57 u58 u59 u60 u61 u62 u63 u64 u65 u66 u67 u68 u69 u70 u71 u72 u73 u74 u75 u76 u77 u78 u79 u80 u81 u82 u83 u84 u85 u86 u87 u88 u89 u90 u91 u92 u93 u94 u95 u96 u97 u98 u99 u100 u101 u102 u103 u104 u105 u106 u107 u108 u109 u110 u111 u112 u113 u114 u115 u116 u117 u118 : Value, KR {tmps := #[u0, u1, Value.pointer (some ⟨w.heap.size, 0, none⟩), u3, Value.pointer (some ⟨w.heap.size + 1, 0, none⟩), u5, u6, Value.slice (some ⟨g, 0, none⟩) L.length cap, u8, u9, u10, u11, u12, u13, u14, u15, u16, u17, u18, u19, u20, u21, u22, u23, u24, u25, u26, u27, u28, u29, u30, u31, u32, u33, u34, u35, u36, u37, u38, u39, u40, u41, u42, u43, u44, u45, u46, u47, u48, u49, u50, u51, u52, u53, u54, u55, u56, u57, u58, u59, u60, u61, u62, u63, u64, u65, u66, u67, u68, u69, u70, u71, u72, u73, u74, u75, u76, u77, u78, u79, u80, u81, u82, u83, u84, u85, u86, u87, u88, u89, u90, u91, u92, u93, u94, u95, u96, u97, u98, u99, u100, u101, u102, u103, u104, u105, u106, u107, u108, u109, u110, u111, u112, u113, u114, u115, u116, u117, u118], defers := []} W := by
    intro hc W hS u0 u1 u3 u5 u6 u8 u9 u10 u11 u12 u13 u14 u15 u16 u17 u18 u19 u20 u21 u22 u23 u24 u25 u26 u27 u28 u29 u30 u31 u32 u33 u34 u35 u36 u37 u38 u39 u40 u41 u42 u43 u44 u45 u46 u47 u48 u49 u50 u51 u52 u53 u54 u55 u56 u57 u58 u59 u60 u61 u62 u63 u64 u65 u66 u67 u68 u69 u70 u71 u72 u73 u74 u75 u76 u77 u78 u79 u80 u81 u82 u83 u84 u85 u86 u87 u88 u89 u90 u91 u92 u93 u94 u95 u96 u97 u98 u99 u100 u101 u102 u103 u104 u105 u106 u107 u108 u109 u110 u111 u112 u113 u114 u115 u116 u117 u118
    apply hR
    exact tail21 w W g cap L E P o u0 u1 u3 u5 u6 u8 u9 u10 u11 u12 u13 u14 u15 u16 u17 u18 u19 u20 u21 u22 u23 u24 u25 u26 u27 u28 u29 u30 u31 u32 u33 u34 u35 u36 u37 u38 u39 u40 u41 u42 u43 u44 u45 u46 u47 u48 u49 u50 u51 u52 u53 u54 u55 u56 u57 u58 u59 u60 u61 u62 u63 u64 u65 u66 u67 u68 u69 u70 u71 u72 u73 u74 u75 u76 u77 u78 u79 u80 u81 u82 u83 u84 u85 u86 u87 u88 u89 u90 u91 u92 u93 u94 u95 u96 u97 u98 u99 u100 u101 u102 u103 u104 u105 u106 u107 u108 u109 u110 u111 u112 u113 u114 u115 u116 u117 u118 (by
      by_cases h : 3 < L.length
      · have : condB E P L = true := by simp [condB, h]
        rw [this] at hc; cases hc
      · omega) HLEN.out hS (core_all HO.out hc)
  have KEY := Lib.hid key
  clear key hR
  subst hE0 hP0
  have HC : Hid (condB [] [] L = false) := Lib.hid (condB_no (by omega) (by simp) (fun h => absurd rfl h) (fun h => absurd rfl h))
  obtain ⟨⟨c0, c1, c2, c3, c4, c5⟩, f0, f1, f2, f3, f4, f5⟩ := HS.out.box
  obtain ⟨⟨r0, r1, r2, r3, r4, r5⟩, g0, g1, g2, g3, g4, g5⟩ := HS.out.res
  by_cases h2 : L.length < 3
  · go_wp2
    exact KEY.out HC.out _ HS.out _ _ _ _ _ _ _ _ _ _ _ _ _ _ _ _ _ _ _ _ _ _ _ _ _ _ _ _ _ _ _ _ _ _ _ _ _ _ _ _ _ _ _ _ _ _ _ _ _ _ _ _ _ _ _ _ _ _ _ _ _ _ _ _ _ _ _ _ _ _ _ _ _ _ _ _ _ _ _ _ _ _ _ _ _ _ _ _ _ _ _ _ _ _ _ _ _ _ _ _ _ _ _ _ _ _ _ _ _ _ _ _ _ _ _ _
  · go_wp2
    exact KEY.out HC.out _ HS.out _ _ _ _ _ _ _ _ _ _ _ _ _ _ _ _ _ _ _ _ _ _ _ _ _ _ _ _ _ _ _ _ _ _ _ _ _ _ _ _ _ _ _ _ _ _ _ _ _ _ _ _ _ _ _ _ _ _ _ _ _ _ _ _ _ _ _ _ _ _ _ _ _ _ _ _ _ _ _ _ _ _ _ _ _ _ _ _ _ _ _ _ _ _ _ _ _ _ _ _ _ _ _ _ _ _ _ _ _ _ _ _ _ _ _ _
set_option maxHeartbeats 4000000 in
set_option maxRecDepth 1000000 in
theorem m4 (w W : World) (g cap : Nat) (L : List Bytes) (E P : Bytes) (o : Option SX) (u0 u1 u3 u5 u6 u8 u9 u10 u11 u12 u13 u14 u15 u16 u17 u18 u19 u20 u21 u22 u23 u24 u25 u26 u27 u28 u29 u30 u31 u32 u33 u34 u35 u36 u37 u38 u39 u40 u41 u42 u43 u44 u45 u46 u47 u48 u49 u50 u51 u52 u53 u54 u55 u56 u57 u58 u59 u60 u61 u62 u63 u64 u65 u66 u67 u68 u69 u70 u71 u72 u73 u74 u75 u76 u77 u78 u79 u80 u81 u82 u83 u84 u85 u86 u87 u88 u89 u90 u91 u92 u93 u94 u95 u96 u97 u98 u99 u100 u101 u102 u103 u104 u105 u106 u107 u108 u109 u110 u111 u112 u113 u114 u115 u116 u117 u118 : Value) (HLEN : Hid (∀ x ∈ L, x.length ≤ maxLen)) (hE : E.length ≤ 1000) (hP : P.length ≤ 1000)
    (HS : Hid (Loop3 w W g cap L E P 0)) (HO : Hid (o = coreS E P L))(hE0 : E = []) (hP0 : P ≠ []) (h3 : L.length ≤ 3) (h2 : ¬ L.length < 3) (hpb : partsB false (P.drop 1) = true) :
    Code.wp Try.prog c19 (bodyPost Try.prog Try.f34 fun e w' => SxE o e ∧ Below w.heap.size w w') {tmps := #[u0, u1, Value.pointer (some ⟨w.heap.size, 0, none⟩), u3, Value.pointer (some ⟨w.heap.size + 1, 0, none⟩), u5, u6, Value.slice (some ⟨g, 0, none⟩) L.length cap, u8, u9, u10, u11, u12, u13, u14, u15, u16, u17, u18, u19, u20, u21, u22, u23, u24, u25, u26, u27, u28, u29, u30, u31, u32, u33, u34, u35, u36, u37, u38, u39, u40, u41, u42, u43, u44, u45, u46, u47, u48, u49, u50, u51, u52, u53, u54, u55, u56, u57, u58, u59, u60, u61, u62, u63, u64, u65, u66, u67, u68, u69, u70, u71, u72, u73, u74, u75, u76, u77, u78, u79, u80, u81, u82, u83, u84, u85, u86, u87, u88, u89, u90, u91, u92, u93, u94, u95, u96, u97, u98, u99, u100, u101, u102, u103, u104, u105, u106, u107, u108, u109, u110, u111, u112, u113, u114, u115, u116, u117, u118], defers := []} W := by
  conv => arg 2; whnf
  go_upto_region 19 with (fail)
  rename_i KR hR KC hC
  have key : condB E P L = false → ∀ (W : World), Loop3 w W g cap L E P 0 → ∀ u0 u1 u3 u5 u6 u8 u9 u10 u11 u12 u13 u14 u15 u16 u17 u18 u19 u20 u21 u22 u23 u24 u25 u26 u27 u28 u29 u30 u31 u32 u33 u34 u35 u36 u37 u38 u39 u40 u41 u42 u43 u44 u45 u46 u47 u48 u49 u50 u51 u52 u53 u54 u55 u56 u57 u58 u59 u60 u61 u62 u63 u64 u65 u66 u67 u68 u69 u70 u71 u72 u73 u74 u75 u76 u77 u78 u79 u80 u81 u82 u83 u84 u85 u86 u87 u88 u89 u90 u91 u92 u93 u94 u95 u96 u97 u98 u99 u100 u101 u102 u103 u104 u105 u106 u107 u108 u109 u110 u111 u112 u113 u114 u115 u116 u117 u118 : Value, KR {tmps := #[u0, u1, Value.pointer (some ⟨w.heap.size, 0, none⟩), u3, Value.pointer (some ⟨w.heap.size + 1, 0, none⟩), u5, u6, Value.slice (some ⟨g, 0, none⟩) L.length cap, u8, u9, u10, u11, u12, u13, u14, u15, u16, u17, u18, u19, u20, u21, u22, u23, u24, u25, u26, u27, u28, u29, u30, u31, u32, u33, u34, u35, u36, u37, u38, u39, u40, u41, u42, u43, u44, u45, u46, u47, u48, u49, u50, u51, u52, u53, u54, u55, u56, u57, u58, u59, u60, u61, u62, u63, u64, u65, u66, u67, u68, u69, u70, u71, u72, u73, u74, u75, u76, u77, u78, u79, u80, u81, u82, u83, u84, u85, u86, u87, u88, u89, u90, u91, u92, u93, u94, u95, u96, u97, u98, u99, u100, u101, u102, u103, u104, u105, u106, u107, u108, u109, u110, u111, u112, u113, u114, u115, u116, u117, u118], defers := []} W := by
    intro hc W hS u0 u1 u3 u5 u6 u8 u9 u10 u11 u12 u13 u14 u15 u16 u17 u18 u19 u20 u21 u22 u23 u24 u25 u26 u27 u28 u29 u30 u31 u32 u33 u34 u35 u36 u37 u38 u39 u40 u41 u42 u43 u44 u45 u46 u47 u48 u49 u50 u51 u52 u53 u54 u55 u56 u57 u58 u59 u60 u61 u62 u63 u64 u65 u66 u67 u68 u69 u70 u71 u72 u73 u74 u75 u76 u77 u78 u79 u80 u81 u82 u83 u84 u85 u86 u87 u88 u89 u90 u91 u92 u93 u94 u95 u96 u97 u98 u99 u100 u101 u102 u103 u104 u105 u106 u107 u108 u109 u110 u111 u112 u113 u114 u115 u116 u117 u118
    apply hR
    exact tail21 w W g cap L E P o u0 u1 u3 u5 u6 u8 u9 u10 u11 u12 u13 u14 u15 u16 u17 u18 u19 u20 u21 u22 u23 u24 u25 u26 u27 u28 u29 u30 u31 u32 u33 u34 u35 u36 u37 u38 u39 u40 u41 u42 u43 u44 u45 u46 u47 u48 u49 u50 u51 u52 u53 u54 u55 u56 u57 u58 u59 u60 u61 u62 u63 u64 u65 u66 u67 u68 u69 u70 u71 u72 u73 u74 u75 u76 u77 u78 u79 u80 u81 u82 u83 u84 u85 u86 u87 u88 u89 u90 u91 u92 u93 u94 u95 u96 u97 u98 u99 u100 u101 u102 u103 u104 u105 u106 u107 u108 u109 u110 u111 u112 u113 u114 u115 u116 u117 u118 (by
      by_cases h : 3 < L.length
      · have : condB E P L = true := by simp [condB, h]
        rw [this] at hc; cases hc
      · omega) HLEN.out hS (core_all HO.out hc)
  have KEY := Lib.hid key
  clear key hR
  subst hE0
  have HC : Hid (condB [] P L = false) := Lib.hid (condB_no (by omega) (fun h => h2 h.1) (fun h => absurd rfl h) (fun _ => hpb))
  have hPn : (P == []) = false := by simpa using hP0
  have hPi : P.isEmpty = false := by simpa using hP0
  have hPm : (P != []) = true := by simpa using hP0
  have hP1 : 1 ≤ P.length := by cases P <;> simp_all
  have HPL : Hid (P.tail.length ≤ 1000) := by show _ ≤ _; simp; omega
  have HPB := Lib.hid ((by rw [← List.drop_one] : partsB false P.tail = partsB false (P.drop 1)).trans hpb)
  clear hpb hP0
  obtain ⟨⟨c0, c1, c2, c3, c4, c5⟩, f0, f1, f2, f3, f4, f5⟩ := HS.out.box
  obtain ⟨⟨r0, r1, r2, r3, r4, r5⟩, g0, g1, g2, g3, g4, g5⟩ := HS.out.res
  go_wp2_with fail
  refine (parts_any P.tail false _ HPL.out).mono ?_
  rintro e w4 ⟨rfl, hb4⟩
  rw [HPB.out]
  replace HS := Lib.hid (HS.out.later hb4)
  clear hb4 c0 c1 c2 c3 c4 c5 f0 f1 f2 f3 f4 f5 r0 r1 r2 r3 r4 r5 g0 g1 g2 g3 g4 g5
  obtain ⟨⟨c0, c1, c2, c3, c4, c5⟩, f0, f1, f2, f3, f4, f5⟩ := HS.out.box
  obtain ⟨⟨r0, r1, r2, r3, r4, r5⟩, g0, g1, g2, g3, g4, g5⟩ := HS.out.res
  go_wp2
  exact KEY.out HC.out _ HS.out _ _ _ _ _ _ _ _ _ _ _ _ _ _ _ _ _ _ _ _ _ _ _ _ _ _ _ _ _ _ _ _ _ _ _ _ _ _ _ _ _ _ _ _ _ _ _ _ _ _ _ _ _ _ _ _ _ _ _ _ _ _ _ _ _ _ _ _ _ _ _ _ _ _ _ _ _ _ _ _ _ _ _ _ _ _ _ _ _ _ _ _ _ _ _ _ _ _ _ _ _ _ _ _ _ _ _ _ _ _ _ _ _ _ _ _
set_option maxHeartbeats 4000000 in
set_option maxRecDepth 1000000 in
theorem m5 (w W : World) (g cap : Nat) (L : List Bytes) (E P : Bytes) (o : Option SX) (u0 u1 u3 u5 u6 u8 u9 u10 u11 u12 u13 u14 u15 u16 u17 u18 u19 u20 u21 u22 u23 u24 u25 u26 u27 u28 u29 u30 u31 u32 u33 u34 u35 u36 u37 u38 u39 u40 u41 u42 u43 u44 u45 u46 u47 u48 u49 u50 u51 u52 u53 u54 u55 u56 u57 u58 u59 u60 u61 u62 u63 u64 u65 u66 u67 u68 u69 u70 u71 u72 u73 u74 u75 u76 u77 u78 u79 u80 u81 u82 u83 u84 u85 u86 u87 u88 u89 u90 u91 u92 u93 u94 u95 u96 u97 u98 u99 u100 u101 u102 u103 u104 u105 u106 u107 u108 u109 u110 u111 u112 u113 u114 u115 u116 u117 u118 : Value) (HLEN : Hid (∀ x ∈ L, x.length ≤ maxLen)) (hE : E.length ≤ 1000) (hP : P.length ≤ 1000)
    (HS : Hid (Loop3 w W g cap L E P 0)) (HO : Hid (o = coreS E P L))(hE0 : E = []) (hP0 : P ≠ []) (h3 : L.length ≤ 3) (h2 : ¬ L.length < 3) (hpb : partsB false (P.drop 1) = false) :
    Code.wp Try.prog c19 (bodyPost Try.prog Try.f34 fun e w' => SxE o e ∧ Below w.heap.size w w') {tmps := #[u0, u1, Value.pointer (some ⟨w.heap.size, 0, none⟩), u3, Value.pointer (some ⟨w.heap.size + 1, 0, none⟩), u5, u6, Value.slice (some ⟨g, 0, none⟩) L.length cap, u8, u9, u10, u11, u12, u13, u14, u15, u16, u17, u18, u19, u20, u21, u22, u23, u24, u25, u26, u27, u28, u29, u30, u31, u32, u33, u34, u35, u36, u37, u38, u39, u40, u41, u42, u43, u44, u45, u46, u47, u48, u49, u50, u51, u52, u53, u54, u55, u56, u57, u58, u59, u60, u61, u62, u63, u64, u65, u66, u67, u68, u69, u70, u71, u72, u73, u74, u75, u76, u77, u78, u79, u80, u81, u82, u83, u84, u85, u86, u87, u88, u89, u90, u91, u92, u93, u94, u95, u96, u97, u98, u99, u100, u101, u102, u103, u104, u105, u106, u107, u108, u109, u110, u111, u112, u113, u114, u115, u116, u117, u118], defers := []} W := by
  conv => arg 2; whnf
  go_upto_region 19 with (fail)
  rename_i KR hR KC hC
  have key : condB E P L = false → ∀ (W : World), Loop3 w W g cap L E P 0 → ∀ u0 u1 u3 u5 u6 u8 u9 u10 u11 u12 u13 u14 u15 u16 u17 u18 u19 u20 u21 u22 u23 u24 u25 u26 u27 u28 u29 u30 u31 u32 u33 u34 u35 u36 u37 u38 u39 u40 u41 u42 u43 u44 u45 u46 u47 u48 u49 u50 u51 u52 u53 u54 u55 u56 u57 u58 u59 u60 u61 u62 u63 u64 u65 u66 u67 u68 u69 u70 u71 u72 u73 u74 u75 u76 u77 u78 u79 u80 u81 u82 u83 u84 u85 u86 u87 u88 u89 u90 u91 u92 u93 u94 u95 u96 u97 u98 u99 u100 u101 u102 u103 u104 u105 u106 u107 u108 u109 u110 u111 u112 u113 u114 u115 u116 u117 u118 : Value, KR {tmps := #[u0, u1, Value.pointer (some ⟨w.heap.size, 0, none⟩), u3, Value.pointer (some ⟨w.heap.size + 1, 0, none⟩), u5, u6, Value.slice (some ⟨g, 0, none⟩) L.length cap, u8, u9, u10, u11, u12, u13, u14, u15, u16, u17, u18, u19, u20, u21, u22, u23, u24, u25, u26, u27, u28, u29, u30, u31, u32, u33, u34, u35, u36, u37, u38, u39, u40, u41, u42, u43, u44, u45, u46, u47, u48, u49, u50, u51, u52, u53, u54, u55, u56, u57, u58, u59, u60, u61, u62, u63, u64, u65, u66, u67, u68, u69, u70, u71, u72, u73, u74, u75, u76, u77, u78, u79, u80, u81, u82, u83, u84, u85, u86, u87, u88, u89, u90, u91, u92, u93, u94, u95, u96, u97, u98, u99, u100, u101, u102, u103, u104, u105, u106, u107, u108, u109, u110, u111, u112, u113, u114, u115, u116, u117, u118], defers := []} W := by
    intro hc W hS u0 u1 u3 u5 u6 u8 u9 u10 u11 u12 u13 u14 u15 u16 u17 u18 u19 u20 u21 u22 u23 u24 u25 u26 u27 u28 u29 u30 u31 u32 u33 u34 u35 u36 u37 u38 u39 u40 u41 u42 u43 u44 u45 u46 u47 u48 u49 u50 u51 u52 u53 u54 u55 u56 u57 u58 u59 u60 u61 u62 u63 u64 u65 u66 u67 u68 u69 u70 u71 u72 u73 u74 u75 u76 u77 u78 u79 u80 u81 u82 u83 u84 u85 u86 u87 u88 u89 u90 u91 u92 u93 u94 u95 u96 u97 u98 u99 u100 u101 u102 u103 u104 u105 u106 u107 u108 u109 u110 u111 u112 u113 u114 u115 u116 u117 u118
    apply hR
    exact tail21 w W g cap L E P o u0 u1 u3 u5 u6 u8 u9 u10 u11 u12 u13 u14 u15 u16 u17 u18 u19 u20 u21 u22 u23 u24 u25 u26 u27 u28 u29 u30 u31 u32 u33 u34 u35 u36 u37 u38 u39 u40 u41 u42 u43 u44 u45 u46 u47 u48 u49 u50 u51 u52 u53 u54 u55 u56 u57 u58 u59 u60 u61 u62 u63 u64 u65 u66 u67 u68 u69 u70 u71 u72 u73 u74 u75 u76 u77 u78 u79 u80 u81 u82 u83 u84 u85 u86 u87 u88 u89 u90 u91 u92 u93 u94 u95 u96 u97 u98 u99 u100 u101 u102 u103 u104 u105 u106 u107 u108 u109 u110 u111 u112 u113 u114 u115 u116 u117 u118 (by
      by_cases h : 3 < L.length
      · have : condB E P L = true := by simp [condB, h]
        rw [this] at hc; cases hc
      · omega) HLEN.out hS (core_all HO.out hc)
  have KEY := Lib.hid key
  clear key hR
  subst hE0
  have HF := Lib.hid (core_none HO.out (by unfold condB; rw [hpb]; simp [hP0]))
  have hPn : (P == []) = false := by simpa using hP0
  have hPi : P.isEmpty = false := by simpa using hP0
  have hPm : (P != []) = true := by simpa using hP0
  have hP1 : 1 ≤ P.length := by cases P <;> simp_all
  have HPL : Hid (P.tail.length ≤ 1000) := by show _ ≤ _; simp; omega
  have HPB := Lib.hid ((by rw [← List.drop_one] : partsB false P.tail = partsB false (P.drop 1)).trans hpb)
  clear hpb hP0
  obtain ⟨⟨c0, c1, c2, c3, c4, c5⟩, f0, f1, f2, f3, f4, f5⟩ := HS.out.box
  obtain ⟨⟨r0, r1, r2, r3, r4, r5⟩, g0, g1, g2, g3, g4, g5⟩ := HS.out.res
  go_wp2_with fail
  refine (parts_any P.tail false _ HPL.out).mono ?_
  rintro e w4 ⟨rfl, hb4⟩
  rw [HPB.out]
  replace HS := Lib.hid (HS.out.later hb4)
  clear hb4 c0 c1 c2 c3 c4 c5 f0 f1 f2 f3 f4 f5 r0 r1 r2 r3 r4 r5 g0 g1 g2 g3 g4 g5
  obtain ⟨⟨c0, c1, c2, c3, c4, c5⟩, f0, f1, f2, f3, f4, f5⟩ := HS.out.box
  obtain ⟨⟨r0, r1, r2, r3, r4, r5⟩, g0, g1, g2, g3, g4, g5⟩ := HS.out.res
  have HB := Lib.hid HS.out.bel
  go_wp2
  refine bodyPost_ret (v := .tuple #[sxv ⟨nth L 0 0, nth L 0 1, nth L 0 2, [], P, L.length⟩, .bool false]) (by simp [results, Try.results34, go_sem, r0, r1, r2, r3, r4, r5]; try rfl) rfl ⟨sxE_none HF.out _ rfl, ?_⟩
  exact below6 HB.out
set_option maxHeartbeats 4000000 in
set_option maxRecDepth 1000000 in
theorem m6 (w W : World) (g cap : Nat) (L : List Bytes) (E P : Bytes) (o : Option SX) (u0 u1 u3 u5 u6 u8 u9 u10 u11 u12 u13 u14 u15 u16 u17 u18 u19 u20 u21 u22 u23 u24 u25 u26 u27 u28 u29 u30 u31 u32 u33 u34 u35 u36 u37 u38 u39 u40 u41 u42 u43 u44 u45 u46 u47 u48 u49 u50 u51 u52 u53 u54 u55 u56 u57 u58 u59 u60 u61 u62 u63 u64 u65 u66 u67 u68 u69 u70 u71 u72 u73 u74 u75 u76 u77 u78 u79 u80 u81 u82 u83 u84 u85 u86 u87 u88 u89 u90 u91 u92 u93 u94 u95 u96 u97 u98 u99 u100 u101 u102 u103 u104 u105 u106 u107 u108 u109 u110 u111 u112 u113 u114 u115 u116 u117 u118 : Value) (HLEN : Hid (∀ x ∈ L, x.length ≤ maxLen)) (hE : E.length ≤ 1000) (hP : P.length ≤ 1000)
    (HS : Hid (Loop3 w W g cap L E P 0)) (HO : Hid (o = coreS E P L))(hE0 : E ≠ []) (h3 : L.length ≤ 3) (h2 : ¬ L.length < 3) (hpe : partsB true (E.drop 1) = false) :
    Code.wp Try.prog c19 (bodyPost Try.prog Try.f34 fun e w' => SxE o e ∧ Below w.heap.size w w') {tmps := #[u0, u1, Value.pointer (some ⟨w.heap.size, 0, none⟩), u3, Value.pointer (some ⟨w.heap.size + 1, 0, none⟩), u5, u6, Value.slice (some ⟨g, 0, none⟩) L.length cap, u8, u9, u10, u11, u12, u13, u14, u15, u16, u17, u18, u19, u20, u21, u22, u23, u24, u25, u26, u27, u28, u29, u30, u31, u32, u33, u34, u35, u36, u37, u38, u39, u40, u41, u42, u43, u44, u45, u46, u47, u48, u49, u50, u51, u52, u53, u54, u55, u56, u57, u58, u59, u60, u61, u62, u63, u64, u65, u66, u67, u68, u69, u70, u71, u72, u73, u74, u75, u76, u77, u78, u79, u80, u81, u82, u83, u84, u85, u86, u87, u88, u89, u90, u91, u92, u93, u94, u95, u96, u97, u98, u99, u100, u101, u102, u103, u104, u105, u106, u107, u108, u109, u110, u111, u112, u113, u114, u115, u116, u117, u118], defers := []} W := by
  conv => arg 2; whnf
  go_upto_region 19 with (fail)
  rename_i KR hR KC hC
  have key : condB E P L = false → ∀ (W : World), Loop3 w W g cap L E P 0 → ∀ u0 u1 u3 u5 u6 u8 u9 u10 u11 u12 u13 u14 u15 u16 u17 u18 u19 u20 u21 u22 u23 u24 u25 u26 u27 u28 u29 u30 u31 u32 u33 u34 u35 u36 u37 u38 u39 u40 u41 u42 u43 u44 u45 u46 u47 u48 u49 u50 u51 u52 u53 u54 u55 u56 u57 u58 u59 u60 u61 u62 u63 u64 u65 u66 u67 u68 u69 u70 u71 u72 u73 u74 u75 u76 u77 u78 u79 u80 u81 u82 u83 u84 u85 u86 u87 u88 u89 u90 u91 u92 u93 u94 u95 u96 u97 u98 u99 u100 u101 u102 u103 u104 u105 u106 u107 u108 u109 u110 u111 u112 u113 u114 u115 u116 u117 u118 : Value, KR {tmps := #[u0, u1, Value.pointer (some ⟨w.heap.size, 0, none⟩), u3, Value.pointer (some ⟨w.heap.size + 1, 0, none⟩), u5, u6, Value.slice (some ⟨g, 0, none⟩) L.length cap, u8, u9, u10, u11, u12, u13, u14, u15, u16, u17, u18, u19, u20, u21, u22, u23, u24, u25, u26, u27, u28, u29, u30, u31, u32, u33, u34, u35, u36, u37, u38, u39, u40, u41, u42, u43, u44, u45, u46, u47, u48, u49, u50, u51, u52, u53, u54, u55, u56, u57, u58, u59, u60, u61, u62, u63, u64, u65, u66, u67, u68, u69, u70, u71, u72, u73, u74, u75, u76, u77, u78, u79, u80, u81, u82, u83, u84, u85, u86, u87, u88, u89, u90, u91, u92, u93, u94, u95, u96, u97, u98, u99, u100, u101, u102, u103, u104, u105, u106, u107, u108, u109, u110, u111, u112, u113, u114, u115, u116, u117, u118], defers := []} W := by
    intro hc W hS u0 u1 u3 u5 u6 u8 u9 u10 u11 u12 u13 u14 u15 u16 u17 u18 u19 u20 u21 u22 u23 u24 u25 u26 u27 u28 u29 u30 u31 u32 u33 u34 u35 u36 u37 u38 u39 u40 u41 u42 u43 u44 u45 u46 u47 u48 u49 u50 u51 u52 u53 u54 u55 u56 u57 u58 u59 u60 u61 u62 u63 u64 u65 u66 u67 u68 u69 u70 u71 u72 u73 u74 u75 u76 u77 u78 u79 u80 u81 u82 u83 u84 u85 u86 u87 u88 u89 u90 u91 u92 u93 u94 u95 u96 u97 u98 u99 u100 u101 u102 u103 u104 u105 u106 u107 u108 u109 u110 u111 u112 u113 u114 u115 u116 u117 u118
    apply hR
    exact tail21 w W g cap L E P o u0 u1 u3 u5 u6 u8 u9 u10 u11 u12 u13 u14 u15 u16 u17 u18 u19 u20 u21 u22 u23 u24 u25 u26 u27 u28 u29 u30 u31 u32 u33 u34 u35 u36 u37 u38 u39 u40 u41 u42 u43 u44 u45 u46 u47 u48 u49 u50 u51 u52 u53 u54 u55 u56 u57 u58 u59 u60 u61 u62 u63 u64 u65 u66 u67 u68 u69 u70 u71 u72 u73 u74 u75 u76 u77 u78 u79 u80 u81 u82 u83 u84 u85 u86 u87 u88 u89 u90 u91 u92 u93 u94 u95 u96 u97 u98 u99 u100 u101 u102 u103 u104 u105 u106 u107 u108 u109 u110 u111 u112 u113 u114 u115 u116 u117 u118 (by
      by_cases h : 3 < L.length
      · have : condB E P L = true := by simp [condB, h]
        rw [this] at hc; cases hc
      · omega) HLEN.out hS (core_all HO.out hc)
  have KEY := Lib.hid key
  clear key hR
  have HF := Lib.hid (core_none HO.out (by unfold condB; rw [hpe]; simp [hE0]))
  have hEn : (E == []) = false := by simpa using hE0
  have hEi : E.isEmpty = false := by simpa using hE0
  have hEm : (E != []) = true := by simpa using hE0
  have hE1 : 1 ≤ E.length := by cases E <;> simp_all
  have HEL : Hid (E.tail.length ≤ 1000) := by show _ ≤ _; simp; omega
  have HPE := Lib.hid ((by rw [← List.drop_one] : partsB true E.tail = partsB true (E.drop 1)).trans hpe)
  clear hpe hE0
  obtain ⟨⟨c0, c1, c2, c3, c4, c5⟩, f0, f1, f2, f3, f4, f5⟩ := HS.out.box
  obtain ⟨⟨r0, r1, r2, r3, r4, r5⟩, g0, g1, g2, g3, g4, g5⟩ := HS.out.res
  go_wp2_with fail
  refine (parts_any E.tail true _ HEL.out).mono ?_
  rintro e w3 ⟨rfl, hb3⟩
  rw [HPE.out]
  replace HS := Lib.hid (HS.out.later hb3)
  clear hb3 c0 c1 c2 c3 c4 c5 f0 f1 f2 f3 f4 f5 r0 r1 r2 r3 r4 r5 g0 g1 g2 g3 g4 g5
  obtain ⟨⟨c0, c1, c2, c3, c4, c5⟩, f0, f1, f2, f3, f4, f5⟩ := HS.out.box
  obtain ⟨⟨r0, r1, r2, r3, r4, r5⟩, g0, g1, g2, g3, g4, g5⟩ := HS.out.res
  have HB := Lib.hid HS.out.bel
  go_wp2
  refine bodyPost_ret (v := .tuple #[sxv ⟨nth L 0 0, nth L 0 1, nth L 0 2, E, P, L.length⟩, .bool false]) (by simp [results, Try.results34, go_sem, r0, r1, r2, r3, r4, r5]; try rfl) rfl ⟨sxE_none HF.out _ rfl, ?_⟩
  exact below6 HB.out
set_option maxHeartbeats 4000000 in
set_option maxRecDepth 1000000 in
theorem m7 (w W : World) (g cap : Nat) (L : List Bytes) (E P : Bytes) (o : Option SX) (u0 u1 u3 u5 u6 u8 u9 u10 u11 u12 u13 u14 u15 u16 u17 u18 u19 u20 u21 u22 u23 u24 u25 u26 u27 u28 u29 u30 u31 u32 u33 u34 u35 u36 u37 u38 u39 u40 u41 u42 u43 u44 u45 u46 u47 u48 u49 u50 u51 u52 u53 u54 u55 u56 u57 u58 u59 u60 u61 u62 u63 u64 u65 u66 u67 u68 u69 u70 u71 u72 u73 u74 u75 u76 u77 u78 u79 u80 u81 u82 u83 u84 u85 u86 u87 u88 u89 u90 u91 u92 u93 u94 u95 u96 u97 u98 u99 u100 u101 u102 u103 u104 u105 u106 u107 u108 u109 u110 u111 u112 u113 u114 u115 u116 u117 u118 : Value) (HLEN : Hid (∀ x ∈ L, x.length ≤ maxLen)) (hE : E.length ≤ 1000) (hP : P.length ≤ 1000)
    (HS : Hid (Loop3 w W g cap L E P 0)) (HO : Hid (o = coreS E P L))(hE0 : E ≠ []) (hP0 : P = []) (h3 : L.length ≤ 3) (h2 : ¬ L.length < 3) (hpe : partsB true (E.drop 1) = true) :
    Code.wp Try.prog c19 (bodyPost Try.prog Try.f34 fun e w' => SxE o e ∧ Below w.heap.size w w') {tmps := #[u0, u1, Value.pointer (some ⟨w.heap.size, 0, none⟩), u3, Value.pointer (some ⟨w.heap.size + 1, 0, none⟩), u5, u6, Value.slice (some ⟨g, 0, none⟩) L.length cap, u8, u9, u10, u11, u12, u13, u14, u15, u16, u17, u18, u19, u20, u21, u22, u23, u24, u25, u26, u27, u28, u29, u30, u31, u32, u33, u34, u35, u36, u37, u38, u39, u40, u41, u42, u43, u44, u45, u46, u47, u48, u49, u50, u51, u52, u53, u54, u55, u56, u57, u58, u59, u60, u61, u62, u63, u64, u65, u66, u67, u68, u69, u70, u71, u72, u73, u74, u75, u76, u77, u78, u79, u80, u81, u82, u83, u84, u85, u86, u87, u88, u89, u90, u91, u92, u93, u94, u95, u96, u97, u98, u99, u100, u101, u102, u103, u104, u105, u106, u107, u108, u109, u110, u111, u112, u113, u114, u115, u116, u117, u118], defers := []} W := by
  conv => arg 2; whnf
  go_upto_region 19 with (fail)
  rename_i KR hR KC hC
  have key : condB E P L = false → ∀ (W : World), Loop3 w W g cap L E P 0 → ∀ u0 u1 u3 u5 u6 u8 u9 u10 u11 u12 u13 u14 u15 u16 u17 u18 u19 u20 u21 u22 u23 u24 u25 u26 u27 u28 u29 u30 u31 u32 u33 u34 u35 u36 u37 u38 u39 u40 u41 u42 u43 u44 u45 u46 u47 u48 u49 u50 u51 u52 u53 u54 u55 u56 u57 u58 u59 u60 u61 u62 u63 u64 u65 u66 u67 u68 u69 u70 u71 u72 u73 u74 u75 u76 u77 u78 u79 u80 u81 u82 u83 u84 u85 u86 u87 u88 u89 u90 u91 u92 u93 u94 u95 u96 u97 u98 u99 u100 u101 u102 u103 u104 u105 u106 u107 u108 u109 u110 u111 u112 u113 u114 u115 u116 u117 u118 : Value, KR {tmps := #[u0, u1, Value.pointer (some ⟨w.heap.size, 0, none⟩), u3, Value.pointer (some ⟨w.heap.size + 1, 0, none⟩), u5, u6, Value.slice (some ⟨g, 0, none⟩) L.length cap, u8, u9, u10, u11, u12, u13, u14, u15, u16, u17, u18, u19, u20, u21, u22, u23, u24, u25, u26, u27, u28, u29, u30, u31, u32, u33, u34, u35, u36, u37, u38, u39, u40, u41, u42, u43, u44, u45, u46, u47, u48, u49, u50, u51, u52, u53, u54, u55, u56, u57, u58, u59, u60, u61, u62, u63, u64, u65, u66, u67, u68, u69, u70, u71, u72, u73, u74, u75, u76, u77, u78, u79, u80, u81, u82, u83, u84, u85, u86, u87, u88, u89, u90, u91, u92, u93, u94, u95, u96, u97, u98, u99, u100, u101, u102, u103, u104, u105, u106, u107, u108, u109, u110, u111, u112, u113, u114, u115, u116, u117, u118], defers := []} W := by
    intro hc W hS u0 u1 u3 u5 u6 u8 u9 u10 u11 u12 u13 u14 u15 u16 u17 u18 u19 u20 u21 u22 u23 u24 u25 u26 u27 u28 u29 u30 u31 u32 u33 u34 u35 u36 u37 u38 u39 u40 u41 u42 u43 u44 u45 u46 u47 u48 u49 u50 u51 u52 u53 u54 u55 u56 u57 u58 u59 u60 u61 u62 u63 u64 u65 u66 u67 u68 u69 u70 u71 u72 u73 u74 u75 u76 u77 u78 u79 u80 u81 u82 u83 u84 u85 u86 u87 u88 u89 u90 u91 u92 u93 u94 u95 u96 u97 u98 u99 u100 u101 u102 u103 u104 u105 u106 u107 u108 u109 u110 u111 u112 u113 u114 u115 u116 u117 u118
    apply hR
    exact tail21 w W g cap L E P o u0 u1 u3 u5 u6 u8 u9 u10 u11 u12 u13 u14 u15 u16 u17 u18 u19 u20 u21 u22 u23 u24 u25 u26 u27 u28 u29 u30 u31 u32 u33 u34 u35 u36 u37 u38 u39 u40 u41 u42 u43 u44 u45 u46 u47 u48 u49 u50 u51 u52 u53 u54 u55 u56 u57 u58 u59 u60 u61 u62 u63 u64 u65 u66 u67 u68 u69 u70 u71 u72 u73 u74 u75 u76 u77 u78 u79 u80 u81 u82 u83 u84 u85 u86 u87 u88 u89 u90 u91 u92 u93 u94 u95 u96 u97 u98 u99 u100 u101 u102 u103 u104 u105 u106 u107 u108 u109 u110 u111 u112 u113 u114 u115 u116 u117 u118 (by
      by_cases h : 3 < L.length
      · have : condB E P L = true := by simp [condB, h]
        rw [this] at hc; cases hc
      · omega) HLEN.out hS (core_all HO.out hc)
  have KEY := Lib.hid key
  clear key hR
  subst hP0
  have HC : Hid (condB E [] L = false) := Lib.hid (condB_no (by omega) (fun h => h2 h.1) (fun _ => hpe) (fun h => absurd rfl h))
  have hEn : (E == []) = false := by simpa using hE0
  have hEi : E.isEmpty = false := by simpa using hE0
  have hEm : (E != []) = true := by simpa using hE0
  have hE1 : 1 ≤ E.length := by cases E <;> simp_all
  have HEL : Hid (E.tail.length ≤ 1000) := by show _ ≤ _; simp; omega
  have HPE := Lib.hid ((by rw [← List.drop_one] : partsB true E.tail = partsB true (E.drop 1)).trans hpe)
  clear hpe hE0
  obtain ⟨⟨c0, c1, c2, c3, c4, c5⟩, f0, f1, f2, f3, f4, f5⟩ := HS.out.box
  obtain ⟨⟨r0, r1, r2, r3, r4, r5⟩, g0, g1, g2, g3, g4, g5⟩ := HS.out.res
  go_wp2_with fail
  refine (parts_any E.tail true _ HEL.out).mono ?_
  rintro e w3 ⟨rfl, hb3⟩
  rw [HPE.out]
  replace HS := Lib.hid (HS.out.later hb3)
  clear hb3 c0 c1 c2 c3 c4 c5 f0 f1 f2 f3 f4 f5 r0 r1 r2 r3 r4 r5 g0 g1 g2 g3 g4 g5
  obtain ⟨⟨c0, c1, c2, c3, c4, c5⟩, f0, f1, f2, f3, f4, f5⟩ := HS.out.box
  obtain ⟨⟨r0, r1, r2, r3, r4, r5⟩, g0, g1, g2, g3, g4, g5⟩ := HS.out.res
  go_wp2
  exact KEY.out HC.out _ HS.out _ _ _ _ _ _ _ _ _ _ _ _ _ _ _ _ _ _ _ _ _ _ _ _ _ _ _ _ _ _ _ _ _ _ _ _ _ _ _ _ _ _ _ _ _ _ _ _ _ _ _ _ _ _ _ _ _ _ _ _ _ _ _ _ _ _ _ _ _ _ _ _ _ _ _ _ _ _ _ _ _ _ _ _ _ _ _ _ _ _ _ _ _ _ _ _ _ _ _ _ _ _ _ _ _ _ _ _ _ _ _ _ _ _ _ _
set_option maxHeartbeats 4000000 in
set_option maxRecDepth 1000000 in
theorem m8 (w W : World) (g cap : Nat) (L : List Bytes) (E P : Bytes) (o : Option SX) (u0 u1 u3 u5 u6 u8 u9 u10 u11 u12 u13 u14 u15 u16 u17 u18 u19 u20 u21 u22 u23 u24 u25 u26 u27 u28 u29 u30 u31 u32 u33 u34 u35 u36 u37 u38 u39 u40 u41 u42 u43 u44 u45 u46 u47 u48 u49 u50 u51 u52 u53 u54 u55 u56 u57 u58 u59 u60 u61 u62 u63 u64 u65 u66 u67 u68 u69 u70 u71 u72 u73 u74 u75 u76 u77 u78 u79 u80 u81 u82 u83 u84 u85 u86 u87 u88 u89 u90 u91 u92 u93 u94 u95 u96 u97 u98 u99 u100 u101 u102 u103 u104 u105 u106 u107 u108 u109 u110 u111 u112 u113 u114 u115 u116 u117 u118 : Value) (HLEN : Hid (∀ x ∈ L, x.length ≤ maxLen)) (hE : E.length ≤ 1000) (hP : P.length ≤ 1000)
    (HS : Hid (Loop3 w W g cap L E P 0)) (HO : Hid (o = coreS E P L))(hE0 : E ≠ []) (hP0 : P ≠ []) (h3 : L.length ≤ 3) (h2 : ¬ L.length < 3) (hpe : partsB true (E.drop 1) = true) (hpb : partsB false (P.drop 1) = true) :
    Code.wp Try.prog c19 (bodyPost Try.prog Try.f34 fun e w' => SxE o e ∧ Below w.heap.size w w') {tmps := #[u0, u1, Value.pointer (some ⟨w.heap.size, 0, none⟩), u3, Value.pointer (some ⟨w.heap.size + 1, 0, none⟩), u5, u6, Value.slice (some ⟨g, 0, none⟩) L.length cap, u8, u9, u10, u11, u12, u13, u14, u15, u16, u17, u18, u19, u20, u21, u22, u23, u24, u25, u26, u27, u28, u29, u30, u31, u32, u33, u34, u35, u36, u37, u38, u39, u40, u41, u42, u43, u44, u45, u46, u47, u48, u49, u50, u51, u52, u53, u54, u55, u56, u57, u58, u59, u60, u61, u62, u63, u64, u65, u66, u67, u68, u69, u70, u71, u72, u73, u74, u75, u76, u77, u78, u79, u80, u81, u82, u83, u84, u85, u86, u87, u88, u89, u90, u91, u92, u93, u94, u95, u96, u97, u98, u99, u100, u101, u102, u103, u104, u105, u106, u107, u108, u109, u110, u111, u112, u113, u114, u115, u116, u117, u118], defers := []} W := by
  conv => arg 2; whnf
  go_upto_region 19 with (fail)
  rename_i KR hR KC hC
  have key : condB E P L = false → ∀ (W : World), Loop3 w W g cap L E P 0 → ∀ u0 u1 u3 u5 u6 u8 u9 u10 u11 u12 u13 u14 u15 u16 u17 u18 u19 u20 u21 u22 u23 u24 u25 u26 u27 u28 u29 u30 u31 u32 u33 u34 u35 u36 u37 u38 u39 u40 u41 u42 u43 u44 u45 u46 u47 u48 u49 u50 u51 u52 u53 u54 u55 u56 u57 u58 u59 u60 u61 u62 u63 u64 u65 u66 u67 u68 u69 u70 u71 u72 u73 u74 u75 u76 u77 u78 u79 u80 u81 u82 u83 u84 u85 u86 u87 u88 u89 u90 u91 u92 u93 u94 u95 u96 u97 u98 u99 u100 u101 u102 u103 u104 u105 u106 u107 u108 u109 u110 u111 u112 u113 u114 u115 u116 u117 u118 : Value, KR {tmps := #[u0, u1, Value.pointer (some ⟨w.heap.size, 0, none⟩), u3, Value.pointer (some ⟨w.heap.size + 1, 0, none⟩), u5, u6, Value.slice (some ⟨g, 0, none⟩) L.length cap, u8, u9, u10, u11, u12, u13, u14, u15, u16, u17, u18, u19, u20, u21, u22, u23, u24, u25, u26, u27, u28, u29, u30, u31, u32, u33, u34, u35, u36, u37, u38, u39, u40, u41, u42, u43, u44, u45, u46, u47, u48, u49, u50, u51, u52, u53, u54, u55, u56, u57, u58, u59, u60, u61, u62, u63, u64, u65, u66, u67, u68, u69, u70, u71, u72, u73, u74, u75, u76, u77, u78, u79, u80, u81, u82, u83, u84, u85, u86, u87, u88, u89, u90, u91, u92, u93, u94, u95, u96, u97, u98, u99, u100, u101, u102, u103, u104, u105, u106, u107, u108, u109, u110, u111, u112, u113, u114, u115, u116, u117, u118], defers := []} W := by
    intro hc W hS u0 u1 u3 u5 u6 u8 u9 u10 u11 u12 u13 u14 u15 u16 u17 u18 u19 u20 u21 u22 u23 u24 u25 u26 u27 u28 u29 u30 u31 u32 u33 u34 u35 u36 u37 u38 u39 u40 u41 u42 u43 u44 u45 u46 u47 u48 u49 u50 u51 u52 u53 u54 u55 u56 u57 u58 u59 u60 u61 u62 u63 u64 u65 u66 u67 u68 u69 u70 u71 u72 u73 u74 u75 u76 u77 u78 u79 u80 u81 u82 u83 u84 u85 u86 u87 u88 u89 u90 u91 u92 u93 u94 u95 u96 u97 u98 u99 u100 u101 u102 u103 u104 u105 u106 u107 u108 u109 u110 u111 u112 u113 u114 u115 u116 u117 u118
    apply hR
    exact tail21 w W g cap L E P o u0 u1 u3 u5 u6 u8 u9 u10 u11 u12 u13 u14 u15 u16 u17 u18 u19 u20 u21 u22 u23 u24 u25 u26 u27 u28 u29 u30 u31 u32 u33 u34 u35 u36 u37 u38 u39 u40 u41 u42 u43 u44 u45 u46 u47 u48 u49 u50 u51 u52 u53 u54 u55 u56 u57 u58 u59 u60 u61 u62 u63 u64 u65 u66 u67 u68 u69 u70 u71 u72 u73 u74 u75 u76 u77 u78 u79 u80 u81 u82 u83 u84 u85 u86 u87 u88 u89 u90 u91 u92 u93 u94 u95 u96 u97 u98 u99 u100 u101 u102 u103 u104 u105 u106 u107 u108 u109 u110 u111 u112 u113 u114 u115 u116 u117 u118 (by
      by_cases h : 3 < L.length
      · have : condB E P L = true := by simp [condB, h]
        rw [this] at hc; cases hc
      · omega) HLEN.out hS (core_all HO.out hc)
  have KEY := Lib.hid key
  clear key hR
  have HC : Hid (condB E P L = false) := Lib.hid (condB_no (by omega) (fun h => h2 h.1) (fun _ => hpe) (fun _ => hpb))
  have hEn : (E == []) = false := by simpa using hE0
  have hEi : E.isEmpty = false := by simpa using hE0
  have hEm : (E != []) = true := by simpa using hE0
  have hE1 : 1 ≤ E.length := by cases E <;> simp_all
  have HEL : Hid (E.tail.length ≤ 1000) := by show _ ≤ _; simp; omega
  have hPn : (P == []) = false := by simpa using hP0
  have hPi : P.isEmpty = false := by simpa using hP0
  have hPm : (P != []) = true := by simpa using hP0
  have hP1 : 1 ≤ P.length := by cases P <;> simp_all
  have HPL : Hid (P.tail.length ≤ 1000) := by show _ ≤ _; simp; omega
  have HPE := Lib.hid ((by rw [← List.drop_one] : partsB true E.tail = partsB true (E.drop 1)).trans hpe)
  have HPB := Lib.hid ((by rw [← List.drop_one] : partsB false P.tail = partsB false (P.drop 1)).trans hpb)
  clear hpe hE0 hpb hP0
  obtain ⟨⟨c0, c1, c2, c3, c4, c5⟩, f0, f1, f2, f3, f4, f5⟩ := HS.out.box
  obtain ⟨⟨r0, r1, r2, r3, r4, r5⟩, g0, g1, g2, g3, g4, g5⟩ := HS.out.res
  go_wp2_with fail
  refine (parts_any E.tail true _ HEL.out).mono ?_
  rintro e w3 ⟨rfl, hb3⟩
  rw [HPE.out]
  replace HS := Lib.hid (HS.out.later hb3)
  clear hb3 c0 c1 c2 c3 c4 c5 f0 f1 f2 f3 f4 f5 r0 r1 r2 r3 r4 r5 g0 g1 g2 g3 g4 g5
  obtain ⟨⟨c0, c1, c2, c3, c4, c5⟩, f0, f1, f2, f3, f4, f5⟩ := HS.out.box
  obtain ⟨⟨r0, r1, r2, r3, r4, r5⟩, g0, g1, g2, g3, g4, g5⟩ := HS.out.res
  go_wp2_with fail
  refine (parts_any P.tail false _ HPL.out).mono ?_
  rintro e w4 ⟨rfl, hb4⟩
  rw [HPB.out]
  replace HS := Lib.hid (HS.out.later hb4)
  clear hb4 c0 c1 c2 c3 c4 c5 f0 f1 f2 f3 f4 f5 r0 r1 r2 r3 r4 r5 g0 g1 g2 g3 g4 g5
  obtain ⟨⟨c0, c1, c2, c3, c4, c5⟩, f0, f1, f2, f3, f4, f5⟩ := HS.out.box
  obtain ⟨⟨r0, r1, r2, r3, r4, r5⟩, g0, g1, g2, g3, g4, g5⟩ := HS.out.res
  go_wp2
  exact KEY.out HC.out _ HS.out _ _ _ _ _ _ _ _ _ _ _ _ _ _ _ _ _ _ _ _ _ _ _ _ _ _ _ _ _ _ _ _ _ _ _ _ _ _ _ _ _ _ _ _ _ _ _ _ _ _ _ _ _ _ _ _ _ _ _ _ _ _ _ _ _ _ _ _ _ _ _ _ _ _ _ _ _ _ _ _ _ _ _ _ _ _ _ _ _ _ _ _ _ _ _ _ _ _ _ _ _ _ _ _ _ _ _ _ _ _ _ _ _ _ _ _
set_option maxHeartbeats 4000000 in
set_option maxRecDepth 1000000 in
theorem m9 (w W : World) (g cap : Nat) (L : List Bytes) (E P : Bytes) (o : Option SX) (u0 u1 u3 u5 u6 u8 u9 u10 u11 u12 u13 u14 u15 u16 u17 u18 u19 u20 u21 u22 u23 u24 u25 u26 u27 u28 u29 u30 u31 u32 u33 u34 u35 u36 u37 u38 u39 u40 u41 u42 u43 u44 u45 u46 u47 u48 u49 u50 u51 u52 u53 u54 u55 u56 u57 u58 u59 u60 u61 u62 u63 u64 u65 u66 u67 u68 u69 u70 u71 u72 u73 u74 u75 u76 u77 u78 u79 u80 u81 u82 u83 u84 u85 u86 u87 u88 u89 u90 u91 u92 u93 u94 u95 u96 u97 u98 u99 u100 u101 u102 u103 u104 u105 u106 u107 u108 u109 u110 u111 u112 u113 u114 u115 u116 u117 u118 : Value) (HLEN : Hid (∀ x ∈ L, x.length ≤ maxLen)) (hE : E.length ≤ 1000) (hP : P.length ≤ 1000)
    (HS : Hid (Loop3 w W g cap L E P 0)) (HO : Hid (o = coreS E P L))(hE0 : E ≠ []) (hP0 : P ≠ []) (h3 : L.length ≤ 3) (h2 : ¬ L.length < 3) (hpe : partsB true (E.drop 1) = true) (hpb : partsB false (P.drop 1) = false) :
    Code.wp Try.prog c19 (bodyPost Try.prog Try.f34 fun e w' => SxE o e ∧ Below w.heap.size w w') {tmps := #[u0, u1, Value.pointer (some ⟨w.heap.size, 0, none⟩), u3, Value.pointer (some ⟨w.heap.size + 1, 0, none⟩), u5, u6, Value.slice (some ⟨g, 0, none⟩) L.length cap, u8, u9, u10, u11, u12, u13, u14, u15, u16, u17, u18, u19, u20, u21, u22, u23, u24, u25, u26, u27, u28, u29, u30, u31, u32, u33, u34, u35, u36, u37, u38, u39, u40, u41, u42, u43, u44, u45, u46, u47, u48, u49, u50, u51, u52, u53, u54, u55, u56, u57, u58, u59, u60, u61, u62, u63, u64, u65, u66, u67, u68, u69, u70, u71, u72, u73, u74, u75, u76, u77, u78, u79, u80, u81, u82, u83, u84, u85, u86, u87, u88, u89, u90, u91, u92, u93, u94, u95, u96, u97, u98, u99, u100, u101, u102, u103, u104, u105, u106, u107, u108, u109, u110, u111, u112, u113, u114, u115, u116, u117, u118], defers := []} W := by
  conv => arg 2; whnf
  go_upto_region 19 with (fail)
  rename_i KR hR KC hC
  have key : condB E P L = false → ∀ (W : World), Loop3 w W g cap L E P 0 → ∀ u0 u1 u3 u5 u6 u8 u9 u10 u11 u12 u13 u14 u15 u16 u17 u18 u19 u20 u21 u22 u23 u24 u25 u26 u27 u28 u29 u30 u31 u32 u33 u34 u35 u36 u37 u38 u39 u40 u41 u42 u43 u44 u45 u46 u47 u48 u49 u50 u51 u52 u53 u54 u55 u56 u57 u58 u59 u60 u61 u62 u63 u64 u65 u66 u67 u68 u69 u70 u71 u72 u73 u74 u75 u76 u77 u78 u79 u80 u81 u82 u83 u84 u85 u86 u87 u88 u89 u90 u91 u92 u93 u94 u95 u96 u97 u98 u99 u100 u101 u102 u103 u104 u105 u106 u107 u108 u109 u110 u111 u112 u113 u114 u115 u116 u117 u118 : Value, KR {tmps := #[u0, u1, Value.pointer (some ⟨w.heap.size, 0, none⟩), u3, Value.pointer (some ⟨w.heap.size + 1, 0, none⟩), u5, u6, Value.slice (some ⟨g, 0, none⟩) L.length cap, u8, u9, u10, u11, u12, u13, u14, u15, u16, u17, u18, u19, u20, u21, u22, u23, u24, u25, u26, u27, u28, u29, u30, u31, u32, u33, u34, u35, u36, u37, u38, u39, u40, u41, u42, u43, u44, u45, u46, u47, u48, u49, u50, u51, u52, u53, u54, u55, u56, u57, u58, u59, u60, u61, u62, u63, u64, u65, u66, u67, u68, u69, u70, u71, u72, u73, u74, u75, u76, u77, u78, u79, u80, u81, u82, u83, u84, u85, u86, u87, u88, u89, u90, u91, u92, u93, u94, u95, u96, u97, u98, u99, u100, u101, u102, u103, u104, u105, u106, u107, u108, u109, u110, u111, u112, u113, u114, u115, u116, u117, u118], defers := []} W := by
    intro hc W hS u0 u1 u3 u5 u6 u8 u9 u10 u11 u12 u13 u14 u15 u16 u17 u18 u19 u20 u21 u22 u23 u24 u25 u26 u27 u28 u29 u30 u31 u32 u33 u34 u35 u36 u37 u38 u39 u40 u41 u42 u43 u44 u45 u46 u47 u48 u49 u50 u51 u52 u53 u54 u55 u56 u57 u58 u59 u60 u61 u62 u63 u64 u65 u66 u67 u68 u69 u70 u71 u72 u73 u74 u75 u76 u77 u78 u79 u80 u81 u82 u83 u84 u85 u86 u87 u88 u89 u90 u91 u92 u93 u94 u95 u96 u97 u98 u99 u100 u101 u102 u103 u104 u105 u106 u107 u108 u109 u110 u111 u112 u113 u114 u115 u116 u117 u118
    apply hR
    exact tail21 w W g cap L E P o u0 u1 u3 u5 u6 u8 u9 u10 u11 u12 u13 u14 u15 u16 u17 u18 u19 u20 u21 u22 u23 u24 u25 u26 u27 u28 u29 u30 u31 u32 u33 u34 u35 u36 u37 u38 u39 u40 u41 u42 u43 u44 u45 u46 u47 u48 u49 u50 u51 u52 u53 u54 u55 u56 u57 u58 u59 u60 u61 u62 u63 u64 u65 u66 u67 u68 u69 u70 u71 u72 u73 u74 u75 u76 u77 u78 u79 u80 u81 u82 u83 u84 u85 u86 u87 u88 u89 u90 u91 u92 u93 u94 u95 u96 u97 u98 u99 u100 u101 u102 u103 u104 u105 u106 u107 u108 u109 u110 u111 u112 u113 u114 u115 u116 u117 u118 (by
      by_cases h : 3 < L.length
      · have : condB E P L = true := by simp [condB, h]
        rw [this] at hc; cases hc
      · omega) HLEN.out hS (core_all HO.out hc)
  have KEY := Lib.hid key
  clear key hR
  have HF := Lib.hid (core_none HO.out (by unfold condB; rw [hpb]; simp [hP0]))
  have hEn : (E == []) = false := by simpa using hE0
  have hEi : E.isEmpty = false := by simpa using hE0
  have hEm : (E != []) = true := by simpa using hE0
  have hE1 : 1 ≤ E.length := by cases E <;> simp_all
  have HEL : Hid (E.tail.length ≤ 1000) := by show _ ≤ _; simp; omega
  have hPn : (P == []) = false := by simpa using hP0
  have hPi : P.isEmpty = false := by simpa using hP0
  have hPm : (P != []) = true := by simpa using hP0
  have hP1 : 1 ≤ P.length := by cases P <;> simp_all
  have HPL : Hid (P.tail.length ≤ 1000) := by show _ ≤ _; simp; omega
  have HPE := Lib.hid ((by rw [← List.drop_one] : partsB true E.tail = partsB true (E.drop 1)).trans hpe)
  have HPB := Lib.hid ((by rw [← List.drop_one] : partsB false P.tail = partsB false (P.drop 1)).trans hpb)
  clear hpe hE0 hpb hP0
  obtain ⟨⟨c0, c1, c2, c3, c4, c5⟩, f0, f1, f2, f3, f4, f5⟩ := HS.out.box
  obtain ⟨⟨r0, r1, r2, r3, r4, r5⟩, g0, g1, g2, g3, g4, g5⟩ := HS.out.res
  go_wp2_with fail
  refine (parts_any E.tail true _ HEL.out).mono ?_
  rintro e w3 ⟨rfl, hb3⟩
  rw [HPE.out]
  replace HS := Lib.hid (HS.out.later hb3)
  clear hb3 c0 c1 c2 c3 c4 c5 f0 f1 f2 f3 f4 f5 r0 r1 r2 r3 r4 r5 g0 g1 g2 g3 g4 g5
  obtain ⟨⟨c0, c1, c2, c3, c4, c5⟩, f0, f1, f2, f3, f4, f5⟩ := HS.out.box
  obtain ⟨⟨r0, r1, r2, r3, r4, r5⟩, g0, g1, g2, g3, g4, g5⟩ := HS.out.res
  go_wp2_with fail
  refine (parts_any P.tail false _ HPL.out).mono ?_
  rintro e w4 ⟨rfl, hb4⟩
  rw [HPB.out]
  replace HS := Lib.hid (HS.out.later hb4)
  clear hb4 c0 c1 c2 c3 c4 c5 f0 f1 f2 f3 f4 f5 r0 r1 r2 r3 r4 r5 g0 g1 g2 g3 g4 g5
  obtain ⟨⟨c0, c1, c2, c3, c4, c5⟩, f0, f1, f2, f3, f4, f5⟩ := HS.out.box
  obtain ⟨⟨r0, r1, r2, r3, r4, r5⟩, g0, g1, g2, g3, g4, g5⟩ := HS.out.res
  have HB := Lib.hid HS.out.bel
  go_wp2
  refine bodyPost_ret (v := .tuple #[sxv ⟨nth L 0 0, nth L 0 1, nth L 0 2, E, P, L.length⟩, .bool false]) (by simp [results, Try.results34, go_sem, r0, r1, r2, r3, r4, r5]; try rfl) rfl ⟨sxE_none HF.out _ rfl, ?_⟩
  exact below6 HB.out
theorem mid19 (w W : World) (g cap : Nat) (L : List Bytes) (E P : Bytes) (o : Option SX) (u0 u1 u3 u5 u6 u8 u9 u10 u11 u12 u13 u14 u15 u16 u17 u18 u19 u20 u21 u22 u23 u24 u25 u26 u27 u28 u29 u30 u31 u32 u33 u34 u35 u36 u37 u38 u39 u40 u41 u42 u43 u44 u45 u46 u47 u48 u49 u50 u51 u52 u53 u54 u55 u56 u57 u58 u59 u60 u61 u62 u63 u64 u65 u66 u67 u68 u69 u70 u71 u72 u73 u74 u75 u76 u77 u78 u79 u80 u81 u82 u83 u84 u85 u86 u87 u88 u89 u90 u91 u92 u93 u94 u95 u96 u97 u98 u99 u100 u101 u102 u103 u104 u105 u106 u107 u108 u109 u110 u111 u112 u113 u114 u115 u116 u117 u118 : Value) (HLEN : Hid (∀ x ∈ L, x.length ≤ maxLen)) (hE : E.length ≤ 1000) (hP : P.length ≤ 1000)
    (HS : Hid (Loop3 w W g cap L E P 0)) (HO : Hid (o = coreS E P L)) :
    Code.wp Try.prog c19 (bodyPost Try.prog Try.f34 fun e w' => SxE o e ∧ Below w.heap.size w w') {tmps := #[u0, u1, Value.pointer (some ⟨w.heap.size, 0, none⟩), u3, Value.pointer (some ⟨w.heap.size + 1, 0, none⟩), u5, u6, Value.slice (some ⟨g, 0, none⟩) L.length cap, u8, u9, u10, u11, u12, u13, u14, u15, u16, u17, u18, u19, u20, u21, u22, u23, u24, u25, u26, u27, u28, u29, u30, u31, u32, u33, u34, u35, u36, u37, u38, u39, u40, u41, u42, u43, u44, u45, u46, u47, u48, u49, u50, u51, u52, u53, u54, u55, u56, u57, u58, u59, u60, u61, u62, u63, u64, u65, u66, u67, u68, u69, u70, u71, u72, u73, u74, u75, u76, u77, u78, u79, u80, u81, u82, u83, u84, u85, u86, u87, u88, u89, u90, u91, u92, u93, u94, u95, u96, u97, u98, u99, u100, u101, u102, u103, u104, u105, u106, u107, u108, u109, u110, u111, u112, u113, u114, u115, u116, u117, u118], defers := []} W := by
  by_cases h3 : 3 < L.length
  · exact m1 w W g cap L E P o u0 u1 u3 u5 u6 u8 u9 u10 u11 u12 u13 u14 u15 u16 u17 u18 u19 u20 u21 u22 u23 u24 u25 u26 u27 u28 u29 u30 u31 u32 u33 u34 u35 u36 u37 u38 u39 u40 u41 u42 u43 u44 u45 u46 u47 u48 u49 u50 u51 u52 u53 u54 u55 u56 u57 u58 u59 u60 u61 u62 u63 u64 u65 u66 u67 u68 u69 u70 u71 u72 u73 u74 u75 u76 u77 u78 u79 u80 u81 u82 u83 u84 u85 u86 u87 u88 u89 u90 u91 u92 u93 u94 u95 u96 u97 u98 u99 u100 u101 u102 u103 u104 u105 u106 u107 u108 u109 u110 u111 u112 u113 u114 u115 u116 u117 u118 HLEN hE hP HS HO h3
  by_cases hq : L.length < 3 ∧ E ++ P ≠ []
  · exact m2 w W g cap L E P o u0 u1 u3 u5 u6 u8 u9 u10 u11 u12 u13 u14 u15 u16 u17 u18 u19 u20 u21 u22 u23 u24 u25 u26 u27 u28 u29 u30 u31 u32 u33 u34 u35 u36 u37 u38 u39 u40 u41 u42 u43 u44 u45 u46 u47 u48 u49 u50 u51 u52 u53 u54 u55 u56 u57 u58 u59 u60 u61 u62 u63 u64 u65 u66 u67 u68 u69 u70 u71 u72 u73 u74 u75 u76 u77 u78 u79 u80 u81 u82 u83 u84 u85 u86 u87 u88 u89 u90 u91 u92 u93 u94 u95 u96 u97 u98 u99 u100 u101 u102 u103 u104 u105 u106 u107 u108 u109 u110 u111 u112 u113 u114 u115 u116 u117 u118 HLEN hE hP HS HO hq.1 hq.2
  have h3' : L.length ≤ 3 := by omega
  by_cases hE0 : E = []
  · by_cases hP0 : P = []
    · exact m3 w W g cap L E P o u0 u1 u3 u5 u6 u8 u9 u10 u11 u12 u13 u14 u15 u16 u17 u18 u19 u20 u21 u22 u23 u24 u25 u26 u27 u28 u29 u30 u31 u32 u33 u34 u35 u36 u37 u38 u39 u40 u41 u42 u43 u44 u45 u46 u47 u48 u49 u50 u51 u52 u53 u54 u55 u56 u57 u58 u59 u60 u61 u62 u63 u64 u65 u66 u67 u68 u69 u70 u71 u72 u73 u74 u75 u76 u77 u78 u79 u80 u81 u82 u83 u84 u85 u86 u87 u88 u89 u90 u91 u92 u93 u94 u95 u96 u97 u98 u99 u100 u101 u102 u103 u104 u105 u106 u107 u108 u109 u110 u111 u112 u113 u114 u115 u116 u117 u118 HLEN hE hP HS HO hE0 hP0 h3'
    · have h2 : ¬ L.length < 3 := fun h => hq ⟨h, by simp [hP0]⟩
      cases hpb : partsB false (P.drop 1) with
      | true => exact m4 w W g cap L E P o u0 u1 u3 u5 u6 u8 u9 u10 u11 u12 u13 u14 u15 u16 u17 u18 u19 u20 u21 u22 u23 u24 u25 u26 u27 u28 u29 u30 u31 u32 u33 u34 u35 u36 u37 u38 u39 u40 u41 u42 u43 u44 u45 u46 u47 u48 u49 u50 u51 u52 u53 u54 u55 u56 u57 u58 u59 u60 u61 u62 u63 u64 u65 u66 u67 u68 u69 u70 u71 u72 u73 u74 u75 u76 u77 u78 u79 u80 u81 u82 u83 u84 u85 u86 u87 u88 u89 u90 u91 u92 u93 u94 u95 u96 u97 u98 u99 u100 u101 u102 u103 u104 u105 u106 u107 u108 u109 u110 u111 u112 u113 u114 u115 u116 u117 u118 HLEN hE hP HS HO hE0 hP0 h3' h2 hpb
      | false => exact m5 w W g cap L E P o u0 u1 u3 u5 u6 u8 u9 u10 u11 u12 u13 u14 u15 u16 u17 u18 u19 u20 u21 u22 u23 u24 u25 u26 u27 u28 u29 u30 u31 u32 u33 u34 u35 u36 u37 u38 u39 u40 u41 u42 u43 u44 u45 u46 u47 u48 u49 u50 u51 u52 u53 u54 u55 u56 u57 u58 u59 u60 u61 u62 u63 u64 u65 u66 u67 u68 u69 u70 u71 u72 u73 u74 u75 u76 u77 u78 u79 u80 u81 u82 u83 u84 u85 u86 u87 u88 u89 u90 u91 u92 u93 u94 u95 u96 u97 u98 u99 u100 u101 u102 u103 u104 u105 u106 u107 u108 u109 u110 u111 u112 u113 u114 u115 u116 u117 u118 HLEN hE hP HS HO hE0 hP0 h3' h2 hpb
  · have h2 : ¬ L.length < 3 := fun h => hq ⟨h, by simp [hE0]⟩
    cases hpe : partsB true (E.drop 1) with
    | false => exact m6 w W g cap L E P o u0 u1 u3 u5 u6 u8 u9 u10 u11 u12 u13 u14 u15 u16 u17 u18 u19 u20 u21 u22 u23 u24 u25 u26 u27 u28 u29 u30 u31 u32 u33 u34 u35 u36 u37 u38 u39 u40 u41 u42 u43 u44 u45 u46 u47 u48 u49 u50 u51 u52 u53 u54 u55 u56 u57 u58 u59 u60 u61 u62 u63 u64 u65 u66 u67 u68 u69 u70 u71 u72 u73 u74 u75 u76 u77 u78 u79 u80 u81 u82 u83 u84 u85 u86 u87 u88 u89 u90 u91 u92 u93 u94 u95 u96 u97 u98 u99 u100 u101 u102 u103 u104 u105 u106 u107 u108 u109 u110 u111 u112 u113 u114 u115 u116 u117 u118 HLEN hE hP HS HO hE0 h3' h2 hpe
    | true =>
      by_cases hP0 : P = []
      · exact m7 w W g cap L E P o u0 u1 u3 u5 u6 u8 u9 u10 u11 u12 u13 u14 u15 u16 u17 u18 u19 u20 u21 u22 u23 u24 u25 u26 u27 u28 u29 u30 u31 u32 u33 u34 u35 u36 u37 u38 u39 u40 u41 u42 u43 u44 u45 u46 u47 u48 u49 u50 u51 u52 u53 u54 u55 u56 u57 u58 u59 u60 u61 u62 u63 u64 u65 u66 u67 u68 u69 u70 u71 u72 u73 u74 u75 u76 u77 u78 u79 u80 u81 u82 u83 u84 u85 u86 u87 u88 u89 u90 u91 u92 u93 u94 u95 u96 u97 u98 u99 u100 u101 u102 u103 u104 u105 u106 u107 u108 u109 u110 u111 u112 u113 u114 u115 u116 u117 u118 HLEN hE hP HS HO hE0 hP0 h3' h2 hpe
      · cases hpb : partsB false (P.drop 1) with
        | true => exact m8 w W g cap L E P o u0 u1 u3 u5 u6 u8 u9 u10 u11 u12 u13 u14 u15 u16 u17 u18 u19 u20 u21 u22 u23 u24 u25 u26 u27 u28 u29 u30 u31 u32 u33 u34 u35 u36 u37 u38 u39 u40 u41 u42 u43 u44 u45 u46 u47 u48 u49 u50 u51 u52 u53 u54 u55 u56 u57 u58 u59 u60 u61 u62 u63 u64 u65 u66 u67 u68 u69 u70 u71 u72 u73 u74 u75 u76 u77 u78 u79 u80 u81 u82 u83 u84 u85 u86 u87 u88 u89 u90 u91 u92 u93 u94 u95 u96 u97 u98 u99 u100 u101 u102 u103 u104 u105 u106 u107 u108 u109 u110 u111 u112 u113 u114 u115 u116 u117 u118 HLEN hE hP HS HO hE0 hP0 h3' h2 hpe hpb
        | false => exact m9 w W g cap L E P o u0 u1 u3 u5 u6 u8 u9 u10 u11 u12 u13 u14 u15 u16 u17 u18 u19 u20 u21 u22 u23 u24 u25 u26 u27 u28 u29 u30 u31 u32 u33 u34 u35 u36 u37 u38 u39 u40 u41 u42 u43 u44 u45 u46 u47 u48 u49 u50 u51 u52 u53 u54 u55 u56 u57 u58 u59 u60 u61 u62 u63 u64 u65 u66 u67 u68 u69 u70 u71 u72 u73 u74 u75 u76 u77 u78 u79 u80 u81 u82 u83 u84 u85 u86 u87 u88 u89 u90 u91 u92 u93 u94 u95 u96 u97 u98 u99 u100 u101 u102 u103 u104 u105 u106 u107 u108 u109 u110 u111 u112 u113 u114 u115 u116 u117 u118 HLEN hE hP HS HO hE0 hP0 h3' h2 hpe hpb
end Go.Proofs.Ytdhibalpnccbiaa
