/- spec.Semantic: its second loop. -/
import Derived.Test.YtdhibalpnccbiaaSmt1
namespace Go.Proofs.Ytdhibalpnccbiaa
open Go.RowKit
set_option linter.unusedVariables false
structure Mid (w W : World) (E P : Bytes) : Prop where
  res : Six W w.heap.size (.string (bs [])) (.string (bs [])) (.string (bs [])) (.string (bs [])) (.string (bs [])) (.int .i64 0)
  box : Six W (w.heap.size + 1) (.string (bs [48])) (.string (bs [48])) (.string (bs [48])) (.string (bs E)) (.string (bs P)) (.int .i64 0)
  bel : Below w.heap.size w W
theorem Mid.pass {w W w1 : World} {E P : Bytes} {g cap : Nat} {L : List Bytes} (h : Mid w W E P) (hb : Below W.heap.size W w1) (hr : Row w1 W.heap.size g cap L) :
    Loop3 w (w1.setCell ⟨w.heap.size + 1, 5, none⟩ (.int .i64 L.length)) g cap L E P 0 := by
  have h1 := h.box.lt
  have h2 := hr.own
  have hr' : Row w1 (w.heap.size + 2) g cap L := ⟨hr.cell, by omega, hr.fits⟩
  refine ⟨(h.res.later hb).other (by omega) _, ?_, hr'.put (by omega) _, (below_next h.bel hb).setCell (by show w.heap.size ≤ w.heap.size + 1; omega) _, rfl⟩
  have := (h.box.later hb).put5 (.int .i64 L.length)
  simpa [nth] using this
set_option maxHeartbeats 4000000 in
set_option maxRecDepth 1000000 in
theorem mid17 (w W : World) (q E P : Bytes) (o : Option SX) (u1 u3 u5 u6 u7 u8 u9 u10 u11 u12 u13 u14 u15 u16 u17 u18 u19 u20 u21 u22 u23 u24 u25 u26 u27 u28 u29 u30 u31 u32 u33 u34 u35 u36 u37 u38 u39 u40 u41 u42 u43 u44 u45 u46 u47 u48 u49 u50 u51 u52 u53 u54 u55 u56 u57 u58 u59 u60 u61 u62 u63 u64 u65 u66 u67 u68 u69 u70 u71 u72 u73 u74 u75 u76 u77 u78 u79 u80 u81 u82 u83 u84 u85 u86 u87 u88 u89 u90 u91 u92 u93 u94 u95 u96 u97 u98 u99 u100 u101 u102 u103 u104 u105 u106 u107 u108 u109 u110 u111 u112 u113 u114 u115 u116 u117 u118 : Value) (hq : q.length ≤ 1000) (hE : E.length ≤ 1000) (hP : P.length ≤ 1000)
    (HS : Hid (Mid w W E P)) (HO : Hid (o = coreS E P (segs [] q))) :
    Code.wp Try.prog c17 (bodyPost Try.prog Try.f34 fun e w' => SxE o e ∧ Below w.heap.size w w') {tmps := #[Value.string (bs q), u1, Value.pointer (some ⟨w.heap.size, 0, none⟩), u3, Value.pointer (some ⟨w.heap.size + 1, 0, none⟩), u5, u6, u7, u8, u9, u10, u11, u12, u13, u14, u15, u16, u17, u18, u19, u20, u21, u22, u23, u24, u25, u26, u27, u28, u29, u30, u31, u32, u33, u34, u35, u36, u37, u38, u39, u40, u41, u42, u43, u44, u45, u46, u47, u48, u49, u50, u51, u52, u53, u54, u55, u56, u57, u58, u59, u60, u61, u62, u63, u64, u65, u66, u67, u68, u69, u70, u71, u72, u73, u74, u75, u76, u77, u78, u79, u80, u81, u82, u83, u84, u85, u86, u87, u88, u89, u90, u91, u92, u93, u94, u95, u96, u97, u98, u99, u100, u101, u102, u103, u104, u105, u106, u107, u108, u109, u110, u111, u112, u113, u114, u115, u116, u117, u118], defers := []} W := by
  have HQ := Lib.hid hq
  conv => arg 2; whnf
  go_wp2_with fail
  refine (cuts_row q _ HQ.out).mono ?_
  rintro e w1 ⟨⟨g, cap, rfl, hrow⟩, hb⟩
  have HL := Lib.hid (HS.out.pass hb hrow)
  have HC := Lib.hid (HS.out.box.later hb).1
  have HF := Lib.hid (HS.out.box.later hb).2
  clear hrow hb
  obtain ⟨c0, c1, c2, c3, c4, c5⟩ := HC.out
  obtain ⟨f0, f1, f2, f3, f4, f5⟩ := HF.out
  have HLEN : Hid (∀ x ∈ segs [] q, x.length ≤ maxLen) := by
    intro x hx
    have := segs_mem q [] x hx
    unfold maxLen
    simp at this
    omega
  go_upto_region 18 with (fail)
  rename_i KR hR
  have key : ∀ u0 u1 u3 u5 u6 u8 u9 u10 u11 u12 u13 u14 u15 u16 u17 u18 u19 u20 u21 u22 u23 u24 u25 u26 u27 u28 u29 u30 u31 u32 u33 u34 u35 u36 u37 u38 u39 u40 u41 u42 u43 u44 u45 u46 u47 u48 u49 u50 u51 u52 u53 u54 u55 u56 u57 u58 u59 u60 u61 u62 u63 u64 u65 u66 u67 u68 u69 u70 u71 u72 u73 u74 u75 u76 u77 u78 u79 u80 u81 u82 u83 u84 u85 u86 u87 u88 u89 u90 u91 u92 u93 u94 u95 u96 u97 u98 u99 u100 u101 u102 u103 u104 u105 u106 u107 u108 u109 u110 u111 u112 u113 u114 u115 u116 u117 u118 : Value, KR {tmps := #[u0, u1, Value.pointer (some ⟨w.heap.size, 0, none⟩), u3, Value.pointer (some ⟨w.heap.size + 1, 0, none⟩), u5, u6, Value.slice (some ⟨g, 0, none⟩) (segs [] q).length cap, u8, u9, u10, u11, u12, u13, u14, u15, u16, u17, u18, u19, u20, u21, u22, u23, u24, u25, u26, u27, u28, u29, u30, u31, u32, u33, u34, u35, u36, u37, u38, u39, u40, u41, u42, u43, u44, u45, u46, u47, u48, u49, u50, u51, u52, u53, u54, u55, u56, u57, u58, u59, u60, u61, u62, u63, u64, u65, u66, u67, u68, u69, u70, u71, u72, u73, u74, u75, u76, u77, u78, u79, u80, u81, u82, u83, u84, u85, u86, u87, u88, u89, u90, u91, u92, u93, u94, u95, u96, u97, u98, u99, u100, u101, u102, u103, u104, u105, u106, u107, u108, u109, u110, u111, u112, u113, u114, u115, u116, u117, u118], defers := []} (w1.setCell ⟨w.heap.size + 1, 5, none⟩ (.int .i64 (segs [] q).length)) := by
    intro u0 u1 u3 u5 u6 u8 u9 u10 u11 u12 u13 u14 u15 u16 u17 u18 u19 u20 u21 u22 u23 u24 u25 u26 u27 u28 u29 u30 u31 u32 u33 u34 u35 u36 u37 u38 u39 u40 u41 u42 u43 u44 u45 u46 u47 u48 u49 u50 u51 u52 u53 u54 u55 u56 u57 u58 u59 u60 u61 u62 u63 u64 u65 u66 u67 u68 u69 u70 u71 u72 u73 u74 u75 u76 u77 u78 u79 u80 u81 u82 u83 u84 u85 u86 u87 u88 u89 u90 u91 u92 u93 u94 u95 u96 u97 u98 u99 u100 u101 u102 u103 u104 u105 u106 u107 u108 u109 u110 u111 u112 u113 u114 u115 u116 u117 u118
    apply hR
    exact mid19 w _ g cap (segs [] q) E P o u0 u1 u3 u5 u6 u8 u9 u10 u11 u12 u13 u14 u15 u16 u17 u18 u19 u20 u21 u22 u23 u24 u25 u26 u27 u28 u29 u30 u31 u32 u33 u34 u35 u36 u37 u38 u39 u40 u41 u42 u43 u44 u45 u46 u47 u48 u49 u50 u51 u52 u53 u54 u55 u56 u57 u58 u59 u60 u61 u62 u63 u64 u65 u66 u67 u68 u69 u70 u71 u72 u73 u74 u75 u76 u77 u78 u79 u80 u81 u82 u83 u84 u85 u86 u87 u88 u89 u90 u91 u92 u93 u94 u95 u96 u97 u98 u99 u100 u101 u102 u103 u104 u105 u106 u107 u108 u109 u110 u111 u112 u113 u114 u115 u116 u117 u118 HLEN hE hP HL HO
  have KEY := Lib.hid key
  clear key hR
  go_wp2
  apply KEY.out
end Go.Proofs.Ytdhibalpnccbiaa

namespace Go.Proofs.Ytdhibalpnccbiaa
open Go.RowKit
set_option linter.unusedVariables false
theorem isNot_eq (n : Nat) (l : Bytes) (k : Nat) (h : k < l.length) (h2 : isNot n l[k] = false) : bl l k = n := by
  rw [isNot_bl n l k h] at h2; simpa using h2
theorem Mid.put1 {w W : World} {E P : Bytes} (h : Mid w W [] P) : Mid w (W.setCell ⟨w.heap.size + 1, 3, none⟩ (.string (bs E))).drew E P :=
  ⟨h.res.other (by omega) _, h.box.put3 _, (h.bel.setCell (by show w.heap.size ≤ w.heap.size + 1; omega) _).drew⟩
theorem Mid.put2 {w W : World} {P : Bytes} (h : Mid w W [] []) : Mid w (W.setCell ⟨w.heap.size + 1, 4, none⟩ (.string (bs P))).drew [] P :=
  ⟨h.res.other (by omega) _, h.box.put4 _, (h.bel.setCell (by show w.heap.size ≤ w.heap.size + 1; omega) _).drew⟩
set_option maxHeartbeats 4000000 in
set_option maxRecDepth 1000000 in
theorem mid11 (w W : World) (p P : Bytes) (o : Option SX) (u1 u3 u5 u6 u7 u8 u9 u10 u11 u12 u13 u14 u15 u16 u17 u18 u19 u20 u21 u22 u23 u24 u25 u26 u27 u28 u29 u30 u31 u32 u33 u34 u35 u36 u37 u38 u39 u40 u41 u42 u43 u44 u45 u46 u47 u48 u49 u50 u51 u52 u53 u54 u55 u56 u57 u58 u59 u60 u61 u62 u63 u64 u65 u66 u67 u68 u69 u70 u71 u72 u73 u74 u75 u76 u77 u78 u79 u80 u81 u82 u83 u84 u85 u86 u87 u88 u89 u90 u91 u92 u93 u94 u95 u96 u97 u98 u99 u100 u101 u102 u103 u104 u105 u106 u107 u108 u109 u110 u111 u112 u113 u114 u115 u116 u117 u118 : Value) (hp : p.length ≤ 1000) (hP : P.length ≤ 1000)
    (HS : Hid (Mid w W [] P)) (HO : Hid (o = coreS (p.dropWhile (isNot 45)) P (segs [] (p.takeWhile (isNot 45))))) :
    Code.wp Try.prog c11 (bodyPost Try.prog Try.f34 fun e w' => SxE o e ∧ Below w.heap.size w w') {tmps := #[Value.string (bs p), u1, Value.pointer (some ⟨w.heap.size, 0, none⟩), u3, Value.pointer (some ⟨w.heap.size + 1, 0, none⟩), u5, u6, u7, u8, u9, u10, u11, u12, u13, u14, u15, u16, u17, u18, u19, u20, u21, u22, u23, u24, u25, u26, u27, u28, u29, u30, u31, u32, u33, u34, u35, u36, u37, u38, u39, u40, u41, u42, u43, u44, u45, u46, u47, u48, u49, u50, u51, u52, u53, u54, u55, u56, u57, u58, u59, u60, u61, u62, u63, u64, u65, u66, u67, u68, u69, u70, u71, u72, u73, u74, u75, u76, u77, u78, u79, u80, u81, u82, u83, u84, u85, u86, u87, u88, u89, u90, u91, u92, u93, u94, u95, u96, u97, u98, u99, u100, u101, u102, u103, u104, u105, u106, u107, u108, u109, u110, u111, u112, u113, u114, u115, u116, u117, u118], defers := []} W := by
  have HPL := Lib.hid hP
  conv => arg 2; whnf
  go_wp2
  rename_i K2 hK2
  have key : ∀ (q E : Bytes) (W' : World), q.length ≤ 1000 → E.length ≤ 1000 → Mid w W' E P → o = coreS E P (segs [] q) → ∀ u1 u3 u5 u6 u7 u8 u9 u10 u11 u12 u13 u14 u15 u16 u17 u18 u19 u20 u21 u22 u23 u24 u25 u26 u27 u28 u29 u30 u31 u32 u33 u34 u35 u36 u37 u38 u39 u40 u41 u42 u43 u44 u45 u46 u47 u48 u49 u50 u51 u52 u53 u54 u55 u56 u57 u58 u59 u60 u61 u62 u63 u64 u65 u66 u67 u68 u69 u70 u71 u72 u73 u74 u75 u76 u77 u78 u79 u80 u81 u82 u83 u84 u85 u86 u87 u88 u89 u90 u91 u92 u93 u94 u95 u96 u97 u98 u99 u100 u101 u102 u103 u104 u105 u106 u107 u108 u109 u110 u111 u112 u113 u114 u115 u116 u117 u118 : Value, K2 {tmps := #[Value.string (bs q), u1, Value.pointer (some ⟨w.heap.size, 0, none⟩), u3, Value.pointer (some ⟨w.heap.size + 1, 0, none⟩), u5, u6, u7, u8, u9, u10, u11, u12, u13, u14, u15, u16, u17, u18, u19, u20, u21, u22, u23, u24, u25, u26, u27, u28, u29, u30, u31, u32, u33, u34, u35, u36, u37, u38, u39, u40, u41, u42, u43, u44, u45, u46, u47, u48, u49, u50, u51, u52, u53, u54, u55, u56, u57, u58, u59, u60, u61, u62, u63, u64, u65, u66, u67, u68, u69, u70, u71, u72, u73, u74, u75, u76, u77, u78, u79, u80, u81, u82, u83, u84, u85, u86, u87, u88, u89, u90, u91, u92, u93, u94, u95, u96, u97, u98, u99, u100, u101, u102, u103, u104, u105, u106, u107, u108, u109, u110, u111, u112, u113, u114, u115, u116, u117, u118], defers := []} W' := by
    intro q E W' hq hE hS hO u1 u3 u5 u6 u7 u8 u9 u10 u11 u12 u13 u14 u15 u16 u17 u18 u19 u20 u21 u22 u23 u24 u25 u26 u27 u28 u29 u30 u31 u32 u33 u34 u35 u36 u37 u38 u39 u40 u41 u42 u43 u44 u45 u46 u47 u48 u49 u50 u51 u52 u53 u54 u55 u56 u57 u58 u59 u60 u61 u62 u63 u64 u65 u66 u67 u68 u69 u70 u71 u72 u73 u74 u75 u76 u77 u78 u79 u80 u81 u82 u83 u84 u85 u86 u87 u88 u89 u90 u91 u92 u93 u94 u95 u96 u97 u98 u99 u100 u101 u102 u103 u104 u105 u106 u107 u108 u109 u110 u111 u112 u113 u114 u115 u116 u117 u118
    apply hK2
    exact mid17 w W' q E P o u1 u3 u5 u6 u7 u8 u9 u10 u11 u12 u13 u14 u15 u16 u17 u18 u19 u20 u21 u22 u23 u24 u25 u26 u27 u28 u29 u30 u31 u32 u33 u34 u35 u36 u37 u38 u39 u40 u41 u42 u43 u44 u45 u46 u47 u48 u49 u50 u51 u52 u53 u54 u55 u56 u57 u58 u59 u60 u61 u62 u63 u64 u65 u66 u67 u68 u69 u70 u71 u72 u73 u74 u75 u76 u77 u78 u79 u80 u81 u82 u83 u84 u85 u86 u87 u88 u89 u90 u91 u92 u93 u94 u95 u96 u97 u98 u99 u100 u101 u102 u103 u104 u105 u106 u107 u108 u109 u110 u111 u112 u113 u114 u115 u116 u117 u118 hq hE HPL.out (Lib.hid hS) (Lib.hid hO)
  have KEY := Lib.hid key
  clear key hK2
  go_loop [0, 41] (fun s i => ∃ k : Nat, k ≤ p.length ∧ k ≤ tw (isNot 45) p ∧ s = .string (bs p) ∧ i = .int .i64 k) (fun _ i => p.length - (intOf i).toNat)
  case atStart => exact ⟨0, Nat.zero_le _, Nat.zero_le _, rfl, rfl⟩
  case round =>
    obtain ⟨k, hk, hkt, rfl, rfl⟩ := hrel
    by_cases hgo : ∃ h : k < p.length, isNot 45 p[k] = true
    · obtain ⟨hlt, hd⟩ := hgo
      have hn : k + 1 ≤ tw (isNot 45) p := tw_step _ p k hlt hkt hd
      have hb := isNot_bl 45 p k hlt
      rw [hd] at hb
      have hb2 : ((bl p k : Int) == 45) = false := by simp at hb ⊢; omega
      clear hd hb
      go_wp2
      go_round
      case rel => exact ⟨k + 1, by omega, by omega, rfl, by go_num⟩
      case measure => simp [intOf]; omega
    · have hkk := tw_exit _ p k hkt hgo
      have H1 : Hid (p.takeWhile (isNot 45) = p.take k) := by show _ = _; rw [hkk, take_tw]
      have H2 : Hid (p.dropWhile (isNot 45) = p.drop k) := by show _ = _; rw [hkk, drop_tw]
      have HOO : Hid (o = coreS (p.drop k) P (segs [] (p.take k))) := by show _ = _; rw [← H1.out, ← H2.out]; exact HO.out
      by_cases hlt : k < p.length
      · have hb2 : ((bl p k : Int) == 45) = true := by
          have hd : isNot 45 p[k] = false := by simpa using fun h => hgo ⟨hlt, h⟩
          have := isNot_eq 45 p k hlt hd
          simp; omega
        have HL1 : Hid ((p.take k).length ≤ 1000) := by show _ ≤ _; simp; omega
        have HL2 : Hid ((p.drop k).length ≤ 1000) := by show _ ≤ _; simp; omega
        have HM := Lib.hid (HS.out.put1 (E := p.drop k))
        have HF := Lib.hid HS.out.box.2
        have HC := Lib.hid HS.out.box.1
        obtain ⟨c0, c1, c2, c3, c4, c5⟩ := HC.out
        obtain ⟨f0, f1, f2, f3, f4, f5⟩ := HF.out
        clear hgo hkk hkt H1 H2
        go_wp2
        go_region
        go_wp2
        exact KEY.out (p.take k) (p.drop k) _ HL1.out HL2.out HM.out HOO.out _ _ _ _ _ _ _ _ _ _ _ _ _ _ _ _ _ _ _ _ _ _ _ _ _ _ _ _ _ _ _ _ _ _ _ _ _ _ _ _ _ _ _ _ _ _ _ _ _ _ _ _ _ _ _ _ _ _ _ _ _ _ _ _ _ _ _ _ _ _ _ _ _ _ _ _ _ _ _ _ _ _ _ _ _ _ _ _ _ _ _ _ _ _ _ _ _ _ _ _ _ _ _ _ _ _ _ _ _ _ _ _ _ _ _ _
      · have hke : k = p.length := by omega
        have HOE : Hid (o = coreS [] P (segs [] p)) := by
          have := HOO.out
          rw [hke, List.drop_length, List.take_length] at this
          exact this
        clear hgo hkk hkt H1 H2 HOO hke
        go_wp2
        exact KEY.out p [] _ hp (Nat.zero_le _) HS.out HOE.out _ _ _ _ _ _ _ _ _ _ _ _ _ _ _ _ _ _ _ _ _ _ _ _ _ _ _ _ _ _ _ _ _ _ _ _ _ _ _ _ _ _ _ _ _ _ _ _ _ _ _ _ _ _ _ _ _ _ _ _ _ _ _ _ _ _ _ _ _ _ _ _ _ _ _ _ _ _ _ _ _ _ _ _ _ _ _ _ _ _ _ _ _ _ _ _ _ _ _ _ _ _ _ _ _ _ _ _ _ _ _ _ _ _ _ _
end Go.Proofs.Ytdhibalpnccbiaa

namespace Go.Proofs.Ytdhibalpnccbiaa
open Go.RowKit
set_option linter.unusedVariables false
set_option maxHeartbeats 4000000 in
set_option maxRecDepth 1000000 in
theorem mid5 (w W : World) (r : Bytes) (o : Option SX) (u1 u3 u5 u6 u7 u8 u9 u10 u11 u12 u13 u14 u15 u16 u17 u18 u19 u20 u21 u22 u23 u24 u25 u26 u27 u28 u29 u30 u31 u32 u33 u34 u35 u36 u37 u38 u39 u40 u41 u42 u43 u44 u45 u46 u47 u48 u49 u50 u51 u52 u53 u54 u55 u56 u57 u58 u59 u60 u61 u62 u63 u64 u65 u66 u67 u68 u69 u70 u71 u72 u73 u74 u75 u76 u77 u78 u79 u80 u81 u82 u83 u84 u85 u86 u87 u88 u89 u90 u91 u92 u93 u94 u95 u96 u97 u98 u99 u100 u101 u102 u103 u104 u105 u106 u107 u108 u109 u110 u111 u112 u113 u114 u115 u116 u117 u118 : Value) (hr : r.length ≤ 1000)
    (HS : Hid (Mid w W [] [])) (HO : Hid (o = coreS (eOf r) (pOf r) (segs [] (qOf r)))) :
    Code.wp Try.prog c5 (bodyPost Try.prog Try.f34 fun e w' => SxE o e ∧ Below w.heap.size w w') {tmps := #[Value.string (bs r), u1, Value.pointer (some ⟨w.heap.size, 0, none⟩), u3, Value.pointer (some ⟨w.heap.size + 1, 0, none⟩), u5, u6, u7, u8, u9, u10, u11, u12, u13, u14, u15, u16, u17, u18, u19, u20, u21, u22, u23, u24, u25, u26, u27, u28, u29, u30, u31, u32, u33, u34, u35, u36, u37, u38, u39, u40, u41, u42, u43, u44, u45, u46, u47, u48, u49, u50, u51, u52, u53, u54, u55, u56, u57, u58, u59, u60, u61, u62, u63, u64, u65, u66, u67, u68, u69, u70, u71, u72, u73, u74, u75, u76, u77, u78, u79, u80, u81, u82, u83, u84, u85, u86, u87, u88, u89, u90, u91, u92, u93, u94, u95, u96, u97, u98, u99, u100, u101, u102, u103, u104, u105, u106, u107, u108, u109, u110, u111, u112, u113, u114, u115, u116, u117, u118], defers := []} W := by
  have HRL := Lib.hid hr
  conv => arg 2; whnf
  go_wp2
  rename_i K2 hK2
  have key : ∀ (p P : Bytes) (W' : World), p.length ≤ 1000 → P.length ≤ 1000 → Mid w W' [] P → o = coreS (p.dropWhile (isNot 45)) P (segs [] (p.takeWhile (isNot 45))) → ∀ u1 u3 u5 u6 u7 u8 u9 u10 u11 u12 u13 u14 u15 u16 u17 u18 u19 u20 u21 u22 u23 u24 u25 u26 u27 u28 u29 u30 u31 u32 u33 u34 u35 u36 u37 u38 u39 u40 u41 u42 u43 u44 u45 u46 u47 u48 u49 u50 u51 u52 u53 u54 u55 u56 u57 u58 u59 u60 u61 u62 u63 u64 u65 u66 u67 u68 u69 u70 u71 u72 u73 u74 u75 u76 u77 u78 u79 u80 u81 u82 u83 u84 u85 u86 u87 u88 u89 u90 u91 u92 u93 u94 u95 u96 u97 u98 u99 u100 u101 u102 u103 u104 u105 u106 u107 u108 u109 u110 u111 u112 u113 u114 u115 u116 u117 u118 : Value, K2 {tmps := #[Value.string (bs p), u1, Value.pointer (some ⟨w.heap.size, 0, none⟩), u3, Value.pointer (some ⟨w.heap.size + 1, 0, none⟩), u5, u6, u7, u8, u9, u10, u11, u12, u13, u14, u15, u16, u17, u18, u19, u20, u21, u22, u23, u24, u25, u26, u27, u28, u29, u30, u31, u32, u33, u34, u35, u36, u37, u38, u39, u40, u41, u42, u43, u44, u45, u46, u47, u48, u49, u50, u51, u52, u53, u54, u55, u56, u57, u58, u59, u60, u61, u62, u63, u64, u65, u66, u67, u68, u69, u70, u71, u72, u73, u74, u75, u76, u77, u78, u79, u80, u81, u82, u83, u84, u85, u86, u87, u88, u89, u90, u91, u92, u93, u94, u95, u96, u97, u98, u99, u100, u101, u102, u103, u104, u105, u106, u107, u108, u109, u110, u111, u112, u113, u114, u115, u116, u117, u118], defers := []} W' := by
    intro p P W' hp hP hS hO u1 u3 u5 u6 u7 u8 u9 u10 u11 u12 u13 u14 u15 u16 u17 u18 u19 u20 u21 u22 u23 u24 u25 u26 u27 u28 u29 u30 u31 u32 u33 u34 u35 u36 u37 u38 u39 u40 u41 u42 u43 u44 u45 u46 u47 u48 u49 u50 u51 u52 u53 u54 u55 u56 u57 u58 u59 u60 u61 u62 u63 u64 u65 u66 u67 u68 u69 u70 u71 u72 u73 u74 u75 u76 u77 u78 u79 u80 u81 u82 u83 u84 u85 u86 u87 u88 u89 u90 u91 u92 u93 u94 u95 u96 u97 u98 u99 u100 u101 u102 u103 u104 u105 u106 u107 u108 u109 u110 u111 u112 u113 u114 u115 u116 u117 u118
    apply hK2
    exact mid11 w W' p P o u1 u3 u5 u6 u7 u8 u9 u10 u11 u12 u13 u14 u15 u16 u17 u18 u19 u20 u21 u22 u23 u24 u25 u26 u27 u28 u29 u30 u31 u32 u33 u34 u35 u36 u37 u38 u39 u40 u41 u42 u43 u44 u45 u46 u47 u48 u49 u50 u51 u52 u53 u54 u55 u56 u57 u58 u59 u60 u61 u62 u63 u64 u65 u66 u67 u68 u69 u70 u71 u72 u73 u74 u75 u76 u77 u78 u79 u80 u81 u82 u83 u84 u85 u86 u87 u88 u89 u90 u91 u92 u93 u94 u95 u96 u97 u98 u99 u100 u101 u102 u103 u104 u105 u106 u107 u108 u109 u110 u111 u112 u113 u114 u115 u116 u117 u118 hp hP (Lib.hid hS) (Lib.hid hO)
  have KEY := Lib.hid key
  clear key hK2
  go_loop [0, 24] (fun s i => ∃ k : Nat, k ≤ r.length ∧ k ≤ tw (isNot 43) r ∧ s = .string (bs r) ∧ i = .int .i64 k) (fun _ i => r.length - (intOf i).toNat)
  case atStart => exact ⟨0, Nat.zero_le _, Nat.zero_le _, rfl, rfl⟩
  case round =>
    obtain ⟨k, hk, hkt, rfl, rfl⟩ := hrel
    by_cases hgo : ∃ h : k < r.length, isNot 43 r[k] = true
    · obtain ⟨hlt, hd⟩ := hgo
      have hn : k + 1 ≤ tw (isNot 43) r := tw_step _ r k hlt hkt hd
      have hb := isNot_bl 43 r k hlt
      rw [hd] at hb
      have hb2 : ((bl r k : Int) == 43) = false := by simp at hb ⊢; omega
      clear hd hb
      go_wp2
      go_round
      case rel => exact ⟨k + 1, by omega, by omega, rfl, by go_num⟩
      case measure => simp [intOf]; omega
    · have hkk := tw_exit _ r k hkt hgo
      have H1 : Hid (r.takeWhile (isNot 43) = r.take k) := by show _ = _; rw [hkk, take_tw]
      have H2 : Hid (r.dropWhile (isNot 43) = r.drop k) := by show _ = _; rw [hkk, drop_tw]
      have HOO : Hid (o = coreS ((r.take k).dropWhile (isNot 45)) (r.drop k) (segs [] ((r.take k).takeWhile (isNot 45)))) := by show _ = _; rw [← H1.out, ← H2.out]; exact HO.out
      by_cases hlt : k < r.length
      · have hb2 : ((bl r k : Int) == 43) = true := by
          have hd : isNot 43 r[k] = false := by simpa using fun h => hgo ⟨hlt, h⟩
          have := isNot_eq 43 r k hlt hd
          simp; omega
        have HL1 : Hid ((r.take k).length ≤ 1000) := by show _ ≤ _; simp; omega
        have HL2 : Hid ((r.drop k).length ≤ 1000) := by show _ ≤ _; simp; omega
        have HM := Lib.hid (HS.out.put2 (P := r.drop k))
        have HF := Lib.hid HS.out.box.2
        have HC := Lib.hid HS.out.box.1
        obtain ⟨c0, c1, c2, c3, c4, c5⟩ := HC.out
        obtain ⟨f0, f1, f2, f3, f4, f5⟩ := HF.out
        clear hgo hkk hkt H1 H2
        go_wp2
        go_region
        go_wp2
        exact KEY.out (r.take k) (r.drop k) _ HL1.out HL2.out HM.out HOO.out _ _ _ _ _ _ _ _ _ _ _ _ _ _ _ _ _ _ _ _ _ _ _ _ _ _ _ _ _ _ _ _ _ _ _ _ _ _ _ _ _ _ _ _ _ _ _ _ _ _ _ _ _ _ _ _ _ _ _ _ _ _ _ _ _ _ _ _ _ _ _ _ _ _ _ _ _ _ _ _ _ _ _ _ _ _ _ _ _ _ _ _ _ _ _ _ _ _ _ _ _ _ _ _ _ _ _ _ _ _ _ _ _ _ _ _
      · have hke : k = r.length := by omega
        have HOE : Hid (o = coreS (r.dropWhile (isNot 45)) [] (segs [] (r.takeWhile (isNot 45)))) := by
          have := HOO.out
          rw [hke, List.drop_length, List.take_length] at this
          exact this
        clear hgo hkk hkt H1 H2 HOO hke
        go_wp2
        exact KEY.out r [] _ hr (Nat.zero_le _) HS.out HOE.out _ _ _ _ _ _ _ _ _ _ _ _ _ _ _ _ _ _ _ _ _ _ _ _ _ _ _ _ _ _ _ _ _ _ _ _ _ _ _ _ _ _ _ _ _ _ _ _ _ _ _ _ _ _ _ _ _ _ _ _ _ _ _ _ _ _ _ _ _ _ _ _ _ _ _ _ _ _ _ _ _ _ _ _ _ _ _ _ _ _ _ _ _ _ _ _ _ _ _ _ _ _ _ _ _ _ _ _ _ _ _ _ _ _ _ _
theorem mid_new (w : World) (T U : TypeId) : Mid w ((w.alloc (.cells #[.string (bs []), .string (bs []), .string (bs []), .string (bs []), .string (bs []), .int .i64 0] T)).alloc (.cells #[.string (bs [48]), .string (bs [48]), .string (bs [48]), .string (bs []), .string (bs []), .int .i64 0] U)) [] [] := by
  have h1 := Six.new w (.string (bs [])) (.string (bs [])) (.string (bs [])) (.string (bs [])) (.string (bs [])) (.int .i64 0) T
  have h2 := Six.new (w.alloc (.cells #[.string (bs []), .string (bs []), .string (bs []), .string (bs []), .string (bs []), .int .i64 0] T)) (.string (bs [48])) (.string (bs [48])) (.string (bs [48])) (.string (bs [])) (.string (bs [])) (.int .i64 0) U
  refine ⟨h1.later ((Below.refl _ _).alloc (Nat.le_refl _) _), ?_, ((Below.refl _ _).alloc (Nat.le_refl _) _).alloc (by simp) _⟩
  simpa using h2
set_option maxHeartbeats 4000000 in
set_option maxRecDepth 1000000 in
theorem smt_v (r : Bytes) (w : World) (hs : (118 :: r).length ≤ 1000) :
    Calls Try.prog 34 #[.string (bs (118 :: r))] w fun e w' => SxE (semS (118 :: r)) e ∧ Below w.heap.size w w' := by
  have HRL : Hid (r.length ≤ 1000) := by show _ ≤ _; simp at hs; omega
  have HO : Hid (semS (118 :: r) = coreS (eOf r) (pOf r) (segs [] (qOf r))) := Lib.hid rfl
  generalize semS (118 :: r) = o at *
  go_enter Try.func34, Try.ntmps34
  go_upto_region 4 with (fail)
  rename_i KR hR
  have key : ∀ u1 u3 u5 u6 u7 u8 u9 u10 u11 u12 u13 u14 u15 u16 u17 u18 u19 u20 u21 u22 u23 u24 u25 u26 u27 u28 u29 u30 u31 u32 u33 u34 u35 u36 u37 u38 u39 u40 u41 u42 u43 u44 u45 u46 u47 u48 u49 u50 u51 u52 u53 u54 u55 u56 u57 u58 u59 u60 u61 u62 u63 u64 u65 u66 u67 u68 u69 u70 u71 u72 u73 u74 u75 u76 u77 u78 u79 u80 u81 u82 u83 u84 u85 u86 u87 u88 u89 u90 u91 u92 u93 u94 u95 u96 u97 u98 u99 u100 u101 u102 u103 u104 u105 u106 u107 u108 u109 u110 u111 u112 u113 u114 u115 u116 u117 u118 : Value, KR {tmps := #[Value.string (bs r), u1, Value.pointer (some ⟨w.heap.size, 0, none⟩), u3, Value.pointer (some ⟨w.heap.size + 1, 0, none⟩), u5, u6, u7, u8, u9, u10, u11, u12, u13, u14, u15, u16, u17, u18, u19, u20, u21, u22, u23, u24, u25, u26, u27, u28, u29, u30, u31, u32, u33, u34, u35, u36, u37, u38, u39, u40, u41, u42, u43, u44, u45, u46, u47, u48, u49, u50, u51, u52, u53, u54, u55, u56, u57, u58, u59, u60, u61, u62, u63, u64, u65, u66, u67, u68, u69, u70, u71, u72, u73, u74, u75, u76, u77, u78, u79, u80, u81, u82, u83, u84, u85, u86, u87, u88, u89, u90, u91, u92, u93, u94, u95, u96, u97, u98, u99, u100, u101, u102, u103, u104, u105, u106, u107, u108, u109, u110, u111, u112, u113, u114, u115, u116, u117, u118], defers := []} ((w.alloc (.cells #[.string (bs []), .string (bs []), .string (bs []), .string (bs []), .string (bs []), .int .i64 0] 37)).alloc (.cells #[.string (bs [48]), .string (bs [48]), .string (bs [48]), .string (bs []), .string (bs []), .int .i64 0] 37)) := by
    intro u1 u3 u5 u6 u7 u8 u9 u10 u11 u12 u13 u14 u15 u16 u17 u18 u19 u20 u21 u22 u23 u24 u25 u26 u27 u28 u29 u30 u31 u32 u33 u34 u35 u36 u37 u38 u39 u40 u41 u42 u43 u44 u45 u46 u47 u48 u49 u50 u51 u52 u53 u54 u55 u56 u57 u58 u59 u60 u61 u62 u63 u64 u65 u66 u67 u68 u69 u70 u71 u72 u73 u74 u75 u76 u77 u78 u79 u80 u81 u82 u83 u84 u85 u86 u87 u88 u89 u90 u91 u92 u93 u94 u95 u96 u97 u98 u99 u100 u101 u102 u103 u104 u105 u106 u107 u108 u109 u110 u111 u112 u113 u114 u115 u116 u117 u118
    apply hR
    exact mid5 w _ r o u1 u3 u5 u6 u7 u8 u9 u10 u11 u12 u13 u14 u15 u16 u17 u18 u19 u20 u21 u22 u23 u24 u25 u26 u27 u28 u29 u30 u31 u32 u33 u34 u35 u36 u37 u38 u39 u40 u41 u42 u43 u44 u45 u46 u47 u48 u49 u50 u51 u52 u53 u54 u55 u56 u57 u58 u59 u60 u61 u62 u63 u64 u65 u66 u67 u68 u69 u70 u71 u72 u73 u74 u75 u76 u77 u78 u79 u80 u81 u82 u83 u84 u85 u86 u87 u88 u89 u90 u91 u92 u93 u94 u95 u96 u97 u98 u99 u100 u101 u102 u103 u104 u105 u106 u107 u108 u109 u110 u111 u112 u113 u114 u115 u116 u117 u118 HRL.out (Lib.hid (mid_new w 37 37)) HO
  have KEY := Lib.hid key
  clear key hR
  go_wp2
  apply KEY.out
set_option maxHeartbeats 4000000 in
set_option maxRecDepth 1000000 in
theorem smt_n (l : Bytes) (w : World) (hs : l.length ≤ 1000) (h : l = [] ∨ (0 < l.length ∧ bl l 0 ≠ 118)) :
    Calls Try.prog 34 #[.string (bs l)] w fun e w' => SxE (semS l) e ∧ Below w.heap.size w w' := by
  have hsem : semS l = none := by
    rcases h with rfl | ⟨h1, h2⟩
    · rfl
    · cases l with
      | nil => rfl
      | cons c r => exact if_neg h2
  have HG := Lib.hid hsem
  clear hsem
  rcases h with rfl | ⟨h1, h2⟩
  · go_enter Try.func34, Try.ntmps34
    go_wp2
    refine bodyPost_ret (v := .tuple #[sxv ⟨[48], [48], [48], [], [], 0⟩, .bool false]) (by simp [results, Try.results34, go_sem]; try rfl) rfl ⟨sxE_none HG.out _ rfl, ?_⟩
    repeat' (first | exact Below.refl _ _ | refine below_drewN ?_ _ | refine Below.drew ?_ | refine Below.alloc ?_ ?_ _ | refine Below.setCell ?_ ?_ _ | go_size)
  · have hne : (l == []) = false := by cases l <;> simp_all
    have hne2 : l.isEmpty = false := by cases l <;> simp_all
    have h45 : ((bl l 0 : Int) != 118) = true := by simp; omega
    clear h2
    go_enter Try.func34, Try.ntmps34
    go_wp2
    refine bodyPost_ret (v := .tuple #[sxv ⟨[48], [48], [48], [], [], 0⟩, .bool false]) (by simp [results, Try.results34, go_sem]; try rfl) rfl ⟨sxE_none HG.out _ rfl, ?_⟩
    repeat' (first | exact Below.refl _ _ | refine below_drewN ?_ _ | refine Below.drew ?_ | refine Below.alloc ?_ ?_ _ | refine Below.setCell ?_ ?_ _ | go_size)
/-- What spec.Semantic answers. -/
theorem smt_any (l : Bytes) (w : World) (hs : l.length ≤ 1000) :
    Calls Try.prog 34 #[.string (bs l)] w fun e w' => SxE (semS l) e ∧ Below w.heap.size w w' := by
  cases l with
  | nil => exact smt_n [] w hs (.inl rfl)
  | cons c r =>
    by_cases hc : c = 118
    · subst hc; exact smt_v r w hs
    · exact smt_n _ w hs (.inr ⟨by simp, nat_ne hc⟩)
theorem smt_ok {l : Bytes} {S : SV} (w : World) (hs : l.length ≤ 1000) (h : semP l = some S) :
    Calls Try.prog 34 #[.string (bs l)] w fun e w' => e = .returned (.tuple #[sxv (toX S), .bool true]) ∧ Below w.heap.size w w' :=
  (smt_any l w hs).mono fun e w' ⟨he, hb⟩ => ⟨by unfold SxE at he; rw [semS_eq, h] at he; exact he, hb⟩
theorem smt_no {l : Bytes} (w : World) (hs : l.length ≤ 1000) (h : semP l = none) :
    Calls Try.prog 34 #[.string (bs l)] w fun e w' => (∃ S, e = .returned (.tuple #[sxv S, .bool false])) ∧ Below w.heap.size w w' :=
  (smt_any l w hs).mono fun e w' ⟨he, hb⟩ => ⟨by unfold SxE at he; rw [semS_eq, h] at he; exact he, hb⟩
end Go.Proofs.Ytdhibalpnccbiaa
