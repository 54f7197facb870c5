/- The functions on versions of modules: ModIsValid, ModIsPrerelease, ModIsPrefix, ModMajorMinor, at go and toolchain. -/
import Derived.Test.YtdhibalpnccbiaaLang
import Derived.Test.YtdhibalpnccbiaaL7
import Derived.Test.YtdhibalpnccbiaaSemC
import Derived.Test.YtdhibalpnccbiaaSmtP
namespace Go.Proofs.Ytdhibalpnccbiaa
open Go.RowKit
set_option linter.unusedVariables false
/-- The text of the version that a version of go or toolchain is. -/
def verOf (path v : Bytes) : Bytes := if path = tToolchain then fromTool v else v
theorem verOf_go (v : Bytes) : verOf tGo v = v := if_neg (by decide)
theorem verOf_tool (v : Bytes) : verOf tToolchain v = fromTool v := if_pos rfl
theorem verOf_len (path v : Bytes) : (verOf path v).length ≤ v.length := by
  unfold verOf
  split
  · exact fromTool_len v
  · exact Nat.le_refl _
theorem virt_cases {path : Bytes} (h : virt path = true) : path = tGo ∨ path = tToolchain := by
  simpa [virt] using h
theorem virt_false {path : Bytes} (h : virt path = false) : path ≠ tGo ∧ path ≠ tToolchain := by
  simpa [virt] using h
theorem mod_read (path v : Bytes) (h : (modR path v).2 ≠ 0) : modR path v = read (verOf path v) := by
  unfold modR verOf at *
  by_cases hp : path = tToolchain
  · rw [if_pos hp] at h ⊢
    rw [if_pos hp]
    by_cases h3 : (toolN v).2 = 0
    · rw [if_pos h3] at h; exact absurd rfl h
    · rw [if_neg h3, tool_fine v (toolN_state v h3)]
  · rw [if_neg hp, if_neg hp]
theorem mod_parse (path v : Bytes) (h : (modR path v).2 ≠ 0) : parse (verOf path v) = (modR path v).1 := by
  have e := mod_read path v h
  rw [e] at h ⊢
  exact read_parse _ h
theorem mod_state (path v : Bytes) (h : (modR path v).2 ≠ 0) : ((modR path v).2 = 1 ∧ (parse (verOf path v)).maj ≠ [] ∧ (parse (verOf path v)).min ≠ []) ∨ ((modR path v).2 = 2 ∧ parse (verOf path v) = zero) := by
  have e := mod_read path v h
  rw [e] at h ⊢
  exact read_fine _ h
theorem isLang73 (l : Bytes) (w : World) (hs : l.length ≤ maxLen) :
    Calls Try.prog 73 #[.string (bs l)] w fun e w' => e = .returned (.bool (isLangB (parse l))) ∧ Below w.heap.size w w' := by
  have HS := Lib.hid hs
  go_enter Try.func73, Try.ntmps73
  go_wp2_with fail
  refine (isLang89 _ _ HS.out).mono ?_
  rintro e w' ⟨rfl, hb⟩
  go_wp2
  go_ret
  exact ⟨rfl, hb⟩
def wholeB (g : GV) : Bool := !(g.maj.isEmpty) && g.pat.isEmpty && g.kind.isEmpty
set_option maxRecDepth 100000 in
set_option maxHeartbeats 400000 in
theorem whole33 (g : GV) (w : World) : Calls Try.prog 33 #[gv g] w fun e w' => e = .returned (.bool (wholeB g)) ∧ Below w.heap.size w w' := by
  obtain ⟨M, m, p, k, q⟩ := g
  unfold gv
  cases h1 : M.isEmpty <;> cases h2 : p.isEmpty <;> cases h3 : k.isEmpty
  all_goals
    have HF : Hid (wholeB ⟨M, m, p, k, q⟩ = (!(M.isEmpty) && p.isEmpty && k.isEmpty)) := Lib.hid rfl
    first | have e1 : (M == []) = true := by (simpa using h1) | have e1 : (M == []) = false := by (simpa using h1)
    first | have e2 : (p == []) = true := by (simpa using h2) | have e2 : (p == []) = false := by (simpa using h2)
    first | have e3 : (k == []) = true := by (simpa using h3) | have e3 : (k == []) = false := by (simpa using h3)
    have H1 := Lib.hid h1
    have H2 := Lib.hid h2
    have H3 := Lib.hid h3
    go_enter Try.func33, Try.ntmps33
    go_wp2
    go_ret
    exact ⟨by rw [HF.out, H1.out, H2.out, H3.out]; rfl, (Below.refl _ _).alloc (Nat.le_refl _) _⟩
set_option maxRecDepth 100000 in
set_option maxHeartbeats 400000 in
theorem lang91 (l : Bytes) (w : World) (hs : l.length ≤ 1000) :
    Calls Try.prog 91 #[.string (bs l)] w fun e w' => e = .returned (.string (bs (lang (parse l)))) ∧ Below w.heap.size w w' := by
  have HS : Hid (l.length ≤ maxLen) := by show _ ≤ _; unfold maxLen; omega
  have hsd := parse_sound l
  have hlens : (parse l).maj.length ≤ 1000 ∧ (parse l).min.length ≤ 1000 := by
    rcases parse_parts l with h | h
    · rw [h]; simp [zero]
    · have := h.lens; omega
  obtain ⟨g, hg⟩ : ∃ g, parse l = g := ⟨_, rfl⟩
  rw [hg] at hsd hlens ⊢
  have HG := Lib.hid hg
  clear hg
  obtain ⟨M, m, p, k, q⟩ := g
  have hl1 : M.length ≤ 1000 := hlens.1
  have hl2 : m.length ≤ 1000 := hlens.2
  clear hlens
  have hadd1 := add_run_mk M #[46] (M ++ [46]) (by simp; omega) rfl
  have hadd2 := add_run (M ++ [46]) m (M ++ 46 :: m) (by simp; omega) (by simp)
  by_cases h0 : m = []
  · have hM : M = [] := by
      rcases hsd with h | h
      · have := congrArg GV.maj h; exact this
      · exact absurd h0 h.2
    subst h0 hM
    have HF : Hid (lang ⟨[], [], p, k, q⟩ = []) := Lib.hid (by simp [lang])
    clear hadd1 hadd2 hsd
    go_enter Try.func91, Try.ntmps91
    go_wp2_with fail
    refine (parse_any _ _ HS.out).mono ?_
    rintro e w1 ⟨rfl, hb⟩
    rw [HG.out]
    unfold gv
    have hz := hb.size
    go_wp2
    go_ret
    exact ⟨by rw [HF.out]; first | rfl | simp, hb.alloc hz _⟩
  have hM0 : M ≠ [] := by
    rcases hsd with h | h
    · have := congrArg GV.min h; exact absurd this h0
    · exact h.1
  have e0 : (m == []) = false := by simpa using h0
  have e0' : m.isEmpty = false := by simpa using h0
  by_cases h1 : M = [49]
  · subst h1
    by_cases h2 : m = [48]
    · subst h2
      have HF : Hid (lang ⟨[49], [48], p, k, q⟩ = [49]) := Lib.hid (by simp [lang])
      clear hadd1 hadd2 hsd hM0 h0
      go_enter Try.func91, Try.ntmps91
      go_wp2_with fail
      refine (parse_any _ _ HS.out).mono ?_
      rintro e w1 ⟨rfl, hb⟩
      rw [HG.out]
      unfold gv
      have hz := hb.size
      go_wp2
      go_ret
      exact ⟨by rw [HF.out]; first | rfl | simp, hb.alloc hz _⟩
    · have e2 : (m == [48]) = false := by simpa using h2
      have HF : Hid (lang ⟨[49], m, p, k, q⟩ = [49] ++ 46 :: m) := Lib.hid (by simp [lang, h2])
      clear h2 hsd hM0 h0
      go_enter Try.func91, Try.ntmps91
      go_wp2_with fail
      refine (parse_any _ _ HS.out).mono ?_
      rintro e w1 ⟨rfl, hb⟩
      rw [HG.out]
      unfold gv
      have hz := hb.size
      go_wp2
      go_ret
      exact ⟨by rw [HF.out]; rfl, hb.alloc hz _⟩
  · have e1 : (M == [49]) = false := by simpa using h1
    have HF : Hid (lang ⟨M, m, p, k, q⟩ = M ++ 46 :: m) := Lib.hid (by simp [lang, hM0, h1])
    clear h0 h1 hsd hM0
    go_enter Try.func91, Try.ntmps91
    go_wp2_with fail
    refine (parse_any _ _ HS.out).mono ?_
    rintro e w1 ⟨rfl, hb⟩
    rw [HG.out]
    unfold gv
    have hz := hb.size
    go_wp2
    go_ret
    exact ⟨by rw [HF.out]; first | rfl | simp, hb.alloc hz _⟩
theorem lang78 (l : Bytes) (w : World) (hs : l.length ≤ 1000) :
    Calls Try.prog 78 #[.string (bs l)] w fun e w' => e = .returned (.string (bs (lang (parse l)))) ∧ Below w.heap.size w w' := by
  have HS := Lib.hid hs
  go_enter Try.func78, Try.ntmps78
  go_wp2_with fail
  refine (lang91 _ _ HS.out).mono ?_
  rintro e w' ⟨rfl, hb⟩
  go_wp2
  go_ret
  exact ⟨rfl, hb⟩
set_option maxRecDepth 100000 in
set_option maxHeartbeats 400000 in
theorem mvalid_go (v : Bytes) (w : World) (hv : v.length ≤ maxLen) :
    Calls Try.prog 56 #[.string (bs tGo), .string (bs v)] w fun e w' => e = .returned (.bool (validB (parse v))) ∧ Below w.heap.size w w' := by
  have HV := Lib.hid hv
  clear hv
  unfold tGo
  go_enter Try.func56, Try.ntmps56
  go_wp2_with fail
  refine (isTool_any [103, 111] _).mono ?_
  rintro e w' ⟨rfl, rfl⟩
  rw [show virt [103, 111] = true from rfl]
  go_wp2_with fail
  refine (valid72 _ _ HV.out).mono ?_
  rintro e w' ⟨rfl, hb⟩
  go_wp2
  go_ret
  exact ⟨rfl, hb⟩
set_option maxRecDepth 100000 in
set_option maxHeartbeats 400000 in
theorem mvalid_tool (v : Bytes) (w : World) (hv : v.length ≤ maxLen) :
    Calls Try.prog 56 #[.string (bs tToolchain), .string (bs v)] w fun e w' => e = .returned (.bool (validB (parse (fromTool v)))) ∧ Below w.heap.size w w' := by
  have HV : Hid (v.length ≤ maxLen) := by show _ ≤ _; unfold maxLen at *; omega
  have HV2 : Hid ((fromTool v).length ≤ maxLen) := Nat.le_trans (fromTool_len v) hv
  clear hv
  unfold tToolchain
  go_enter Try.func56, Try.ntmps56
  go_wp2_with fail
  refine (isTool_any [116, 111, 111, 108, 99, 104, 97, 105, 110] _).mono ?_
  rintro e w' ⟨rfl, rfl⟩
  rw [show virt [116, 111, 111, 108, 99, 104, 97, 105, 110] = true from rfl]
  go_wp2_with fail
  refine (from51 _ _ HV.out).mono ?_
  rintro e w1 ⟨rfl, hb⟩
  have HB := Lib.hid hb
  clear hb
  go_wp2_with fail
  refine (valid72 _ _ HV2.out).mono ?_
  rintro e w2 ⟨rfl, hb2⟩
  have HB2 := Lib.hid (below_next HB.out hb2)
  clear hb2
  go_wp2
  go_ret
  exact ⟨rfl, HB2.out⟩
theorem mvalid_outer {path v : Bytes} {w : World} {r : Value} (h : Calls Try.prog 56 #[.string (bs path), .string (bs v)] w fun e w' => e = .returned r ∧ Below w.heap.size w w') :
    Calls Try.prog 35 #[.string (bs path), .string (bs v)] w fun e w' => e = .returned r ∧ Below w.heap.size w w' := by
  have H := Lib.hid h
  clear h
  go_enter Try.func35, Try.ntmps35
  go_wp2_with fail
  refine H.out.mono ?_
  rintro e w' ⟨rfl, hb⟩
  go_wp2
  go_ret
  exact ⟨rfl, hb⟩
theorem mvalid_virt (path v : Bytes) (w : World) (hv : v.length ≤ maxLen) (hp : virt path = true) :
    Calls Try.prog 35 #[.string (bs path), .string (bs v)] w fun e w' => e = .returned (.bool (validB (parse (verOf path v)))) ∧ Below w.heap.size w w' := by
  rcases virt_cases hp with rfl | rfl
  · rw [verOf_go]; exact mvalid_outer (mvalid_go v w hv)
  · rw [verOf_tool]; exact mvalid_outer (mvalid_tool v w hv)
set_option maxRecDepth 100000 in
set_option maxHeartbeats 400000 in
theorem mprefix_go (v : Bytes) (w : World) (hv : v.length ≤ maxLen) :
    Calls Try.prog 52 #[.string (bs tGo), .string (bs v)] w fun e w' => e = .returned (.bool (isLangB (parse v))) ∧ Below w.heap.size w w' := by
  have HV := Lib.hid hv
  clear hv
  unfold tGo
  go_enter Try.func52, Try.ntmps52
  go_wp2_with fail
  refine (isTool_any [103, 111] _).mono ?_
  rintro e w' ⟨rfl, rfl⟩
  rw [show virt [103, 111] = true from rfl]
  go_wp2_with fail
  refine (isLang73 _ _ HV.out).mono ?_
  rintro e w' ⟨rfl, hb⟩
  go_wp2
  go_ret
  exact ⟨rfl, hb⟩
set_option maxRecDepth 100000 in
set_option maxHeartbeats 400000 in
theorem mprefix_tool (v : Bytes) (w : World) (hv : v.length ≤ maxLen) :
    Calls Try.prog 52 #[.string (bs tToolchain), .string (bs v)] w fun e w' => e = .returned (.bool (isLangB (parse (fromTool v)))) ∧ Below w.heap.size w w' := by
  have HV : Hid (v.length ≤ maxLen) := by show _ ≤ _; unfold maxLen at *; omega
  have HV2 : Hid ((fromTool v).length ≤ maxLen) := Nat.le_trans (fromTool_len v) hv
  clear hv
  unfold tToolchain
  go_enter Try.func52, Try.ntmps52
  go_wp2_with fail
  refine (isTool_any [116, 111, 111, 108, 99, 104, 97, 105, 110] _).mono ?_
  rintro e w' ⟨rfl, rfl⟩
  rw [show virt [116, 111, 111, 108, 99, 104, 97, 105, 110] = true from rfl]
  go_wp2_with fail
  refine (from51 _ _ HV.out).mono ?_
  rintro e w1 ⟨rfl, hb⟩
  have HB := Lib.hid hb
  clear hb
  go_wp2_with fail
  refine (isLang73 _ _ HV2.out).mono ?_
  rintro e w2 ⟨rfl, hb2⟩
  have HB2 := Lib.hid (below_next HB.out hb2)
  clear hb2
  go_wp2
  go_ret
  exact ⟨rfl, HB2.out⟩
theorem mprefix_outer {path v : Bytes} {w : World} {r : Value} (h : Calls Try.prog 52 #[.string (bs path), .string (bs v)] w fun e w' => e = .returned r ∧ Below w.heap.size w w') :
    Calls Try.prog 32 #[.string (bs path), .string (bs v)] w fun e w' => e = .returned r ∧ Below w.heap.size w w' := by
  have H := Lib.hid h
  clear h
  go_enter Try.func32, Try.ntmps32
  go_wp2_with fail
  refine H.out.mono ?_
  rintro e w' ⟨rfl, hb⟩
  go_wp2
  go_ret
  exact ⟨rfl, hb⟩
theorem mprefix_virt (path v : Bytes) (w : World) (hv : v.length ≤ maxLen) (hp : virt path = true) :
    Calls Try.prog 32 #[.string (bs path), .string (bs v)] w fun e w' => e = .returned (.bool (isLangB (parse (verOf path v)))) ∧ Below w.heap.size w w' := by
  rcases virt_cases hp with rfl | rfl
  · rw [verOf_go]; exact mprefix_outer (mprefix_go v w hv)
  · rw [verOf_tool]; exact mprefix_outer (mprefix_tool v w hv)
set_option maxRecDepth 100000 in
set_option maxHeartbeats 400000 in
theorem mpre_go (v : Bytes) (w : World) (hv : v.length ≤ maxLen) :
    Calls Try.prog 57 #[.string (bs tGo), .string (bs v)] w fun e w' => e = .returned (.bool (!((parse v).kind == []))) ∧ Below w.heap.size w w' := by
  have HV := Lib.hid hv
  clear hv
  unfold tGo
  go_enter Try.func57, Try.ntmps57
  go_wp2_with fail
  refine (isTool_any [103, 111] _).mono ?_
  rintro e w' ⟨rfl, rfl⟩
  rw [show virt [103, 111] = true from rfl]
  go_wp2_with fail
  refine (isPre49 _ _ HV.out).mono ?_
  rintro e w' ⟨rfl, hb⟩
  go_wp2
  go_ret
  exact ⟨by simp, hb⟩
set_option maxRecDepth 100000 in
set_option maxHeartbeats 400000 in
theorem mpre_tool (v : Bytes) (w : World) (hv : v.length ≤ maxLen) :
    Calls Try.prog 57 #[.string (bs tToolchain), .string (bs v)] w fun e w' => e = .returned (.bool (!((parse (fromTool v)).kind == []))) ∧ Below w.heap.size w w' := by
  have HV : Hid (v.length ≤ maxLen) := by show _ ≤ _; unfold maxLen at *; omega
  have HV2 : Hid ((fromTool v).length ≤ maxLen) := Nat.le_trans (fromTool_len v) hv
  clear hv
  unfold tToolchain
  go_enter Try.func57, Try.ntmps57
  go_wp2_with fail
  refine (isTool_any [116, 111, 111, 108, 99, 104, 97, 105, 110] _).mono ?_
  rintro e w' ⟨rfl, rfl⟩
  rw [show virt [116, 111, 111, 108, 99, 104, 97, 105, 110] = true from rfl]
  go_wp2_with fail
  refine (from51 _ _ HV.out).mono ?_
  rintro e w1 ⟨rfl, hb⟩
  have HB := Lib.hid hb
  clear hb
  go_wp2_with fail
  refine (isPre49 _ _ HV2.out).mono ?_
  rintro e w2 ⟨rfl, hb2⟩
  have HB2 := Lib.hid (below_next HB.out hb2)
  clear hb2
  go_wp2
  go_ret
  exact ⟨by simp, HB2.out⟩
theorem mpre_outer {path v : Bytes} {w : World} {r : Value} (h : Calls Try.prog 57 #[.string (bs path), .string (bs v)] w fun e w' => e = .returned r ∧ Below w.heap.size w w') :
    Calls Try.prog 36 #[.string (bs path), .string (bs v)] w fun e w' => e = .returned r ∧ Below w.heap.size w w' := by
  have H := Lib.hid h
  clear h
  go_enter Try.func36, Try.ntmps36
  go_wp2_with fail
  refine H.out.mono ?_
  rintro e w' ⟨rfl, hb⟩
  go_wp2
  go_ret
  exact ⟨rfl, hb⟩
theorem mpre_virt (path v : Bytes) (w : World) (hv : v.length ≤ maxLen) (hp : virt path = true) :
    Calls Try.prog 36 #[.string (bs path), .string (bs v)] w fun e w' => e = .returned (.bool (!((parse (verOf path v)).kind == []))) ∧ Below w.heap.size w w' := by
  rcases virt_cases hp with rfl | rfl
  · rw [verOf_go]; exact mpre_outer (mpre_go v w hv)
  · rw [verOf_tool]; exact mpre_outer (mpre_tool v w hv)
theorem lang_len (l : Bytes) (h : l.length ≤ 1000) : (lang (parse l)).length ≤ 3000 := by
  have hlens : (parse l).maj.length ≤ 1000 ∧ (parse l).min.length ≤ 1000 := by
    rcases parse_parts l with h | h
    · rw [h]; simp [zero]
    · have := h.lens; omega
  unfold lang
  split
  · omega
  · simp; omega
set_option maxRecDepth 100000 in
set_option maxHeartbeats 400000 in
theorem mmm_go (v : Bytes) (w : World) (hv : v.length ≤ 1000) :
    Calls Try.prog 58 #[.string (bs tGo), .string (bs v)] w fun e w' => e = .returned (.string (bs (lang (parse v)))) ∧ Below w.heap.size w w' := by
  have HV := Lib.hid hv
  clear hv
  unfold tGo
  go_enter Try.func58, Try.ntmps58
  go_wp2_with fail
  refine (isTool_any [103, 111] _).mono ?_
  rintro e w' ⟨rfl, rfl⟩
  rw [show virt [103, 111] = true from rfl]
  go_wp2_with fail
  refine (lang78 _ _ HV.out).mono ?_
  rintro e w' ⟨rfl, hb⟩
  go_wp2
  go_ret
  exact ⟨rfl, hb⟩
set_option maxRecDepth 100000 in
set_option maxHeartbeats 400000 in
theorem mmm_tool (v : Bytes) (w : World) (hv : v.length ≤ 1000) :
    Calls Try.prog 58 #[.string (bs tToolchain), .string (bs v)] w fun e w' => e = .returned (.string (bs (103 :: 111 :: lang (parse (fromTool v))))) ∧ Below w.heap.size w w' := by
  have HV : Hid (v.length ≤ maxLen) := by show _ ≤ _; unfold maxLen at *; omega
  have HV2 : Hid ((fromTool v).length ≤ 1000) := Nat.le_trans (fromTool_len v) hv
  have hll : (lang (parse (fromTool v))).length ≤ 3000 := lang_len _ (Nat.le_trans (fromTool_len v) hv)
  have hadd := mk_add_run #[103, 111] (lang (parse (fromTool v))) (103 :: 111 :: lang (parse (fromTool v))) (by simp; omega) rfl
  generalize hL : lang (parse (fromTool v)) = L at *
  have HLL := Lib.hid hL
  clear hv hL
  unfold tToolchain
  go_enter Try.func58, Try.ntmps58
  go_wp2_with fail
  refine (isTool_any [116, 111, 111, 108, 99, 104, 97, 105, 110] _).mono ?_
  rintro e w' ⟨rfl, rfl⟩
  rw [show virt [116, 111, 111, 108, 99, 104, 97, 105, 110] = true from rfl]
  go_wp2_with fail
  refine (from51 _ _ HV.out).mono ?_
  rintro e w1 ⟨rfl, hb⟩
  have HB := Lib.hid hb
  clear hb
  go_wp2_with fail
  refine (lang78 _ _ HV2.out).mono ?_
  rintro e w2 ⟨rfl, hb2⟩
  rw [HLL.out]
  have HB2 := Lib.hid (below_next HB.out hb2)
  clear hb2
  go_wp2
  go_ret
  exact ⟨rfl, HB2.out⟩
theorem mmm_outer {path v : Bytes} {w : World} {r : Value} (h : Calls Try.prog 58 #[.string (bs path), .string (bs v)] w fun e w' => e = .returned r ∧ Below w.heap.size w w') :
    Calls Try.prog 38 #[.string (bs path), .string (bs v)] w fun e w' => e = .returned r ∧ Below w.heap.size w w' := by
  have H := Lib.hid h
  clear h
  go_enter Try.func38, Try.ntmps38
  go_wp2_with fail
  refine H.out.mono ?_
  rintro e w' ⟨rfl, hb⟩
  go_wp2
  go_ret
  exact ⟨rfl, hb⟩
theorem mmm_virt (path v : Bytes) (w : World) (hv : v.length ≤ 1000) (hp : virt path = true) :
    Calls Try.prog 38 #[.string (bs path), .string (bs v)] w fun e w' => e = .returned (.string (bs (if path = tToolchain then 103 :: 111 :: lang (parse (verOf path v)) else lang (parse (verOf path v))))) ∧ Below w.heap.size w w' := by
  rcases virt_cases hp with rfl | rfl
  · rw [verOf_go, if_neg (by decide)]; exact mmm_outer (mmm_go v w hv)
  · rw [verOf_tool, if_pos rfl]; exact mmm_outer (mmm_tool v w hv)
end Go.Proofs.Ytdhibalpnccbiaa

namespace Go.Proofs.Ytdhibalpnccbiaa
open Go.RowKit
set_option linter.unusedVariables false
set_option maxRecDepth 100000 in
set_option maxHeartbeats 400000 in
theorem sem76 (v : Bytes) (w : World) (hv : v.length ≤ maxLen) :
    Calls Try.prog 76 #[.string (bs v)] w fun e w' => e = .returned (.bool (semP v).isSome) ∧ Below w.heap.size w w' := by
  have HV := Lib.hid hv
  clear hv
  cases h : semP v with
  | none =>
    have H := Lib.hid h
    clear h
    go_enter Try.func76, Try.ntmps76
    go_wp2_with fail
    refine (sem_no _ HV.out H.out).mono ?_
    rintro e w1 ⟨⟨S, rfl⟩, hb⟩
    unfold sgv
    have hz := hb.size
    go_wp2
    go_ret
    exact ⟨rfl, hb.alloc hz _⟩
  | some S =>
    have H := Lib.hid h
    clear h
    go_enter Try.func76, Try.ntmps76
    go_wp2_with fail
    refine (sem_ok _ HV.out H.out).mono ?_
    rintro e w1 ⟨rfl, hb⟩
    unfold sgv
    have hz := hb.size
    go_wp2
    go_ret
    exact ⟨rfl, hb.alloc hz _⟩
def preOf (v : Bytes) : Bytes := match semP v with
  | none => []
  | some S => S.pre
set_option maxRecDepth 100000 in
set_option maxHeartbeats 400000 in
theorem pre77 (v : Bytes) (w : World) (hv : v.length ≤ maxLen) :
    Calls Try.prog 77 #[.string (bs v)] w fun e w' => e = .returned (.string (bs (preOf v))) ∧ Below w.heap.size w w' := by
  have HV := Lib.hid hv
  clear hv
  cases h : semP v with
  | none =>
    have H := Lib.hid h
    have HF : Hid (preOf v = []) := Lib.hid (by unfold preOf; rw [h])
    clear h
    go_enter Try.func77, Try.ntmps77
    go_wp2_with fail
    refine (sem_no _ HV.out H.out).mono ?_
    rintro e w1 ⟨⟨S, rfl⟩, hb⟩
    unfold sgv
    have hz := hb.size
    go_wp2
    go_ret
    exact ⟨by rw [HF.out]; rfl, hb.alloc hz _⟩
  | some S =>
    have H := Lib.hid h
    have HF : Hid (preOf v = S.pre) := Lib.hid (by unfold preOf; rw [h])
    clear h
    go_enter Try.func77, Try.ntmps77
    go_wp2_with fail
    refine (sem_ok _ HV.out H.out).mono ?_
    rintro e w1 ⟨rfl, hb⟩
    unfold sgv
    have hz := hb.size
    go_wp2
    go_ret
    exact ⟨by rw [HF.out]; rfl, hb.alloc hz _⟩
theorem otherT (path : Bytes) (h : virt path = false) (w : World) : Calls Try.prog 47 #[.string (bs path)] w fun e w' => e = .returned (.bool false) ∧ w = w' := by
  have := isTool_any path w
  rw [h] at this
  exact this
set_option maxRecDepth 100000 in
set_option maxHeartbeats 400000 in
theorem mvalid_other (path v : Bytes) (w : World) (hv : v.length ≤ maxLen) (hp : virt path = false) :
    Calls Try.prog 35 #[.string (bs path), .string (bs v)] w fun e w' => e = .returned (.bool (semP v).isSome) ∧ Below w.heap.size w w' := by
  refine mvalid_outer ?_
  have HV := Lib.hid hv
  have HP := Lib.hid hp
  clear hv hp
  go_enter Try.func56, Try.ntmps56
  go_wp2_with fail
  refine (otherT path HP.out _).mono ?_
  rintro e w' ⟨rfl, rfl⟩
  go_wp2_with fail
  refine (sem76 _ _ HV.out).mono ?_
  rintro e w' ⟨rfl, hb⟩
  go_wp2
  go_ret
  exact ⟨rfl, hb⟩
set_option maxRecDepth 100000 in
set_option maxHeartbeats 400000 in
theorem mpre_other (path v : Bytes) (w : World) (hv : v.length ≤ maxLen) (hp : virt path = false) :
    Calls Try.prog 36 #[.string (bs path), .string (bs v)] w fun e w' => e = .returned (.bool (!(preOf v).isEmpty)) ∧ Below w.heap.size w w' := by
  refine mpre_outer ?_
  have HV := Lib.hid hv
  have HP := Lib.hid hp
  clear hv hp
  go_enter Try.func57, Try.ntmps57
  go_wp2_with fail
  refine (otherT path HP.out _).mono ?_
  rintro e w' ⟨rfl, rfl⟩
  go_wp2_with fail
  refine (pre77 _ _ HV.out).mono ?_
  rintro e w' ⟨rfl, hb⟩
  go_wp2
  go_ret
  exact ⟨by simp, hb⟩
def mmOf (v : Bytes) : Bytes := match semP v with
  | none => []
  | some S => 118 :: (S.maj ++ 46 :: S.min)
set_option maxRecDepth 100000 in
set_option maxHeartbeats 1000000 in
theorem mm79_no (v : Bytes) (w : World) (hv : v.length ≤ maxLen) (h : semP v = none) :
    Calls Try.prog 79 #[.string (bs v)] w fun e w' => e = .returned (.string (bs [])) ∧ Below w.heap.size w w' := by
  have HV := Lib.hid hv
  have H := Lib.hid h
  clear h
  go_enter Try.func79, Try.ntmps79
  go_wp2_with fail
  refine (sem_no _ HV.out H.out).mono ?_
  rintro e w1 ⟨⟨S, rfl⟩, hb⟩
  unfold sgv
  have hz := hb.size
  go_wp2
  go_ret
  exact ⟨rfl, hb.alloc hz _⟩
set_option maxRecDepth 100000 in
set_option maxHeartbeats 1000000 in
theorem mm79_1 (M p s q u : Bytes) (w : World) (hv : M.length ≤ 1000) (h : semP (118 :: M) = some ⟨M, [48], p, s, q, u⟩) :
    Calls Try.prog 79 #[.string (bs (118 :: M))] w fun e w' => e = .returned (.string (bs (118 :: (M ++ [46, 48])))) ∧ Below w.heap.size w w' := by
  have HV : Hid ((118 :: M : Bytes).length ≤ maxLen) := by show _ ≤ _; unfold maxLen; simp; omega
  have H := Lib.hid h
  clear h
  have hadd1 := add_run_mk (118 :: M) #[46] (118 :: (M ++ [46])) (by simp; omega) rfl
  have hadd2 := add_run (118 :: (M ++ [46])) [48] (118 :: (M ++ [46, 48])) (by simp; omega) (by simp)
  go_enter Try.func79, Try.ntmps79
  go_wp2_with fail
  refine (sem_ok _ HV.out H.out).mono ?_
  rintro e w1 ⟨rfl, hb⟩
  unfold sgv
  have hz := hb.size
  have hz2 : w1.heap.size < (w1.alloc (.cells #[.string (bs M), .string (bs [48]), .string (bs p), .string (bs s), .string (bs q), .string (bs u)] 75)).heap.size := by simp
  go_wp2
  have hno : decide (1 + (M.length : Int) + 1 ≤ (M.length : Int)) = false := by simp; omega
  go_quiet (fail)
  go_wp2
  go_quiet (fail)
  go_wp2
  go_ret
  refine ⟨ret_str (congrArg bs (by rw [Nat.add_comm, List.take_succ_cons, List.take_length]; rfl)), ?_⟩
  repeat' (first | exact Below.refl _ _ | exact hb | refine below_drewN ?_ _ | refine Below.drew ?_ | refine Below.alloc ?_ ?_ _ | refine Below.setCell ?_ ?_ _ | go_size)
set_option maxRecDepth 100000 in
set_option maxHeartbeats 1000000 in
theorem mm79_2 (v M m p s q u : Bytes) (w : World) (hv : v.length ≤ 1000) (h : semP v = some ⟨M, m, p, s, q, u⟩)
    (hle : 1 + M.length + 1 + m.length ≤ v.length) (hdot : bl v (1 + M.length) = 46) (hm : (v.drop (1 + M.length + 1)).take m.length = m) :
    Calls Try.prog 79 #[.string (bs v)] w fun e w' => e = .returned (.string (bs (v.take (1 + M.length + 1 + m.length)))) ∧ Below w.heap.size w w' := by
  have HV : Hid (v.length ≤ maxLen) := by show _ ≤ _; unfold maxLen; omega
  have H := Lib.hid h
  clear h
  have f1 : decide (1 + (M.length : Int) + 1 + (m.length : Int) ≤ (v.length : Int)) = true := by simp; omega
  have f2 : ((bl v (1 + M.length) : Int) == 46) = true := by simp; omega
  have f3 : ((v.drop (1 + M.length + 1)).take m.length == m) = true := by simpa using hm
  clear hm hdot
  go_enter Try.func79, Try.ntmps79
  go_wp2_with fail
  refine (sem_ok _ HV.out H.out).mono ?_
  rintro e w1 ⟨rfl, hb⟩
  unfold sgv
  have hz := hb.size
  go_wp2
  go_quiet (fail)
  go_wp2
  go_ret
  refine ⟨rfl, ?_⟩
  repeat' (first | exact Below.refl _ _ | exact hb | refine below_drewN ?_ _ | refine Below.drew ?_ | refine Below.alloc ?_ ?_ _ | refine Below.setCell ?_ ?_ _ | go_size)
theorem drop_pre (a : Bytes) (c : UInt8) (m z : Bytes) : (118 :: (a ++ c :: (m ++ z))).drop (1 + a.length + 1) = m ++ z := by
  rw [show 1 + a.length + 1 = (a.length + 1) + 1 by omega, List.drop_succ_cons, List.drop_append]
  simp
theorem take_pre (a : Bytes) (c : UInt8) (m z : Bytes) : (118 :: (a ++ c :: (m ++ z))).take (1 + a.length + 1 + m.length) = 118 :: (a ++ c :: m) := by
  have e : 118 :: (a ++ c :: (m ++ z)) = (118 :: (a ++ c :: m)) ++ z := by simp
  rw [e, List.take_left']
  simp; omega
theorem bl_pre (a : Bytes) (c : UInt8) (m : Bytes) : bl (118 :: (a ++ c :: m)) (1 + a.length) = c.toNat := by
  rw [Nat.add_comm, bl_succ]
  unfold bl
  rw [List.getElem?_append_right (Nat.le_refl _)]
  simp
theorem mm79 (v : Bytes) (w : World) (hv : v.length ≤ 1000) :
    Calls Try.prog 79 #[.string (bs v)] w fun e w' => e = .returned (.string (bs (mmOf v))) ∧ Below w.heap.size w w' := by
  cases h : semP v with
  | none =>
    have e : mmOf v = [] := by unfold mmOf; rw [h]
    rw [e]
    exact mm79_no v w (by unfold maxLen; omega) h
  | some S =>
    have e : mmOf v = 118 :: (S.maj ++ 46 :: S.min) := by unfold mmOf; rw [h]
    rw [e]
    rcases sem_shape h with ⟨M, hM, hv2, h1, h2, h3, h4, h5⟩ | ⟨M, m, hM, hm, hv2, h1, h2, h3, h4, h5⟩ | ⟨M, m, p, z, hM, hm, hp, hv2, h1, h2, h3, h4⟩
    · subst hv2
      obtain ⟨a, b, c, d, f, g⟩ := S
      simp only at h1 h2
      subst h1 h2
      exact mm79_1 _ c d f g w (by simp at hv; omega) h
    · obtain ⟨a, b, c, d, f, g⟩ := S
      simp only at h1 h2
      subst h1 h2
      have e2 : v = 118 :: (a ++ 46 :: (b ++ [])) := by rw [hv2]; simp
      have hk := take_pre a 46 b []
      rw [← e2] at hk
      rw [← hk]
      refine mm79_2 v a b c d f g w hv h ?_ ?_ ?_
      · rw [e2]; simp; omega
      · rw [e2]; exact bl_pre a 46 _
      · rw [e2, drop_pre]; simp
    · obtain ⟨a, b, c, d, f, g⟩ := S
      simp only at h1 h2
      subst h1 h2
      have e2 : v = 118 :: (a ++ 46 :: (b ++ (46 :: (p ++ z)))) := hv2
      have hk := take_pre a 46 b (46 :: (p ++ z))
      rw [← e2] at hk
      rw [← hk]
      refine mm79_2 v a b c d f g w hv h ?_ ?_ ?_
      · rw [e2]; simp; omega
      · rw [e2]; exact bl_pre a 46 _
      · rw [e2, drop_pre]; simp
set_option maxRecDepth 100000 in
set_option maxHeartbeats 400000 in
theorem mmm_other (path v : Bytes) (w : World) (hv : v.length ≤ 1000) (hp : virt path = false) :
    Calls Try.prog 38 #[.string (bs path), .string (bs v)] w fun e w' => e = .returned (.string (bs (mmOf v))) ∧ Below w.heap.size w w' := by
  refine mmm_outer ?_
  have HV := Lib.hid hv
  have HP := Lib.hid hp
  clear hv hp
  go_enter Try.func58, Try.ntmps58
  go_wp2_with fail
  refine (otherT path HP.out _).mono ?_
  rintro e w' ⟨rfl, rfl⟩
  go_wp2_with fail
  refine (mm79 _ _ HV.out).mono ?_
  rintro e w' ⟨rfl, hb⟩
  go_wp2
  go_ret
  exact ⟨rfl, hb⟩
set_option maxRecDepth 100000 in
set_option maxHeartbeats 1000000 in
theorem mprefix_other (path v : Bytes) (w : World) (hv : v.length ≤ maxLen) (hp : virt path = false) :
    Calls Try.prog 32 #[.string (bs path), .string (bs v)] w fun e w' => e = .returned (.bool (pfxB 0 v)) ∧ Below w.heap.size w w' := by
  refine mprefix_outer ?_
  unfold maxLen at hv
  have HP := Lib.hid hp
  clear hp
  go_enter Try.func52, Try.ntmps52
  go_wp2_with fail
  refine (otherT path HP.out _).mono ?_
  rintro e w' ⟨rfl, rfl⟩
  go_wp2
  go_loop [5, 6] (fun d i => ∃ k n : Nat, k ≤ v.length ∧ n ≤ 1 ∧ Hid (pfxB 0 v = pfxB n (v.drop k)) ∧ i = .int .i64 k ∧ d = .int .i64 n) (fun _ i => v.length - (intOf i).toNat)
  case atStart => exact ⟨0, 0, Nat.zero_le _, by omega, Lib.hid rfl, rfl, rfl⟩
  case round =>
    obtain ⟨k, n, hk, hn, HQ, rfl, rfl⟩ := hrel
    by_cases hlt : k < v.length
    · have hq := HQ.out
      rw [List.drop_eq_getElem_cons hlt] at hq
      have hbl := bl_get v k hlt
      by_cases h1 : bl v k = 45 ∨ bl v k = 43
      · have HF : Hid (pfxB 0 v = false) := by
          show _ = _
          rw [hq]; unfold pfxB; rw [if_pos (by omega)]
        clear hq hbl
        rcases h1 with h1 | h1
        · have e1 : ((bl v k : Int) == 45) = true := by simp; omega
          clear h1
          go_wp2
          go_ret
          exact ⟨by rw [HF.out]; rfl, Below.refl _ _⟩
        · have e1 : ((bl v k : Int) == 45) = false := by simp; omega
          have e2 : ((bl v k : Int) == 43) = true := by simp; omega
          clear h1
          go_wp2
          go_ret
          exact ⟨by rw [HF.out]; rfl, Below.refl _ _⟩
      · have e1 : ((bl v k : Int) == 45) = false := by simp; omega
        have e2 : ((bl v k : Int) == 43) = false := by simp; omega
        by_cases h2 : bl v k = 46
        · have e3 : ((bl v k : Int) == 46) = true := by simp; omega
          obtain rfl | rfl : n = 0 ∨ n = 1 := by omega
          · have HN : Hid (pfxB 0 v = pfxB 1 (v.drop (k + 1))) := by
              show _ = _
              rw [hq]; conv => lhs; unfold pfxB
              rw [if_neg (by omega), if_pos (by omega)]; rfl
            clear hq hbl h1 h2
            go_wp2
            go_round
            case rel => exact ⟨k + 1, 1, by omega, by omega, HN, by go_num, rfl⟩
            case measure => simp [intOf]; omega
          · have HF : Hid (pfxB 0 v = false) := by
              show _ = _
              rw [hq]; unfold pfxB; rw [if_neg (by omega), if_pos (by omega)]; rfl
            clear hq hbl h1 h2
            go_wp2
            go_ret
            exact ⟨by rw [HF.out]; rfl, Below.refl _ _⟩
        · have e3 : ((bl v k : Int) == 46) = false := by simp; omega
          have HN : Hid (pfxB 0 v = pfxB n (v.drop (k + 1))) := by
            show _ = _
            rw [hq]; conv => lhs; unfold pfxB
            rw [if_neg (by omega), if_neg (by omega)]
          clear hq hbl h1 h2
          go_wp2
          go_round
          case rel => exact ⟨k + 1, n, by omega, by omega, HN, by go_num, rfl⟩
          case measure => simp [intOf]; omega
    · have HF : Hid (pfxB 0 v = true) := by
        show _ = _
        rw [HQ.out, List.drop_eq_nil_of_le (by omega)]; unfold pfxB; rfl
      go_wp2
      go_ret
      exact ⟨by rw [HF.out]; rfl, Below.refl _ _⟩
end Go.Proofs.Ytdhibalpnccbiaa
