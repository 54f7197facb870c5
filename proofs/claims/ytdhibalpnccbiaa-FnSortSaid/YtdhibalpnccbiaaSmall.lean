/- The small functions: short, IsToolchain, Virtual, and the comparison of numbers. -/
import Derived.Test.YtdhibalpnccbiaaBase
namespace Go.Proofs.Ytdhibalpnccbiaa
open Go.RowKit

def shortB (ss : List Bytes) : Bool := ss.all fun l => decide (l.length ≤ 80)
theorem shortB_take (ss : List Bytes) (k : Nat) (h : k < ss.length) : shortB (ss.take (k + 1)) = (shortB (ss.take k) && decide ((ss.getD k []).length ≤ 80)) := by
  unfold shortB
  rw [List.take_succ_eq_append_getElem h, List.all_append]
  simp [List.getD_eq_getElem?_getD, List.getElem?_eq_getElem h]
theorem shortB_false (ss : List Bytes) (k : Nat) (h : k < ss.length) (hl : 80 < (ss.getD k []).length) : shortB ss = false := by
  unfold shortB
  rw [List.all_eq_false]
  refine ⟨ss[k], List.getElem_mem h, ?_⟩
  rw [List.getD_eq_getElem?_getD, List.getElem?_eq_getElem h] at hl
  simp at hl ⊢
  omega
set_option maxHeartbeats 400000 in
theorem short_any (ss : List Bytes) (b : Nat) (w : World) (hn : ss.length ≤ 8) (hl : ∀ i, i < ss.length → (ss.getD i []).length ≤ maxLen)
    (hc : ∀ i, i < ss.length → w.cell? ⟨b, i, none⟩ = some (.string (bs (ss.getD i [])))) :
    Calls Try.prog 21 #[.slice (some ⟨b, 0, none⟩) ss.length ss.length] w fun e w' => e = .returned (.bool (shortB ss)) ∧ w = w' := by
  unfold maxLen at hl
  have HL := Lib.hid hl
  have HC := Lib.hid hc
  clear hl hc
  go_enter Try.func21, Try.ntmps21
  go_wp2
  go_loop [7] (fun i => ∃ k : Nat, k ≤ ss.length ∧ shortB (ss.take k) = true ∧ i = .int .i64 k) (fun i => ss.length - (intOf i).toNat)
  case atStart => exact ⟨0, Nat.zero_le _, rfl, rfl⟩
  case round =>
    obtain ⟨k, hk, hs, rfl⟩ := hrel
    by_cases hlt : k < ss.length
    · have hcell := HC.out k hlt
      have hlen := HL.out k hlt
      by_cases h80 : (ss.getD k []).length ≤ 80
      · have hs' : shortB (ss.take (k + 1)) = true := by rw [shortB_take ss k hlt, hs]; simpa using h80
        have HS := Lib.hid hs'
        clear hs hs'
        obtain ⟨x, hx⟩ : ∃ x, ss.getD k [] = x := ⟨_, rfl⟩
        rw [hx] at hcell hlen h80
        clear hx
        go_wp2
        go_round
        case rel => exact ⟨k + 1, by omega, HS.out, by go_num⟩
        case measure => simp [intOf]; omega
      · have HS := Lib.hid (shortB_false ss k hlt (by omega))
        clear hs
        obtain ⟨x, hx⟩ : ∃ x, ss.getD k [] = x := ⟨_, rfl⟩
        rw [hx] at hcell hlen h80
        clear hx
        go_wp2
        go_ret
        exact ⟨by rw [HS.out]; rfl, rfl⟩
    · have HS : Hid (shortB ss = true) := by
        have : k = ss.length := by omega
        subst this
        rwa [List.take_length] at hs
      clear hs
      go_wp2
      go_ret
      exact ⟨by rw [HS.out]; rfl, rfl⟩

theorem short1 (l : Bytes) (b : Nat) (w : World) (hl : l.length ≤ maxLen) (h0 : w.cell? ⟨b, 0, none⟩ = some (.string (bs l))) :
    Calls Try.prog 21 #[.slice (some ⟨b, 0, none⟩) 1 1] w fun e w' => e = .returned (.bool (shortB [l])) ∧ w = w' :=
  short_any [l] b w (by simp) (by intro i hi; match i, hi with | 0, _ => exact hl) (by intro i hi; match i, hi with | 0, _ => exact h0)
theorem short2 (l m : Bytes) (b : Nat) (w : World) (hl : l.length ≤ maxLen) (hm : m.length ≤ maxLen) (h0 : w.cell? ⟨b, 0, none⟩ = some (.string (bs l))) (h1 : w.cell? ⟨b, 1, none⟩ = some (.string (bs m))) :
    Calls Try.prog 21 #[.slice (some ⟨b, 0, none⟩) 2 2] w fun e w' => e = .returned (.bool (shortB [l, m])) ∧ w = w' :=
  short_any [l, m] b w (by simp) (by intro i hi; match i, hi with | 0, _ => exact hl | 1, _ => exact hm) (by intro i hi; match i, hi with | 0, _ => exact h0 | 1, _ => exact h1)
theorem short3 (l m n : Bytes) (b : Nat) (w : World) (hl : l.length ≤ maxLen) (hm : m.length ≤ maxLen) (hn : n.length ≤ maxLen) (h0 : w.cell? ⟨b, 0, none⟩ = some (.string (bs l))) (h1 : w.cell? ⟨b, 1, none⟩ = some (.string (bs m))) (h2 : w.cell? ⟨b, 2, none⟩ = some (.string (bs n))) :
    Calls Try.prog 21 #[.slice (some ⟨b, 0, none⟩) 3 3] w fun e w' => e = .returned (.bool (shortB [l, m, n])) ∧ w = w' :=
  short_any [l, m, n] b w (by simp) (by intro i hi; match i, hi with | 0, _ => exact hl | 1, _ => exact hm | 2, _ => exact hn) (by intro i hi; match i, hi with | 0, _ => exact h0 | 1, _ => exact h1 | 2, _ => exact h2)
theorem short4 (l m n o : Bytes) (b : Nat) (w : World) (hl : l.length ≤ maxLen) (hm : m.length ≤ maxLen) (hn : n.length ≤ maxLen) (ho : o.length ≤ maxLen) (h0 : w.cell? ⟨b, 0, none⟩ = some (.string (bs l))) (h1 : w.cell? ⟨b, 1, none⟩ = some (.string (bs m))) (h2 : w.cell? ⟨b, 2, none⟩ = some (.string (bs n))) (h3 : w.cell? ⟨b, 3, none⟩ = some (.string (bs o))) :
    Calls Try.prog 21 #[.slice (some ⟨b, 0, none⟩) 4 4] w fun e w' => e = .returned (.bool (shortB [l, m, n, o])) ∧ w = w' :=
  short_any [l, m, n, o] b w (by simp) (by intro i hi; match i, hi with | 0, _ => exact hl | 1, _ => exact hm | 2, _ => exact hn | 3, _ => exact ho) (by intro i hi; match i, hi with | 0, _ => exact h0 | 1, _ => exact h1 | 2, _ => exact h2 | 3, _ => exact h3)

def tGo : Bytes := [103, 111]
def tToolchain : Bytes := [116, 111, 111, 108, 99, 104, 97, 105, 110]
def virt (l : Bytes) : Bool := l == tGo || l == tToolchain
theorem virt_any (l : Bytes) (w : World) : Calls Try.prog 23 #[.string (bs l)] w fun e w' => e = .returned (.bool (virt l)) ∧ w = w' := by
  go_enter Try.func23, Try.ntmps23
  go_wp2
  all_goals
    go_ret
    exact ⟨by simp_all [virt, tGo, tToolchain], rfl⟩
theorem isTool_any (l : Bytes) (w : World) : Calls Try.prog 47 #[.string (bs l)] w fun e w' => e = .returned (.bool (virt l)) ∧ w = w' := by
  go_enter Try.func47, Try.ntmps47
  go_wp2
  all_goals
    go_ret
    exact ⟨by simp_all [virt, tGo, tToolchain], rfl⟩
theorem implTool_any (l : Bytes) (w : World) : Calls Try.prog 22 #[.string (bs l)] w fun e w' => e = .returned (.bool (virt l)) ∧ w = w' := by
  go_enter Try.func22, Try.ntmps22
  go_wp2_with (go_at_call 47; refine (isTool_any _ _).mono ?_; rintro e w' ⟨rfl, rfl⟩)
  go_ret
  exact ⟨rfl, rfl⟩
theorem ret_int {k : IntKind} {a b : Int} (h : a = b) : Ending.returned (.int k a) = .returned (.int k b) := by rw [h]
theorem ret_bool {a b : Bool} (h : a = b) : Ending.returned (.bool a) = .returned (.bool b) := by rw [h]
theorem ret_str {a b : ByteArray} (h : a = b) : Ending.returned (.string a) = .returned (.string b) := by rw [h]
theorem cmpB_eq {a b : Bytes} (h : (a == b) = true) : 0 = cmpB a b := by
  simp at h; simp [cmpB, h]
theorem cmpB_lt {a b : Bytes} (h : (a == b) = false) (h1 : a.length < b.length) : -1 = cmpB a b := by
  simp at h; simp [cmpB, h, h1]
theorem cmpB_gt {a b : Bytes} (h : (a == b) = false) (h1 : b.length < a.length) : 1 = cmpB a b := by
  simp at h; simp [cmpB, h, h1, show ¬ a.length < b.length by omega]
theorem cmpB_less {a b : Bytes} (h : (a == b) = false) (h1 : a.length = b.length) (h2 : Op.bytesLess a b = true) : -1 = cmpB a b := by
  simp at h; simp [bytesLess_eq] at h2; simp [cmpB, h, h1, h2]
theorem cmpB_more {a b : Bytes} (h : (a == b) = false) (h1 : a.length = b.length) (h2 : Op.bytesLess a b = false) : 1 = cmpB a b := by
  simp at h; simp [bytesLess_eq] at h2; simp [cmpB, h, h1, h2]
theorem cmpB_cases (a b : Bytes) : ((a == b) = true) ∨ ((a == b) = false ∧ a.length < b.length) ∨ ((a == b) = false ∧ b.length < a.length) ∨ ((a == b) = false ∧ a.length = b.length ∧ Op.bytesLess a b = true) ∨ ((a == b) = false ∧ a.length = b.length ∧ Op.bytesLess a b = false) := by
  cases h : a == b
  · rcases Nat.lt_trichotomy a.length b.length with h1 | h1 | h1
    · exact .inr (.inl ⟨rfl, h1⟩)
    · cases h2 : Op.bytesLess a b
      · exact .inr (.inr (.inr (.inr ⟨rfl, h1, rfl⟩)))
      · exact .inr (.inr (.inr (.inl ⟨rfl, h1, rfl⟩)))
    · exact .inr (.inr (.inl ⟨rfl, h1⟩))
  · exact .inl rfl
theorem nums_any (a b : Bytes) (w : World) : Calls Try.prog 26 #[.string (bs a), .string (bs b)] w fun e w' => e = .returned (.int .i64 (cmpB a b)) ∧ w = w' := by
  rcases cmpB_cases a b with h | ⟨h, h1⟩ | ⟨h, h1⟩ | ⟨h, h1, h2⟩ | ⟨h, h1, h2⟩
  · have H := Lib.hid (cmpB_eq h)
    go_enter Try.func26, Try.ntmps26
    go_wp2
    go_ret
    exact ⟨ret_int H.out, rfl⟩
  · have H := Lib.hid (cmpB_lt h h1)
    go_enter Try.func26, Try.ntmps26
    go_wp2
    go_ret
    exact ⟨ret_int H.out, rfl⟩
  · have H := Lib.hid (cmpB_gt h h1)
    have h3 : ((a.length : Int) == b.length) = false := by simp; omega
    go_enter Try.func26, Try.ntmps26
    go_wp2
    go_ret
    exact ⟨ret_int H.out, rfl⟩
  · have H := Lib.hid (cmpB_less h h1 h2)
    have h3 : ((a.length : Int) == b.length) = true := by simp; omega
    have h4 : a.length ≤ b.length ∧ b.length ≤ a.length := by omega
    obtain ⟨h5, h6⟩ := h4
    clear h1
    go_enter Try.func26, Try.ntmps26
    go_wp2
    go_ret
    exact ⟨ret_int H.out, rfl⟩
  · have H := Lib.hid (cmpB_more h h1 h2)
    have h3 : ((a.length : Int) == b.length) = true := by simp; omega
    have h4 : a.length ≤ b.length ∧ b.length ≤ a.length := by omega
    obtain ⟨h5, h6⟩ := h4
    clear h1
    go_enter Try.func26, Try.ntmps26
    go_wp2
    go_ret
    exact ⟨ret_int H.out, rfl⟩
theorem cmpInt_any (a b : Bytes) (w : World) : Calls Try.prog 67 #[.string (bs a), .string (bs b)] w fun e w' => e = .returned (.int .i64 (cmpB a b)) ∧ w = w' := by
  go_enter Try.func67, Try.ntmps67
  go_wp2
  all_goals
    go_ret
    exact ⟨ret_int (by first | exact cmpB_eq ‹_› | exact cmpB_lt ‹_› (by omega) | exact cmpB_gt ‹_› (by omega) | exact cmpB_less ‹(a == b) = false› (by omega) ‹_› | exact cmpB_more ‹(a == b) = false› (by omega) ‹Op.bytesLess a b = false›), rfl⟩
theorem semInt_any (a b : Bytes) (w : World) : Calls Try.prog 93 #[.string (bs a), .string (bs b)] w fun e w' => e = .returned (.int .i64 (cmpB a b)) ∧ w = w' := by
  go_enter Try.func93, Try.ntmps93
  go_wp2
  all_goals
    go_ret
    exact ⟨ret_int (by first | exact cmpB_eq ‹_› | exact cmpB_lt ‹_› (by omega) | exact cmpB_gt ‹_› (by omega) | exact cmpB_less ‹(a == b) = false› (by omega) ‹_› | exact cmpB_more ‹(a == b) = false› (by omega) ‹Op.bytesLess a b = false›), rfl⟩
end Go.Proofs.Ytdhibalpnccbiaa
