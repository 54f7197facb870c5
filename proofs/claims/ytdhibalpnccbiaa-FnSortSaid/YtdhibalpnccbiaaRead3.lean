/- spec.Read, whole; the functions that ask gover.Parse alone. -/
import Derived.Test.YtdhibalpnccbiaaRead2
import Derived.Test.YtdhibalpnccbiaaParse3
import Derived.KernelRfl
namespace Go.Proofs.Ytdhibalpnccbiaa
open Go.RowKit
set_option linter.unusedVariables false

def rv (r : GV × Nat) : Value := .tuple #[gv r.1, .int .i64 (r.2 : Int)]
theorem read_any (l : Bytes) (w : World) (hs : l.length ≤ maxLen) :
    Calls Try.prog 24 #[.string (bs l)] w fun e w' => e = .returned (rv (read l)) ∧ Below w.heap.size w w' := by
  unfold read
  rcases h : cutI l with _ | ⟨M, _ | ⟨c, x⟩⟩
  · exact read_1 l w hs h
  · exact read_2 l M w hs h
  · by_cases hc : c = 46
    · subst hc
      simp only [if_true]
      unfold read2
      rcases h2 : cutI x with _ | ⟨m, _ | ⟨c2, y⟩⟩
      · exact read_4 l M x w hs h h2
      · by_cases hl : cmpB m [50, 49] < 0
        · simp only [if_pos hl]; exact read_5 l M x m w hs h h2 hl
        · simp only [if_neg hl]; exact read_6 l M x m w hs h h2 hl
      · by_cases hc2 : c2 = 46
        · subst hc2
          simp only [if_true]
          unfold read3
          rcases h3 : cutI y with _ | ⟨p, _ | ⟨d, z⟩⟩
          · exact read_7 l M x m y [] [] 0 w hs h h2 h3
          · exact read_8 l M x m y p [] 0 w hs h h2 h3
          · exact read_9 l M x m y p z d w hs h h2 h3
        · simp only [if_neg hc2]
          unfold read4
          have hY : 0 < (c2 :: y).length := by simp
          have hb := bl_head_ne (y := y) hc2
          generalize c2 :: y = Y at *
          rw [← take_tw, ← drop_tw]
          by_cases h4 : tw isL Y = 0
          · rw [if_pos (by rw [h4]; rfl)]
            exact read_k0 l M x m Y [] [] 0 w hs h h2 hY hb h4
          · have h4' : 0 < tw isL Y := by omega
            rw [if_neg (by intro e; have h7 := congrArg List.length e; rw [List.length_take, Nat.min_eq_left (tw_le isL Y)] at h7; exact h4 h7)]
            rcases word_cases (Y.take (tw isL Y)) with ⟨hW, hn⟩ | ⟨hW, hn⟩
            · by_cases h5 : Y.drop (tw isL Y) = []
              · rw [if_pos (.inr h5)]; exact read_kz l M x m Y [] [] 0 w hs h h2 hY hb h4' hW h5
              · rw [if_neg (fun hh => hh.elim hn h5)]
                have h5' : 0 < (Y.drop (tw isL Y)).length := List.length_pos_iff.2 h5
                rcases h6 : cutI (Y.drop (tw isL Y)) with _ | ⟨p, _ | ⟨d, z⟩⟩
                · exact read_kn l M x m Y [] [] 0 w hs h h2 hY hb h4' hW h5' h6
                · exact read_ks l M x m Y p [] 0 w hs h h2 hY hb h4' hW h5' h6
                · exact read_kd l M x m Y p z d w hs h h2 hY hb h4' hW h5' h6
            · rw [if_pos (.inl hn)]; exact read_ko l M x m Y [] [] 0 w hs h h2 hY hb h4' hW
    · simp only [if_neg hc]; exact read_3 l M x c w hs h hc

@[go_sem] theorem field69_0 (a b c d e : ByteArray) (w : World) : (Instr.field 69 (.agg #[.string a, .string b, .string c, .string d, .string e]) 0).run Try.prog w = .ok (.string a) w := by kernel_rfl
@[go_sem] theorem field69_1 (a b c d e : ByteArray) (w : World) : (Instr.field 69 (.agg #[.string a, .string b, .string c, .string d, .string e]) 1).run Try.prog w = .ok (.string b) w := by kernel_rfl
@[go_sem] theorem field69_2 (a b c d e : ByteArray) (w : World) : (Instr.field 69 (.agg #[.string a, .string b, .string c, .string d, .string e]) 2).run Try.prog w = .ok (.string c) w := by kernel_rfl
@[go_sem] theorem field69_3 (a b c d e : ByteArray) (w : World) : (Instr.field 69 (.agg #[.string a, .string b, .string c, .string d, .string e]) 3).run Try.prog w = .ok (.string d) w := by kernel_rfl
@[go_sem] theorem field69_4 (a b c d e : ByteArray) (w : World) : (Instr.field 69 (.agg #[.string a, .string b, .string c, .string d, .string e]) 4).run Try.prog w = .ok (.string e) w := by kernel_rfl
@[go_sem] theorem field25_0 (a b c d e : ByteArray) (w : World) : (Instr.field 25 (.agg #[.string a, .string b, .string c, .string d, .string e]) 0).run Try.prog w = .ok (.string a) w := by kernel_rfl
@[go_sem] theorem field25_1 (a b c d e : ByteArray) (w : World) : (Instr.field 25 (.agg #[.string a, .string b, .string c, .string d, .string e]) 1).run Try.prog w = .ok (.string b) w := by kernel_rfl
@[go_sem] theorem field25_2 (a b c d e : ByteArray) (w : World) : (Instr.field 25 (.agg #[.string a, .string b, .string c, .string d, .string e]) 2).run Try.prog w = .ok (.string c) w := by kernel_rfl
@[go_sem] theorem field25_3 (a b c d e : ByteArray) (w : World) : (Instr.field 25 (.agg #[.string a, .string b, .string c, .string d, .string e]) 3).run Try.prog w = .ok (.string d) w := by kernel_rfl
@[go_sem] theorem field25_4 (a b c d e : ByteArray) (w : World) : (Instr.field 25 (.agg #[.string a, .string b, .string c, .string d, .string e]) 4).run Try.prog w = .ok (.string e) w := by kernel_rfl
/-! The contract of Parse, by what the caller asks of it. -/
set_option maxRecDepth 100000 in
set_option maxHeartbeats 400000 in
theorem isPre49 (l : Bytes) (w : World) (hs : l.length ≤ maxLen) :
    Calls Try.prog 49 #[.string (bs l)] w fun e w' => e = .returned (.bool (!((parse l).kind == []))) ∧ Below w.heap.size w w' := by
  have HS := Lib.hid hs
  unfold maxLen at hs
  go_enter Try.func49, Try.ntmps49
  go_wp2_with fail
  refine (parse_any _ _ HS.out).mono ?_
  rintro e w' ⟨rfl, hb⟩
  obtain ⟨g, hg⟩ : ∃ g, parse l = g := ⟨_, rfl⟩
  rw [hg]
  have HG := Lib.hid hg
  clear hg
  unfold gv
  go_wp2
  go_ret
  exact ⟨by rw [HG.out]; simp, hb⟩
end Go.Proofs.Ytdhibalpnccbiaa
