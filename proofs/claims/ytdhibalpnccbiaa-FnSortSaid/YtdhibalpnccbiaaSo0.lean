/- What the sort's functions lean on, whatever the world's own make: a row that is compared and exchanged, and blocks of the sort's own that stay. sort.insertionSort_func. -/
import Derived.Test.YtdhibalpnccbiaaBase
import Derived.RegionTactic
import Derived.Handy
import Derived.Below
import Derived.Shelf.Abstract
import Derived.Sort.WalkA
import Derived.Sort.WalkB3
import Derived.Deep.LoopGhost
namespace Go.Proofs.Ytdhibalpnccbiaa
open Go.RowKit Go.Sort
set_option linter.unusedVariables false
/-- The blocks from B on stay. -/
def Ext (B : Nat) (W W' : World) : Prop := W.heap.size ≤ W'.heap.size ∧ ∀ b i, B ≤ b → b < W.heap.size → W'.cell? ⟨b, i, none⟩ = W.cell? ⟨b, i, none⟩ ∧ W'.frozen? ⟨b, i, none⟩ = W.frozen? ⟨b, i, none⟩
theorem Ext.refl (B : Nat) (W : World) : Ext B W W := ⟨Nat.le_refl _, fun _ _ _ _ => ⟨rfl, rfl⟩⟩
theorem Ext.trans {B : Nat} {W W' W'' : World} (h : Ext B W W') (h' : Ext B W' W'') : Ext B W W'' :=
  ⟨Nat.le_trans h.1 h'.1, fun b i hb hl => by
    have h1 := h.2 b i hb hl
    have h2 := h'.2 b i hb (Nat.lt_of_lt_of_le hl h.1)
    exact ⟨h2.1.trans h1.1, h2.2.trans h1.2⟩⟩
theorem Ext.of_below {B : Nat} {W W' : World} (h : Below W.heap.size W W') : Ext B W W' :=
  ⟨h.size, fun b i _ hl => ⟨h.cell (p := ⟨b, i, none⟩) hl, h.frozen (p := ⟨b, i, none⟩) hl⟩⟩
theorem Ext.alloc {B : Nat} (W : World) (o : Obj) : Ext B W (W.alloc o) := Ext.of_below ((Below.refl _ _).alloc (Nat.le_refl _) _)
theorem Ext.drew {B : Nat} {W W' : World} (h : Ext B W W') : Ext B W W'.drew := h
theorem Ext.drewN {B : Nat} {W W' : World} (h : Ext B W W') (n : Nat) : Ext B W (W'.drewN n) := h
/-- What a sort leans on. -/
structure SEnv {α : Type} [Inhabited α] (lt : α → α → Bool) (n B g : Nat) (lb : Array Value) (sf : Nat) (sb : Array Value) (R : Array α → World → Prop) : Prop where
  low : ∀ d W, R d W → B ≤ W.heap.size
  less : ∀ d W (i j : Nat), R d W → d.size = n → i < n → j < n → Calls Try.prog g (#[.int .i64 i, .int .i64 j] ++ lb) W fun e w' => e = .returned (.bool (lt d[i]! d[j]!)) ∧ R d w' ∧ Ext B W w'
  swap : ∀ d W (i j : Nat), R d W → d.size = n → i < n → j < n → ∃ W', (callFunc sf (#[.int .i64 i, .int .i64 j] ++ sb)).run Try.prog W = .ok (.value (.tuple #[])) W' ∧ R (swp d i j) W' ∧ Ext B W W'
  alloc : ∀ d W o, R d W → R d (W.alloc o)
  drewN : ∀ d W k, R d W → R d (W.drewN k)
  put : ∀ d W a v, R d W → B ≤ a.block → R d (W.setCell a v)
  enters : ∀ args w, (callFunc g args).run Try.prog w = .ok (.enter g args) w
  fits : n ≤ 1000
/-- The pair of functions that is handed about. -/
def lsV (g : Nat) (lb : Array Value) (sf : Nat) (sb : Array Value) : Value := .agg #[.func (.func g) #[] lb, .func (.func sf) #[] sb]
/-- The pair's box lies in W at b. -/
def LBox (W : World) (b g : Nat) (lb : Array Value) (sf : Nat) (sb : Array Value) : Prop := W.cell? ⟨b, 0, none⟩ = some (.func (.func g) #[] lb) ∧ W.cell? ⟨b, 1, none⟩ = some (.func (.func sf) #[] sb)
theorem LBox.new (W : World) (g : Nat) (lb : Array Value) (sf : Nat) (sb : Array Value) (T : TypeId) : LBox (W.alloc (.cells #[.func (.func g) #[] lb, .func (.func sf) #[] sb] T)) W.heap.size g lb sf sb := by
  constructor <;> simp
theorem LBox.later {W W' : World} {B b g : Nat} {lb : Array Value} {sf : Nat} {sb : Array Value} (h : LBox W b g lb sf sb) (hB : B ≤ b) (he : Ext B W W') : LBox W' b g lb sf sb := by
  have hlt : b < W.heap.size := World.block_lt_of_cell? _ _ h.1
  exact ⟨(he.2 b 0 hB hlt).1.trans h.1, (he.2 b 1 hB hlt).1.trans h.2⟩
/-- All that is known of a world under way: the row, the box, and that the sort's blocks stand as they stood in W0. -/
structure At {α : Type} (R : Array α → World → Prop) (B b g : Nat) (lb : Array Value) (sf : Nat) (sb : Array Value) (W0 : World) (d : Array α) (W : World) : Prop where
  row : R d W
  ext : Ext B W0 W
  box : LBox W b g lb sf sb
section
variable {α : Type} [Inhabited α] {lt : α → α → Bool} {n B g : Nat} {lb : Array Value} {sf : Nat} {sb : Array Value} {R : Array α → World → Prop}
theorem At.new (E : SEnv lt n B g lb sf sb R) {d : Array α} {W : World} (h : R d W) (T : TypeId) : At R B W.heap.size g lb sf sb W d (W.alloc (.cells #[.func (.func g) #[] lb, .func (.func sf) #[] sb] T)) :=
  ⟨E.alloc _ _ _ h, Ext.alloc _ _, LBox.new _ _ _ _ _ _⟩
omit [Inhabited α] in
theorem At.step {b : Nat} {W0 W W' : World} {d d' : Array α} (h : At R B b g lb sf sb W0 d W) (hB : B ≤ b) (hr : R d' W') (he : Ext B W W') : At R B b g lb sf sb W0 d' W' :=
  ⟨hr, h.ext.trans he, h.box.later hB he⟩
theorem At.drewN (E : SEnv lt n B g lb sf sb R) {b : Nat} {W0 W : World} {d : Array α} (h : At R B b g lb sf sb W0 d W) (hB : B ≤ b) (k : Nat) : At R B b g lb sf sb W0 d (W.drewN k) :=
  h.step hB (E.drewN _ _ _ h.row) (Ext.refl _ _)
set_option maxHeartbeats 2000000 in
set_option maxRecDepth 100000 in
theorem ins_any (E : SEnv lt n B g lb sf sb R) (a b : Nat) (d : Array α) (W : World) (hR : R d W) (hd : d.size = n) (hab : a ≤ b) (hb : b ≤ n) :
    Calls Try.prog 117 #[.agg #[.func (.func g) #[] lb, .func (.func sf) #[] sb], .int .i64 a, .int .i64 b] W fun e w' => e = .returned (.tuple #[]) ∧ R (insertionSort lt d a b) w' ∧ Ext B W w' := by
  have hn := E.fits
  have eg := E.enters
  have hlow := E.low _ _ hR
  have HA := Lib.hid (At.new E hR 90)
  have HE := Lib.hid E
  have HLOW := Lib.hid hlow
  clear hR hlow
  go_enter Try.func117, Try.ntmps117
  go_wp2
  go_loopw [6] (fun vi wr => ∃ (i : Nat) (dk : Array α), vi = .int .i64 i ∧ a < i ∧ i ≤ b + 1 ∧ Hid (dk.size = n) ∧ Hid (At R B W.heap.size g lb sf sb W dk wr) ∧ Hid (insOuter lt a b i dk = insOuter lt a b (a + 1) d)) (fun vi _ => b + 1 - (intOf vi).toNat)
  case atStart => exact ⟨a + 1, d, by go_num, by omega, by omega, Lib.hid hd, HA, Lib.hid rfl⟩
  case round =>
    obtain ⟨i, dk, rfl, hai, hib, HS, HK, HO⟩ := hrel
    clear HA
    by_cases hlt : i < b
    · go_wp2
      go_loopw [7] (fun vj wr2 => ∃ (j : Nat) (dj : Array α), vj = .int .i64 j ∧ a ≤ j ∧ j ≤ i ∧ Hid (dj.size = n) ∧ Hid (At R B W.heap.size g lb sf sb W dj wr2) ∧ Hid (insInner lt a j dj = insInner lt a i dk)) (fun vj _ => (intOf vj).toNat)
      case atStart => exact ⟨i, dk, rfl, by omega, Nat.le_refl _, HS, HK, Lib.hid rfl⟩
      case round =>
        obtain ⟨j, dj, rfl, haj, hji, HSJ, HJ, HI⟩ := hrel
        clear HK HS
        obtain ⟨c0, c1⟩ := HJ.out.box
        by_cases hja : a < j
        · have hl := HE.out.less dj _ j (j - 1) HJ.out.row HSJ.out (by omega) (by omega)
          rw [show (((j - 1 : Nat) : Int)) = (j : Int) - 1 by omega] at hl
          cases hlv : lt dj[j]! dj[j - 1]! with
          | true =>
            rw [hlv] at hl
            have HLV := Lib.hid hlv
            have HL := Lib.hid hl
            clear hl hlv
            go_wp2_with fail
            refine HL.out.mono ?_
            rintro e w' ⟨rfl, hr, he⟩
            have HJ2 := Lib.hid (HJ.out.step (HLOW.out) hr he)
            obtain ⟨W2, hs, hr2, he2⟩ := HE.out.swap dj _ j (j - 1) hr HSJ.out (by omega) (by omega)
            rw [show (((j - 1 : Nat) : Int)) = (j : Int) - 1 by omega] at hs
            have HJ3 := Lib.hid (HJ2.out.step (HLOW.out) hr2 he2)
            have HS := Lib.hid hs
            clear hr he hr2 he2 hs c0 c1
            obtain ⟨c0, c1⟩ := HJ2.out.box
            go_wp2
            rw [HS.out, Oper.upon_value]
            go_wp2
            go_roundw
            case rel => exact ⟨j - 1, swp dj j (j - 1), by congr 1; omega, by omega, by omega, Lib.hid (by rw [size_swp]; exact HSJ.out), HJ3, Lib.hid (by rw [← insInner_go lt a j dj hja HLV.out]; exact HI.out)⟩
            case measure => simp [intOf]; omega
          | false =>
            rw [hlv] at hl
            have HLV := Lib.hid hlv
            have HL := Lib.hid hl
            clear hl hlv
            go_wp2_with fail
            refine HL.out.mono ?_
            rintro e w' ⟨rfl, hr, he⟩
            have HJ2 := Lib.hid (HJ.out.step (HLOW.out) hr he)
            clear hr he c0 c1
            go_wp2
            go_roundw
            case rel => exact ⟨i + 1, dj, by go_num, by omega, by omega, HSJ, HJ2, Lib.hid (by rw [← HO.out, insOuter_go lt a b i dk hlt, ← HI.out, insInner_stop lt a j dj (.inr HLV.out)])⟩
            case measure => simp [intOf]; omega
        · go_wp2
          go_roundw
          case rel => exact ⟨i + 1, dj, by go_num, by omega, by omega, HSJ, HJ, Lib.hid (by rw [← HO.out, insOuter_go lt a b i dk hlt, ← HI.out, insInner_stop lt a j dj (.inl (by omega))])⟩
          case measure => simp [intOf]; omega
    · go_wp2
      go_end0
      exact ⟨rfl, by unfold insertionSort; rw [← HO.out, insOuter_stop lt a b i dk hlt]; exact HK.out.row, HK.out.ext⟩
end
end Go.Proofs.Ytdhibalpnccbiaa
