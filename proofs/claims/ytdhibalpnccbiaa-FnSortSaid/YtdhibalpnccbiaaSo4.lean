/- sort.siftDown_func, sort.heapSort_func. -/
import Derived.Test.YtdhibalpnccbiaaSo0
import Derived.Sort.WalkA6
import Derived.LoopN
import Derived.Sort.WalkC
import Derived.Sort.WalkC4
namespace Go.Proofs.Ytdhibalpnccbiaa
open Go.RowKit Go.Sort
set_option linter.unusedVariables false
section
variable {α : Type} [Inhabited α] {lt : α → α → Bool} {n B g : Nat} {lb : Array Value} {sf : Nat} {sb : Array Value} {R : Array α → World → Prop}
set_option maxHeartbeats 4000000 in
set_option maxRecDepth 100000 in
theorem sift_any (E : SEnv lt n B g lb sf sb R) (lo hi first : Nat) (d : Array α) (W : World) (hR : R d W) (hd : d.size = n) (hlo : lo ≤ hi) (hb : first + hi ≤ n) :
    Calls Try.prog 128 #[.agg #[.func (.func g) #[] lb, .func (.func sf) #[] sb], .int .i64 lo, .int .i64 hi, .int .i64 first] W fun e w' => e = .returned (.tuple #[]) ∧ R (siftDown lt hi first lo d) w' ∧ Ext B W w' := by
  have hn := E.fits
  have eg := E.enters
  have hlow := E.low _ _ hR
  have HA := Lib.hid (At.new E hR 90)
  have HE := Lib.hid E
  have HLOW := Lib.hid hlow
  clear hR hlow
  have HSZ0 := Lib.hid hd
  clear hd
  go_enter Try.func128, Try.ntmps128
  go_wp2
  go_loopw [8] (fun s8 wr => ∃ (root : Nat) (dk : Array α), s8 = .int .i64 root ∧ root ≤ hi ∧ 0 ≤ root ∧ Hid (dk.size = n) ∧ Hid (At R B W.heap.size g lb sf sb W dk wr) ∧ Hid (siftDown lt hi first root dk = siftDown lt hi first lo d)) (fun s8 _ => hi - (intOf s8).toNat)
  case atStart => exact ⟨lo, d, rfl, hlo, Nat.zero_le _, HSZ0, HA, Lib.hid rfl⟩
  case round =>
    obtain ⟨root, dk, rfl, hr, _, HSZ, HK, HEQ⟩ := hrel
    clear HA HSZ0
    obtain ⟨c0, c1⟩ := HK.out.box
    by_cases h0 : hi ≤ 2 * root + 1
    · have h0z : (hi : Int) ≤ 2 * (root : Int) + 1 := by omega
      go_wp2
      go_end0
      exact ⟨rfl, by rw [← HEQ.out, sd_end lt dk h0]; exact HK.out.row, HK.out.ext⟩
    · have h0z : ¬ ((hi : Int) ≤ 2 * (root : Int) + 1) := by omega
      by_cases h1 : 2 * root + 2 < hi
      · have h1z : 2 * (root : Int) + 1 + 1 < (hi : Int) := by omega
        cases hL : lt dk[first + (2 * root + 1)]! dk[first + (2 * root + 2)]! with
        | true =>
          have HLL := Lib.hid hL
          clear hL
          have hl := HE.out.less dk _ (first + (2 * root + 1)) (first + (2 * root + 2)) HK.out.row HSZ.out (by omega) (by omega)
          rw [show (((first + (2 * root + 1)) : Nat) : Int) = (first : Int) + (2 * (root : Int) + 1) by omega, show (((first + (2 * root + 2)) : Nat) : Int) = (first : Int) + (2 * (root : Int) + 1) + 1 by omega, HLL.out] at hl
          have HL := Lib.hid hl
          clear hl
          go_wp2_with fail
          refine HL.out.mono ?_
          rintro e w' ⟨rfl, hr, he⟩
          have HKX := Lib.hid (HK.out.step HLOW.out hr he)
          clear hr he HL c0 c1 HK
          obtain ⟨c0, c1⟩ := HKX.out.box
          cases hG : lt dk[first + root]! dk[first + (2 * root + 2)]! with
          | true =>
            have HG := Lib.hid hG
            clear hG
            have hl := HE.out.less dk _ (first + root) (first + (2 * root + 2)) HKX.out.row HSZ.out (by omega) (by omega)
            rw [show (((first + root) : Nat) : Int) = (first : Int) + (root : Int) by omega, show (((first + (2 * root + 2)) : Nat) : Int) = (first : Int) + (2 * (root : Int) + 1 + 1) by omega, HG.out] at hl
            have HL := Lib.hid hl
            clear hl
            go_wp2_with fail
            refine HL.out.mono ?_
            rintro e w' ⟨rfl, hr, he⟩
            have HK2 := Lib.hid (HKX.out.step HLOW.out hr he)
            clear hr he HL c0 c1 HKX
            obtain ⟨c0, c1⟩ := HK2.out.box
            obtain ⟨W2, hs, hr2, he2⟩ := HE.out.swap dk _ (first + root) (first + (2 * root + 2)) HK2.out.row HSZ.out (by omega) (by omega)
            rw [show (((first + root) : Nat) : Int) = (first : Int) + (root : Int) by omega, show (((first + (2 * root + 2)) : Nat) : Int) = (first : Int) + (2 * (root : Int) + 1 + 1) by omega] at hs
            have HK3 := Lib.hid (HK2.out.step HLOW.out hr2 he2)
            have HSW := Lib.hid hs
            clear hr2 he2 hs
            go_wp2
            rw [HSW.out, Oper.upon_value]
            clear HSW c0 c1 HK2
            obtain ⟨c0, c1⟩ := HK3.out.box
            go_wp2
            go_roundw
            case rel => exact ⟨2 * root + 2, swp dk (first + root) (first + (2 * root + 2)), by go_num, by omega, by omega, Lib.hid (by rw [size_swp]; exact HSZ.out), HK3, Lib.hid (by rw [← HEQ.out, sd_right_go lt dk h1 HLL.out HG.out])⟩
            case measure => simp [intOf]; omega
          | false =>
            have HG := Lib.hid hG
            clear hG
            have hl := HE.out.less dk _ (first + root) (first + (2 * root + 2)) HKX.out.row HSZ.out (by omega) (by omega)
            rw [show (((first + root) : Nat) : Int) = (first : Int) + (root : Int) by omega, show (((first + (2 * root + 2)) : Nat) : Int) = (first : Int) + (2 * (root : Int) + 1 + 1) by omega, HG.out] at hl
            have HL := Lib.hid hl
            clear hl
            go_wp2_with fail
            refine HL.out.mono ?_
            rintro e w' ⟨rfl, hr, he⟩
            have HK2 := Lib.hid (HKX.out.step HLOW.out hr he)
            clear hr he HL c0 c1 HKX
            obtain ⟨c0, c1⟩ := HK2.out.box
            go_wp2
            (try simp only [Exit.inBlock, Exit.then])
            refine bodyPost_ret (results_none rfl _ _ _) rfl ?_
            exact ⟨rfl, by rw [← HEQ.out, sd_right_stop lt dk h1 HLL.out HG.out]; exact HK2.out.row, HK2.out.ext⟩
        | false =>
          have HLL := Lib.hid hL
          clear hL
          have hl := HE.out.less dk _ (first + (2 * root + 1)) (first + (2 * root + 2)) HK.out.row HSZ.out (by omega) (by omega)
          rw [show (((first + (2 * root + 1)) : Nat) : Int) = (first : Int) + (2 * (root : Int) + 1) by omega, show (((first + (2 * root + 2)) : Nat) : Int) = (first : Int) + (2 * (root : Int) + 1) + 1 by omega, HLL.out] at hl
          have HL := Lib.hid hl
          clear hl
          go_wp2_with fail
          refine HL.out.mono ?_
          rintro e w' ⟨rfl, hr, he⟩
          have HKX := Lib.hid (HK.out.step HLOW.out hr he)
          clear hr he HL c0 c1 HK
          obtain ⟨c0, c1⟩ := HKX.out.box
          cases hG : lt dk[first + root]! dk[first + (2 * root + 1)]! with
          | true =>
            have HG := Lib.hid hG
            clear hG
            have hl := HE.out.less dk _ (first + root) (first + (2 * root + 1)) HKX.out.row HSZ.out (by omega) (by omega)
            rw [show (((first + root) : Nat) : Int) = (first : Int) + (root : Int) by omega, show (((first + (2 * root + 1)) : Nat) : Int) = (first : Int) + (2 * (root : Int) + 1) by omega, HG.out] at hl
            have HL := Lib.hid hl
            clear hl
            go_wp2_with fail
            refine HL.out.mono ?_
            rintro e w' ⟨rfl, hr, he⟩
            have HK2 := Lib.hid (HKX.out.step HLOW.out hr he)
            clear hr he HL c0 c1 HKX
            obtain ⟨c0, c1⟩ := HK2.out.box
            obtain ⟨W2, hs, hr2, he2⟩ := HE.out.swap dk _ (first + root) (first + (2 * root + 1)) HK2.out.row HSZ.out (by omega) (by omega)
            rw [show (((first + root) : Nat) : Int) = (first : Int) + (root : Int) by omega, show (((first + (2 * root + 1)) : Nat) : Int) = (first : Int) + (2 * (root : Int) + 1) by omega] at hs
            have HK3 := Lib.hid (HK2.out.step HLOW.out hr2 he2)
            have HSW := Lib.hid hs
            clear hr2 he2 hs
            go_wp2
            rw [HSW.out, Oper.upon_value]
            clear HSW c0 c1 HK2
            obtain ⟨c0, c1⟩ := HK3.out.box
            go_wp2
            go_roundw
            case rel => exact ⟨2 * root + 1, swp dk (first + root) (first + (2 * root + 1)), by go_num, by omega, by omega, Lib.hid (by rw [size_swp]; exact HSZ.out), HK3, Lib.hid (by rw [← HEQ.out, sd_left_go lt dk (by omega) (fun _ => HLL.out) HG.out])⟩
            case measure => simp [intOf]; omega
          | false =>
            have HG := Lib.hid hG
            clear hG
            have hl := HE.out.less dk _ (first + root) (first + (2 * root + 1)) HKX.out.row HSZ.out (by omega) (by omega)
            rw [show (((first + root) : Nat) : Int) = (first : Int) + (root : Int) by omega, show (((first + (2 * root + 1)) : Nat) : Int) = (first : Int) + (2 * (root : Int) + 1) by omega, HG.out] at hl
            have HL := Lib.hid hl
            clear hl
            go_wp2_with fail
            refine HL.out.mono ?_
            rintro e w' ⟨rfl, hr, he⟩
            have HK2 := Lib.hid (HKX.out.step HLOW.out hr he)
            clear hr he HL c0 c1 HKX
            obtain ⟨c0, c1⟩ := HK2.out.box
            go_wp2
            (try simp only [Exit.inBlock, Exit.then])
            refine bodyPost_ret (results_none rfl _ _ _) rfl ?_
            exact ⟨rfl, by rw [← HEQ.out, sd_left_stop lt dk (by omega) (fun _ => HLL.out) HG.out]; exact HK2.out.row, HK2.out.ext⟩
      · have h1z : ¬ (2 * (root : Int) + 1 + 1 < (hi : Int)) := by omega
        have HKX := HK
        clear HK
        cases hG : lt dk[first + root]! dk[first + (2 * root + 1)]! with
        | true =>
          have HG := Lib.hid hG
          clear hG
          have hl := HE.out.less dk _ (first + root) (first + (2 * root + 1)) HKX.out.row HSZ.out (by omega) (by omega)
          rw [show (((first + root) : Nat) : Int) = (first : Int) + (root : Int) by omega, show (((first + (2 * root + 1)) : Nat) : Int) = (first : Int) + (2 * (root : Int) + 1) by omega, HG.out] at hl
          have HL := Lib.hid hl
          clear hl
          go_wp2_with fail
          refine HL.out.mono ?_
          rintro e w' ⟨rfl, hr, he⟩
          have HK2 := Lib.hid (HKX.out.step HLOW.out hr he)
          clear hr he HL c0 c1 HKX
          obtain ⟨c0, c1⟩ := HK2.out.box
          obtain ⟨W2, hs, hr2, he2⟩ := HE.out.swap dk _ (first + root) (first + (2 * root + 1)) HK2.out.row HSZ.out (by omega) (by omega)
          rw [show (((first + root) : Nat) : Int) = (first : Int) + (root : Int) by omega, show (((first + (2 * root + 1)) : Nat) : Int) = (first : Int) + (2 * (root : Int) + 1) by omega] at hs
          have HK3 := Lib.hid (HK2.out.step HLOW.out hr2 he2)
          have HSW := Lib.hid hs
          clear hr2 he2 hs
          go_wp2
          rw [HSW.out, Oper.upon_value]
          clear HSW c0 c1 HK2
          obtain ⟨c0, c1⟩ := HK3.out.box
          go_wp2
          go_roundw
          case rel => exact ⟨2 * root + 1, swp dk (first + root) (first + (2 * root + 1)), by go_num, by omega, by omega, Lib.hid (by rw [size_swp]; exact HSZ.out), HK3, Lib.hid (by rw [← HEQ.out, sd_left_go lt dk (by omega) (fun h => absurd h h1) HG.out])⟩
          case measure => simp [intOf]; omega
        | false =>
          have HG := Lib.hid hG
          clear hG
          have hl := HE.out.less dk _ (first + root) (first + (2 * root + 1)) HKX.out.row HSZ.out (by omega) (by omega)
          rw [show (((first + root) : Nat) : Int) = (first : Int) + (root : Int) by omega, show (((first + (2 * root + 1)) : Nat) : Int) = (first : Int) + (2 * (root : Int) + 1) by omega, HG.out] at hl
          have HL := Lib.hid hl
          clear hl
          go_wp2_with fail
          refine HL.out.mono ?_
          rintro e w' ⟨rfl, hr, he⟩
          have HK2 := Lib.hid (HKX.out.step HLOW.out hr he)
          clear hr he HL c0 c1 HKX
          obtain ⟨c0, c1⟩ := HK2.out.box
          go_wp2
          (try simp only [Exit.inBlock, Exit.then])
          refine bodyPost_ret (results_none rfl _ _ _) rfl ?_
          exact ⟨rfl, by rw [← HEQ.out, sd_left_stop lt dk (by omega) (fun h => absurd h h1) HG.out]; exact HK2.out.row, HK2.out.ext⟩
set_option maxHeartbeats 4000000 in
set_option maxRecDepth 100000 in
theorem heap_any (E : SEnv lt n B g lb sf sb R) (a b : Nat) (d : Array α) (W : World) (hR : R d W) (hd : d.size = n) (hab : a ≤ b) (hb : b ≤ n) :
    Calls Try.prog 118 #[.agg #[.func (.func g) #[] lb, .func (.func sf) #[] sb], .int .i64 a, .int .i64 b] W fun e w' => e = .returned (.tuple #[]) ∧ R (heapSort lt d a b) w' ∧ Ext B W w' := by
  have hn := E.fits
  have eg := E.enters
  have hlow := E.low _ _ hR
  have HA := Lib.hid (At.new E hR 90)
  have HE := Lib.hid E
  have HLOW := Lib.hid hlow
  clear hR hlow
  have HSZ0 := Lib.hid hd
  have ecast : ((b - a : Nat) : Int) = (b : Int) - (a : Int) := by omega
  have HEC := Lib.hid ecast
  have half := half_start hab
  have hz1 : (0 : Int) ≤ (b : Int) - (a : Int) := by omega
  have hz2 : (b : Int) - (a : Int) ≤ 1000 := by omega
  have HH := Lib.hid half
  clear hd ecast half
  go_enter Try.func118, Try.ntmps118
  go_wp2
  go_loopw [9] (fun v wr => ∃ (k : Nat) (dk : Array α), v = .int .i64 ((k : Int) - 1) ∧ k ≤ (b - a - 1) / 2 + 1 ∧ Hid (dk.size = n) ∧ Hid (At R B W.heap.size g lb sf sb W dk wr) ∧ Hid (heapBuild lt (b - a) a k dk = heapBuild lt (b - a) a ((b - a - 1) / 2 + 1) d)) (fun v _ => (intOf v + 1).toNat)
  case atStart => exact ⟨_, d, by rw [HH.out], Nat.le_refl _, HSZ0, HA, Lib.hid rfl⟩
  case round =>
    obtain ⟨k, dk, rfl, hk, HSZ, HK, HEQ⟩ := hrel
    clear HA HSZ0
    obtain ⟨c0, c1⟩ := HK.out.box
    cases k with
    | zero =>
      simp only [show (((0 : Nat) : Int)) - 1 = -1 from rfl]
      have HB : Hid (dk = heapBuild lt (b - a) a ((b - a - 1) / 2 + 1) d) := HEQ
      clear HEQ hk
      go_wp2
      go_loopw [10] (fun v wr => ∃ (k : Nat) (dj : Array α), v = .int .i64 ((k : Int) - 1) ∧ k ≤ b - a ∧ Hid (dj.size = n) ∧ Hid (At R B W.heap.size g lb sf sb W dj wr) ∧ Hid (heapPop lt a k dj = heapPop lt a (b - a) dk)) (fun v _ => (intOf v + 1).toNat)
      case atStart => exact ⟨b - a, dk, by rw [HEC.out], Nat.le_refl _, HSZ, HK, Lib.hid rfl⟩
      case round =>
        obtain ⟨k, dj, rfl, hk, HSJ, HJ, HEQ⟩ := hrel
        clear HK HSZ c0 c1
        obtain ⟨c0, c1⟩ := HJ.out.box
        cases k with
        | zero =>
          simp only [show (((0 : Nat) : Int)) - 1 = -1 from rfl]
          go_wp2
          go_end0
          exact ⟨rfl, by
            have e : heapSort lt d a b = dj := by
              unfold heapSort
              rw [← HB.out, ← HEQ.out]; rfl
            rw [e]; exact HJ.out.row, HJ.out.ext⟩
        | succ m =>
          simp only [show (((m + 1 : Nat) : Int)) - 1 = (m : Int) by omega]
          have hm0 : (0 : Int) ≤ (m : Int) := by omega
          obtain ⟨W2, hs, hr2, he2⟩ := HE.out.swap dj _ (a) (a + m) HJ.out.row HSJ.out (by omega) (by omega)
          rw [show (((a + m) : Nat) : Int) = (a : Int) + (m : Int) by omega] at hs
          have HJ2 := Lib.hid (HJ.out.step HLOW.out hr2 he2)
          have HSW := Lib.hid hs
          clear hr2 he2 hs
          go_wp2
          rw [HSW.out, Oper.upon_value]
          clear HSW c0 c1 HJ
          obtain ⟨c0, c1⟩ := HJ2.out.box
          go_wp2_with fail
          refine (sift_any HE.out 0 m a (swp dj a (a + m)) _ HJ2.out.row (by rw [size_swp]; exact HSJ.out) (Nat.zero_le _) (by omega)).mono ?_
          rintro e w' ⟨rfl, hr, he⟩
          have HJ3 := Lib.hid (HJ2.out.step HLOW.out hr he)
          clear hr he
          go_wp2
          go_roundw
          case rel => exact ⟨m, siftDown lt m a 0 (swp dj a (a + m)), rfl, by omega, Lib.hid (by rw [size_siftDown lt _ _ m 0 _ (by omega), size_swp]; exact HSJ.out), HJ3, HEQ⟩
          case measure => first | (simp [intOf]; omega) | simp [intOf]
    | succ m =>
      simp only [show (((m + 1 : Nat) : Int)) - 1 = (m : Int) by omega]
      have hm0 : (0 : Int) ≤ (m : Int) := by omega
      have hs : ∀ W', R dk W' → Calls Try.prog 128 #[.agg #[.func (.func g) #[] lb, .func (.func sf) #[] sb], .int .i64 m, .int .i64 ((b : Int) - (a : Int)), .int .i64 a] W' fun e w' => e = .returned (.tuple #[]) ∧ R (siftDown lt (b - a) a m dk) w' ∧ Ext B W' w' := by
        intro W' h
        have := sift_any HE.out m (b - a) a dk W' h HSZ.out (by omega) (by omega)
        rw [HEC.out] at this
        exact this
      have HS := Lib.hid hs
      clear hs
      go_wp2_with fail
      refine (HS.out _ HK.out.row).mono ?_
      rintro e w' ⟨rfl, hr, he⟩
      have HK3 := Lib.hid (HK.out.step HLOW.out hr he)
      clear hr he
      go_wp2
      go_roundw
      case rel => exact ⟨m, siftDown lt (b - a) a m dk, rfl, by omega, Lib.hid (by rw [size_siftDown lt _ _ (b - a) m _ (by omega)]; exact HSZ.out), HK3, HEQ⟩
      case measure => first | (simp [intOf]; omega) | simp [intOf]
end
end Go.Proofs.Ytdhibalpnccbiaa

namespace Go.Proofs.Ytdhibalpnccbiaa
open Go.RowKit Go.Sort
set_option linter.unusedVariables false
section
variable {α : Type} [Inhabited α] {lt : α → α → Bool} {n B g : Nat} {lb : Array Value} {sf : Nat} {sb : Array Value} {R : Array α → World → Prop}
set_option maxHeartbeats 2000000 in
set_option maxRecDepth 100000 in
theorem partial_any (E : SEnv lt n B g lb sf sb R) (a b : Nat) (d : Array α) (W : World) (hR : R d W) (hd : d.size = n) (hab : a < b) (h50 : b < a + 50) (hb : b ≤ n) :
    Calls Try.prog 122 #[.agg #[.func (.func g) #[] lb, .func (.func sf) #[] sb], .int .i64 a, .int .i64 b] W fun e w' => e = .returned (.bool (partialInsertionSort lt d a b).2) ∧ R (partialInsertionSort lt d a b).1 w' ∧ Ext B W w' := by
  have hn := E.fits
  have eg := E.enters
  have hlow := E.low _ _ hR
  have HA := Lib.hid (At.new E hR 90)
  have HE := Lib.hid E
  have HLOW := Lib.hid hlow
  clear hR hlow
  have HSZ := Lib.hid hd
  clear hd
  go_enter Try.func122, Try.ntmps122
  go_wp2
  refine wp_loop_rounds 1 ?_
  rw [rounds_succ]
  go_wp2
  go_loopw [7] (fun v wr => ∃ i : Nat, v = .int .i64 i ∧ a + 1 ≤ i ∧ i ≤ b ∧ Hid (At R B W.heap.size g lb sf sb W d wr) ∧ Hid (scanSorted lt d b i = scanSorted lt d b (a + 1))) (fun v _ => b - (intOf v).toNat)
  case atStart => exact ⟨a + 1, by go_num, Nat.le_refl _, by omega, HA, Lib.hid rfl⟩
  case round =>
    obtain ⟨i, rfl, hi1, hi2, HK, HEQ⟩ := hrel
    clear HA
    obtain ⟨c0, c1⟩ := HK.out.box
    by_cases hlt : i < b
    · cases hG : lt d[i]! d[i - 1]! with
      | false =>
        have HG := Lib.hid hG
        clear hG
        have hl := HE.out.less d _ (i) (i - 1) HK.out.row HSZ.out (by omega) (by omega)
        rw [show (((i - 1) : Nat) : Int) = (i : Int) - 1 by omega, HG.out] at hl
        have HL := Lib.hid hl
        clear hl
        go_wp2_with fail
        refine HL.out.mono ?_
        rintro e w' ⟨rfl, hr, he⟩
        have HK2 := Lib.hid (HK.out.step HLOW.out hr he)
        clear hr he HL c0 c1 HK
        obtain ⟨c0, c1⟩ := HK2.out.box
        go_wp2
        go_roundw
        case rel => exact ⟨i + 1, by go_num, by omega, by omega, HK2, Lib.hid (by rw [← scanSorted_go lt d b i hlt HG.out]; exact HEQ.out)⟩
        case measure => simp [intOf]; omega
      | true =>
        have HG := Lib.hid hG
        clear hG
        have hs := scanSorted_stop lt d b i (.inr HG.out)
        have HP : Hid (partialInsertionSort lt d a b = (d, false)) := Lib.hid (pi_short lt a b 0 (a + 1) d (by omega) (by rw [← HEQ.out, hs]; omega) (by omega))
        have e1 : ((i : Int) == (b : Int)) = false := by simp; omega
        have e2 : (b : Int) - (a : Int) < 50 := by omega
        clear hs
        have hl := HE.out.less d _ (i) (i - 1) HK.out.row HSZ.out (by omega) (by omega)
        rw [show (((i - 1) : Nat) : Int) = (i : Int) - 1 by omega, HG.out] at hl
        have HL := Lib.hid hl
        clear hl
        go_wp2_with fail
        refine HL.out.mono ?_
        rintro e w' ⟨rfl, hr, he⟩
        have HK2 := Lib.hid (HK.out.step HLOW.out hr he)
        clear hr he HL c0 c1 HK
        obtain ⟨c0, c1⟩ := HK2.out.box
        go_wp2
        go_ret
        exact ⟨by rw [HP.out]; rfl, by rw [HP.out]; exact HK2.out.row, HK2.out.ext⟩
    · have hs := scanSorted_stop lt d b i (.inl hlt)
      have hib : i = b := by omega
      have HP : Hid (partialInsertionSort lt d a b = (d, true)) := Lib.hid (pi_true lt a b 0 (a + 1) d (by omega) (by rw [← HEQ.out, hs]; omega))
      have e1 : ((i : Int) == (b : Int)) = true := by simp; omega
      clear hs hib
      go_wp2
      go_ret
      exact ⟨by rw [HP.out]; rfl, by rw [HP.out]; exact HK.out.row, HK.out.ext⟩
end
end Go.Proofs.Ytdhibalpnccbiaa

namespace Go.Proofs.Ytdhibalpnccbiaa
open Go.RowKit Go.Sort
set_option linter.unusedVariables false
section
variable {α : Type} [Inhabited α] {lt : α → α → Bool} {n B g : Nat} {lb : Array Value} {sf : Nat} {sb : Array Value} {R : Array α → World → Prop}
set_option maxHeartbeats 4000000 in
set_option maxRecDepth 100000 in
theorem parteq_any (E : SEnv lt n B g lb sf sb R) (a b pivot : Nat) (d : Array α) (W : World) (hR : R d W) (hd : d.size = n) (hap : a ≤ pivot) (hpb : pivot < b) (hb : b ≤ n) :
    Calls Try.prog 123 #[.agg #[.func (.func g) #[] lb, .func (.func sf) #[] sb], .int .i64 a, .int .i64 b, .int .i64 pivot] W fun e w' => e = .returned (.int .i64 (partitionEqual lt d a b pivot).1) ∧ R (partitionEqual lt d a b pivot).2 w' ∧ Ext B W w' := by
  have hn := E.fits
  have eg := E.enters
  have hlow := E.low _ _ hR
  have HA := Lib.hid (At.new E hR 90)
  have HE := Lib.hid E
  have HLOW := Lib.hid hlow
  clear hR hlow
  have HSZ := Lib.hid hd
  clear hd
  go_enter Try.func123, Try.ntmps123
  obtain ⟨c0, c1⟩ := HA.out.box
  obtain ⟨W2, hs, hr2, he2⟩ := HE.out.swap d _ (a) (pivot) HA.out.row HSZ.out (by omega) (by omega)
  have HB := Lib.hid (HA.out.step HLOW.out hr2 he2)
  have HSW := Lib.hid hs
  clear hr2 he2 hs
  go_wp2
  rw [HSW.out, Oper.upon_value]
  clear HSW c0 c1 HA
  obtain ⟨c0, c1⟩ := HB.out.box
  go_wp2
  go_loopw [9, 10] (fun vi vj wr => ∃ (i j : Nat) (dk : Array α), vi = .int .i64 i ∧ vj = .int .i64 j ∧ a < i ∧ i ≤ j + 1 ∧ j < b ∧ Hid (dk.size = n) ∧ Hid (At R B W.heap.size g lb sf sb W dk wr) ∧ Hid (partEqLoop lt a i j dk = partEqLoop lt a (a + 1) (b - 1) (swp d a pivot))) (fun vi vj _ => (intOf vj).toNat + 1 - (intOf vi).toNat)
  case atStart => exact ⟨a + 1, b - 1, swp d a pivot, by go_num, by congr 1; omega, by omega, by omega, by omega, Lib.hid (by rw [size_swp]; exact HSZ.out), HB, Lib.hid rfl⟩
  case round =>
    obtain ⟨i, j, dk, rfl, rfl, hai, hij, hjb, HS, HK, HEQ⟩ := hrel
    clear HB
    go_wp2
    go_loopw [9] (fun vi w1 => ∃ (i' : Nat), vi = .int .i64 i' ∧ i ≤ i' ∧ i' ≤ j + 1 ∧ Hid (At R B W.heap.size g lb sf sb W dk w1) ∧ Hid (scanUp (fun x => !lt dk[a]! x) dk j i' = scanUp (fun x => !lt dk[a]! x) dk j i)) (fun vi _ => j + 1 - (intOf vi).toNat)
    case atStart => exact ⟨i, rfl, Nat.le_refl _, hij, HK, Lib.hid rfl⟩
    case round =>
      obtain ⟨i', rfl, hii, hij', HU0, HSU⟩ := hrel
      clear HK
      obtain ⟨c0, c1⟩ := HU0.out.box
      by_cases hle : i' ≤ j
      · cases hG : lt dk[a]! dk[i']! with
        | false =>
          have HG := Lib.hid hG
          clear hG
          have hl := HE.out.less dk _ (a) (i') HU0.out.row HS.out (by omega) (by omega)
          rw [HG.out] at hl
          have HL := Lib.hid hl
          clear hl
          go_wp2_with fail
          refine HL.out.mono ?_
          rintro e w' ⟨rfl, hr, he⟩
          have HU1 := Lib.hid (HU0.out.step HLOW.out hr he)
          clear hr he HL c0 c1 HU0
          obtain ⟨c0, c1⟩ := HU1.out.box
          go_wp2
          go_roundw
          case rel => exact ⟨i' + 1, by go_num, by omega, by omega, HU1, Lib.hid (by rw [← scanUp_go (fun x => !lt dk[a]! x) dk j i' hle (by simp only [HG.out]; rfl)]; exact HSU.out)⟩
          case measure => simp [intOf]; omega
        | true =>
          have HG := Lib.hid hG
          clear hG
          have HI2 : Hid (i' = scanUp (fun x => !lt dk[a]! x) dk j i) := Lib.hid ((scanUp_end (fun x => !lt dk[a]! x) dk j i' (Or.inr (by simp only [HG.out]; rfl))).symm.trans HSU.out)
          have hl := HE.out.less dk _ (a) (i') HU0.out.row HS.out (by omega) (by omega)
          rw [HG.out] at hl
          have HL := Lib.hid hl
          clear hl
          go_wp2_with fail
          refine HL.out.mono ?_
          rintro e w' ⟨rfl, hr, he⟩
          have HU1 := Lib.hid (HU0.out.step HLOW.out hr he)
          clear hr he HL c0 c1 HU0
          obtain ⟨c0, c1⟩ := HU1.out.box
          go_wp2
          go_loopw [10] (fun vj w2 => ∃ (j' : Nat), vj = .int .i64 j' ∧ j' ≤ j ∧ i' ≤ j' + 1 ∧ Hid (At R B W.heap.size g lb sf sb W dk w2) ∧ Hid (scanDown (fun x => lt dk[a]! x) dk i' j' = scanDown (fun x => lt dk[a]! x) dk i' j)) (fun vj _ => (intOf vj).toNat)
          case atStart => exact ⟨j, rfl, Nat.le_refl _, hij', HU1, Lib.hid rfl⟩
          case round =>
            obtain ⟨j', rfl, hjj, hij2, HL0, HSD⟩ := hrel
            clear HU1
            obtain ⟨c0, c1⟩ := HL0.out.box
            by_cases hle2 : i' ≤ j'
            · cases hG : lt dk[a]! dk[j']! with
              | true =>
                have HG := Lib.hid hG
                clear hG
                have hl := HE.out.less dk _ (a) (j') HL0.out.row HS.out (by omega) (by omega)
                rw [HG.out] at hl
                have HL := Lib.hid hl
                clear hl
                go_wp2_with fail
                refine HL.out.mono ?_
                rintro e w' ⟨rfl, hr, he⟩
                have HL1 := Lib.hid (HL0.out.step HLOW.out hr he)
                clear hr he HL c0 c1 HL0
                obtain ⟨c0, c1⟩ := HL1.out.box
                go_wp2
                go_roundw
                case rel => exact ⟨j' - 1, by congr 1; omega, by omega, by omega, HL1, Lib.hid (by rw [← scanDown_go (fun x => lt dk[a]! x) dk i' j' hle2 (by omega) HG.out]; exact HSD.out)⟩
                case measure => simp [intOf]; omega
              | false =>
                have HG := Lib.hid hG
                clear hG
                have hj2 : j' = scanDown (fun x => lt dk[a]! x) dk i' j := (scanDown_end (fun x => lt dk[a]! x) dk i' j' (Or.inr HG.out)).symm.trans HSD.out
                have hlt3 := scans_lt lt a i j dk (by omega) HI2.out hj2 hle2
                have HJ2 := Lib.hid hj2
                clear hj2
                have hl := HE.out.less dk _ (a) (j') HL0.out.row HS.out (by omega) (by omega)
                rw [HG.out] at hl
                have HL := Lib.hid hl
                clear hl
                go_wp2_with fail
                refine HL.out.mono ?_
                rintro e w' ⟨rfl, hr, he⟩
                have HL1 := Lib.hid (HL0.out.step HLOW.out hr he)
                clear hr he HL c0 c1 HL0
                obtain ⟨c0, c1⟩ := HL1.out.box
                have hnz : ¬ (j' : Int) < (i' : Int) := by omega
                obtain ⟨W2, hs, hr2, he2⟩ := HE.out.swap dk _ (i') (j') HL1.out.row HS.out (by omega) (by omega)
                have HL2 := Lib.hid (HL1.out.step HLOW.out hr2 he2)
                have HSW := Lib.hid hs
                clear hr2 he2 hs
                go_wp2
                rw [HSW.out, Oper.upon_value]
                clear HSW c0 c1 HL1
                obtain ⟨c0, c1⟩ := HL2.out.box
                go_wp2
                go_roundw
                case rel => exact ⟨i' + 1, j' - 1, swp dk i' j', by go_num, by congr 1; omega, by omega, by omega, by omega, Lib.hid (by rw [size_swp]; exact HS.out), HL2, Lib.hid (by rw [← partEq_go lt a i j dk HI2.out HJ2.out (by omega)]; exact HEQ.out)⟩
                case measure => simp [intOf]; omega
            · have hj2 : j' = scanDown (fun x => lt dk[a]! x) dk i' j := (scanDown_end (fun x => lt dk[a]! x) dk i' j' (Or.inl hle2)).symm.trans HSD.out
              have HP : Hid (partitionEqual lt d a b pivot = (i', dk)) := Lib.hid (by unfold partitionEqual; rw [← HEQ.out]; exact partEq_break lt a i j dk HI2.out hj2 (by omega))
              have hnz : (j' : Int) < (i' : Int) := by omega
              clear hj2
              go_wp2
              go_ret
              exact ⟨by rw [HP.out]; rfl, by rw [HP.out]; exact HL0.out.row, HL0.out.ext⟩
      · have HI2 : Hid (i' = scanUp (fun x => !lt dk[a]! x) dk j i) := Lib.hid ((scanUp_end (fun x => !lt dk[a]! x) dk j i' (Or.inl hle)).symm.trans HSU.out)
        go_wp2
        go_loopw [10] (fun vj w2 => ∃ (j' : Nat), vj = .int .i64 j' ∧ j' ≤ j ∧ i' ≤ j' + 1 ∧ Hid (At R B W.heap.size g lb sf sb W dk w2) ∧ Hid (scanDown (fun x => lt dk[a]! x) dk i' j' = scanDown (fun x => lt dk[a]! x) dk i' j)) (fun vj _ => (intOf vj).toNat)
        case atStart => exact ⟨j, rfl, Nat.le_refl _, hij', HU0, Lib.hid rfl⟩
        case round =>
          obtain ⟨j', rfl, hjj, hij2, HL0, HSD⟩ := hrel
          clear HU0
          obtain ⟨c0, c1⟩ := HL0.out.box
          by_cases hle2 : i' ≤ j'
          · exfalso; omega
          · have hj2 : j' = scanDown (fun x => lt dk[a]! x) dk i' j := (scanDown_end (fun x => lt dk[a]! x) dk i' j' (Or.inl hle2)).symm.trans HSD.out
            have HP : Hid (partitionEqual lt d a b pivot = (i', dk)) := Lib.hid (by unfold partitionEqual; rw [← HEQ.out]; exact partEq_break lt a i j dk HI2.out hj2 (by omega))
            have hnz : (j' : Int) < (i' : Int) := by omega
            clear hj2
            go_wp2
            go_ret
            exact ⟨by rw [HP.out]; rfl, by rw [HP.out]; exact HL0.out.row, HL0.out.ext⟩
end
end Go.Proofs.Ytdhibalpnccbiaa

namespace Go.Proofs.Ytdhibalpnccbiaa
open Go.RowKit Go.Sort
set_option linter.unusedVariables false
section
variable {α : Type} [Inhabited α] {lt : α → α → Bool} {n B g : Nat} {lb : Array Value} {sf : Nat} {sb : Array Value} {R : Array α → World → Prop}
set_option maxHeartbeats 8000000 in
set_option maxRecDepth 100000 in
theorem part_any (E : SEnv lt n B g lb sf sb R) (a b pivot : Nat) (d : Array α) (W : World) (hR : R d W) (hd : d.size = n) (hap : a ≤ pivot) (hpb : pivot < b) (hb : b ≤ n) :
    Calls Try.prog 124 #[.agg #[.func (.func g) #[] lb, .func (.func sf) #[] sb], .int .i64 a, .int .i64 b, .int .i64 pivot] W fun e w' => e = .returned (.tuple #[.int .i64 (partition lt d a b pivot).1, .bool (partition lt d a b pivot).2.1]) ∧ R (partition lt d a b pivot).2.2 w' ∧ Ext B W w' := by
  have hn := E.fits
  have eg := E.enters
  have hlow := E.low _ _ hR
  have HA := Lib.hid (At.new E hR 90)
  have HE := Lib.hid E
  have HLOW := Lib.hid hlow
  clear hR hlow
  have HSZ := Lib.hid hd
  clear hd
  go_enter Try.func124, Try.ntmps124
  obtain ⟨c0, c1⟩ := HA.out.box
  obtain ⟨W2, hs, hr2, he2⟩ := HE.out.swap d _ (a) (pivot) HA.out.row HSZ.out (by omega) (by omega)
  have HK := Lib.hid (HA.out.step HLOW.out hr2 he2)
  have HSW := Lib.hid hs
  clear hr2 he2 hs
  go_wp2
  rw [HSW.out, Oper.upon_value]
  clear HSW c0 c1 HA
  obtain ⟨c0, c1⟩ := HK.out.box
  go_wp2
  obtain ⟨dk, hdk⟩ : ∃ dk, dk = swp d a pivot := ⟨_, rfl⟩
  have HS : Hid (dk.size = n) := Lib.hid (by rw [hdk, size_swp]; exact HSZ.out)
  rw [← hdk] at HK
  rw [show ((a : Int) + 1) = ((a + 1 : Nat) : Int) by omega, show ((b : Int) - 1) = ((b - 1 : Nat) : Int) by omega]
  obtain ⟨i, hi⟩ : ∃ i, i = a + 1 := ⟨_, rfl⟩
  obtain ⟨j, hj⟩ : ∃ j, j = b - 1 := ⟨_, rfl⟩
  rw [← hi, ← hj]
  have hai : a < i := by omega
  have hij : i ≤ j + 1 := by omega
  have hjb : j < b := by omega
  have HI := Lib.hid hi
  have HJ := Lib.hid hj
  have HD := Lib.hid hdk
  clear hi hj hdk c0 c1
  go_loopw [10] (fun vi w1 => ∃ (i' : Nat), vi = .int .i64 i' ∧ i ≤ i' ∧ i' ≤ j + 1 ∧ Hid (At R B W.heap.size g lb sf sb W dk w1) ∧ Hid (scanUp (fun x => lt x dk[a]!) dk j i' = scanUp (fun x => lt x dk[a]!) dk j i)) (fun vi _ => j + 1 - (intOf vi).toNat)
  case atStart => exact ⟨i, rfl, Nat.le_refl _, hij, HK, Lib.hid rfl⟩
  case round =>
    obtain ⟨i', rfl, hii, hij', HU0, HSU⟩ := hrel
    clear HK
    obtain ⟨c0, c1⟩ := HU0.out.box
    by_cases hle : i' ≤ j
    · cases hG : lt dk[i']! dk[a]! with
      | true =>
        have HG := Lib.hid hG
        clear hG
        have hl := HE.out.less dk _ (i') (a) HU0.out.row HS.out (by omega) (by omega)
        rw [HG.out] at hl
        have HL := Lib.hid hl
        clear hl
        go_wp2_with fail
        refine HL.out.mono ?_
        rintro e w' ⟨rfl, hr, he⟩
        have HU1 := Lib.hid (HU0.out.step HLOW.out hr he)
        clear hr he HL c0 c1 HU0
        obtain ⟨c0, c1⟩ := HU1.out.box
        go_wp2
        go_roundw
        case rel => exact ⟨i' + 1, by go_num, by omega, by omega, HU1, Lib.hid (by rw [← scanUp_go (fun x => lt x dk[a]!) dk j i' hle HG.out]; exact HSU.out)⟩
        case measure => simp [intOf]; omega
      | false =>
        have HG := Lib.hid hG
        clear hG
        have HI2 : Hid (i' = scanUp (fun x => lt x dk[a]!) dk j i) := Lib.hid ((scanUp_end (fun x => lt x dk[a]!) dk j i' (Or.inr HG.out)).symm.trans HSU.out)
        have hl := HE.out.less dk _ (i') (a) HU0.out.row HS.out (by omega) (by omega)
        rw [HG.out] at hl
        have HL := Lib.hid hl
        clear hl
        go_wp2_with fail
        refine HL.out.mono ?_
        rintro e w' ⟨rfl, hr, he⟩
        have HU1 := Lib.hid (HU0.out.step HLOW.out hr he)
        clear hr he HL c0 c1 HU0
        obtain ⟨c0, c1⟩ := HU1.out.box
        go_wp2
        go_loopw [11] (fun vj w2 => ∃ (j' : Nat), vj = .int .i64 j' ∧ j' ≤ j ∧ i' ≤ j' + 1 ∧ Hid (At R B W.heap.size g lb sf sb W dk w2) ∧ Hid (scanDown (fun x => !lt x dk[a]!) dk i' j' = scanDown (fun x => !lt x dk[a]!) dk i' j)) (fun vj _ => (intOf vj).toNat)
        case atStart => exact ⟨j, rfl, Nat.le_refl _, hij', HU1, Lib.hid rfl⟩
        case round =>
          obtain ⟨j', rfl, hjj, hij2, HL0, HSD⟩ := hrel
          clear HU1
          obtain ⟨c0, c1⟩ := HL0.out.box
          by_cases hle2 : i' ≤ j'
          · cases hG : lt dk[j']! dk[a]! with
            | false =>
              have HG := Lib.hid hG
              clear hG
              have hl := HE.out.less dk _ (j') (a) HL0.out.row HS.out (by omega) (by omega)
              rw [HG.out] at hl
              have HL := Lib.hid hl
              clear hl
              go_wp2_with fail
              refine HL.out.mono ?_
              rintro e w' ⟨rfl, hr, he⟩
              have HL1 := Lib.hid (HL0.out.step HLOW.out hr he)
              clear hr he HL c0 c1 HL0
              obtain ⟨c0, c1⟩ := HL1.out.box
              go_wp2
              go_roundw
              case rel => exact ⟨j' - 1, by congr 1; omega, by omega, by omega, HL1, Lib.hid (by rw [← scanDown_go (fun x => !lt x dk[a]!) dk i' j' hle2 (by omega) (by simp only [HG.out]; rfl)]; exact HSD.out)⟩
              case measure => simp [intOf]; omega
            | true =>
              have HG := Lib.hid hG
              clear hG
              have hj2 : j' = scanDown (fun x => !lt x dk[a]!) dk i' j := (scanDown_end (fun x => !lt x dk[a]!) dk i' j' (Or.inr (by simp only [HG.out]; rfl))).symm.trans HSD.out
              have hlt3 := part_scans_lt lt a i j dk (by omega) HI2.out hj2 hle2
              have HJ2 := Lib.hid hj2
              clear hj2
              have hl := HE.out.less dk _ (j') (a) HL0.out.row HS.out (by omega) (by omega)
              rw [HG.out] at hl
              have HL := Lib.hid hl
              clear hl
              go_wp2_with fail
              refine HL.out.mono ?_
              rintro e w' ⟨rfl, hr, he⟩
              have HL1 := Lib.hid (HL0.out.step HLOW.out hr he)
              clear hr he HL c0 c1 HL0
              obtain ⟨c0, c1⟩ := HL1.out.box
              have hnz : ¬ (j' : Int) < (i' : Int) := by omega
              have HPF : Hid (partition lt d a b pivot = ((partLoop lt a (i' + 1) (j' - 1) (swp dk i' j')).1, false, swp (partLoop lt a (i' + 1) (j' - 1) (swp dk i' j')).2 (partLoop lt a (i' + 1) (j' - 1) (swp dk i' j')).1 a)) := Lib.hid (part_first_go lt d a b pivot HI.out HJ.out HD.out HI2.out HJ2.out (by omega))
              obtain ⟨W2, hs, hr2, he2⟩ := HE.out.swap dk _ (i') (j') HL1.out.row HS.out (by omega) (by omega)
              have HB := Lib.hid (HL1.out.step HLOW.out hr2 he2)
              have HSW := Lib.hid hs
              clear hr2 he2 hs
              go_wp2
              rw [HSW.out, Oper.upon_value]
              clear HSW c0 c1 HL1
              obtain ⟨c0, c1⟩ := HB.out.box
              go_wp2
              have HS0 : Hid ((swp dk i' j').size = n) := Lib.hid (by rw [size_swp]; exact HS.out)
              obtain ⟨pr, hpr⟩ : ∃ pr, partLoop lt a (i' + 1) (j' - 1) (swp dk i' j') = pr := ⟨_, rfl⟩
              rw [hpr] at HPF
              have HPR := Lib.hid hpr
              clear hpr HI2 HJ2 HS HI HJ HD HSU HSD
              go_loopw [10, 11] (fun vi vj wr => ∃ (i j : Nat) (dk : Array α), vi = .int .i64 i ∧ vj = .int .i64 j ∧ a < i ∧ i ≤ j + 1 ∧ j < b ∧ Hid (dk.size = n) ∧ Hid (At R B W.heap.size g lb sf sb W dk wr) ∧ Hid (partLoop lt a i j dk = pr)) (fun vi vj _ => (intOf vj).toNat + 1 - (intOf vi).toNat)
              case atStart => exact ⟨i' + 1, j' - 1, swp dk i' j', by go_num, by congr 1; omega, by omega, by omega, by omega, HS0, HB, HPR⟩
              case round =>
                clear HB HS0 HPR hnz hlt3 hle hle2 hii hij' hjj hij2 hai hij hjb
                rename_i i0 j0 _ _
                obtain ⟨i, j, dk, rfl, rfl, hai, hij, hjb, HS, HK, HEQ⟩ := hrel
                go_wp2
                go_loopw [10] (fun vi w1 => ∃ (i' : Nat), vi = .int .i64 i' ∧ i ≤ i' ∧ i' ≤ j + 1 ∧ Hid (At R B W.heap.size g lb sf sb W dk w1) ∧ Hid (scanUp (fun x => lt x dk[a]!) dk j i' = scanUp (fun x => lt x dk[a]!) dk j i)) (fun vi _ => j + 1 - (intOf vi).toNat)
                case atStart => exact ⟨i, rfl, Nat.le_refl _, hij, HK, Lib.hid rfl⟩
                case round =>
                  obtain ⟨i', rfl, hii, hij', HU0, HSU⟩ := hrel
                  clear HK
                  obtain ⟨c0, c1⟩ := HU0.out.box
                  by_cases hle : i' ≤ j
                  · cases hG : lt dk[i']! dk[a]! with
                    | true =>
                      have HG := Lib.hid hG
                      clear hG
                      have hl := HE.out.less dk _ (i') (a) HU0.out.row HS.out (by omega) (by omega)
                      rw [HG.out] at hl
                      have HL := Lib.hid hl
                      clear hl
                      go_wp2_with fail
                      refine HL.out.mono ?_
                      rintro e w' ⟨rfl, hr, he⟩
                      have HU1 := Lib.hid (HU0.out.step HLOW.out hr he)
                      clear hr he HL c0 c1 HU0
                      obtain ⟨c0, c1⟩ := HU1.out.box
                      go_wp2
                      go_roundw
                      case rel => exact ⟨i' + 1, by go_num, by omega, by omega, HU1, Lib.hid (by rw [← scanUp_go (fun x => lt x dk[a]!) dk j i' hle HG.out]; exact HSU.out)⟩
                      case measure => simp [intOf]; omega
                    | false =>
                      have HG := Lib.hid hG
                      clear hG
                      have HI2 : Hid (i' = scanUp (fun x => lt x dk[a]!) dk j i) := Lib.hid ((scanUp_end (fun x => lt x dk[a]!) dk j i' (Or.inr HG.out)).symm.trans HSU.out)
                      have hl := HE.out.less dk _ (i') (a) HU0.out.row HS.out (by omega) (by omega)
                      rw [HG.out] at hl
                      have HL := Lib.hid hl
                      clear hl
                      go_wp2_with fail
                      refine HL.out.mono ?_
                      rintro e w' ⟨rfl, hr, he⟩
                      have HU1 := Lib.hid (HU0.out.step HLOW.out hr he)
                      clear hr he HL c0 c1 HU0
                      obtain ⟨c0, c1⟩ := HU1.out.box
                      go_wp2
                      go_loopw [11] (fun vj w2 => ∃ (j' : Nat), vj = .int .i64 j' ∧ j' ≤ j ∧ i' ≤ j' + 1 ∧ Hid (At R B W.heap.size g lb sf sb W dk w2) ∧ Hid (scanDown (fun x => !lt x dk[a]!) dk i' j' = scanDown (fun x => !lt x dk[a]!) dk i' j)) (fun vj _ => (intOf vj).toNat)
                      case atStart => exact ⟨j, rfl, Nat.le_refl _, hij', HU1, Lib.hid rfl⟩
                      case round =>
                        obtain ⟨j', rfl, hjj, hij2, HL0, HSD⟩ := hrel
                        clear HU1
                        obtain ⟨c0, c1⟩ := HL0.out.box
                        by_cases hle2 : i' ≤ j'
                        · cases hG : lt dk[j']! dk[a]! with
                          | false =>
                            have HG := Lib.hid hG
                            clear hG
                            have hl := HE.out.less dk _ (j') (a) HL0.out.row HS.out (by omega) (by omega)
                            rw [HG.out] at hl
                            have HL := Lib.hid hl
                            clear hl
                            go_wp2_with fail
                            refine HL.out.mono ?_
                            rintro e w' ⟨rfl, hr, he⟩
                            have HL1 := Lib.hid (HL0.out.step HLOW.out hr he)
                            clear hr he HL c0 c1 HL0
                            obtain ⟨c0, c1⟩ := HL1.out.box
                            go_wp2
                            go_roundw
                            case rel => exact ⟨j' - 1, by congr 1; omega, by omega, by omega, HL1, Lib.hid (by rw [← scanDown_go (fun x => !lt x dk[a]!) dk i' j' hle2 (by omega) (by simp only [HG.out]; rfl)]; exact HSD.out)⟩
                            case measure => simp [intOf]; omega
                          | true =>
                            have HG := Lib.hid hG
                            clear hG
                            have hj2 : j' = scanDown (fun x => !lt x dk[a]!) dk i' j := (scanDown_end (fun x => !lt x dk[a]!) dk i' j' (Or.inr (by simp only [HG.out]; rfl))).symm.trans HSD.out
                            have hlt3 := part_scans_lt lt a i j dk (by omega) HI2.out hj2 hle2
                            have HJ2 := Lib.hid hj2
                            clear hj2
                            have hl := HE.out.less dk _ (j') (a) HL0.out.row HS.out (by omega) (by omega)
                            rw [HG.out] at hl
                            have HL := Lib.hid hl
                            clear hl
                            go_wp2_with fail
                            refine HL.out.mono ?_
                            rintro e w' ⟨rfl, hr, he⟩
                            have HL1 := Lib.hid (HL0.out.step HLOW.out hr he)
                            clear hr he HL c0 c1 HL0
                            obtain ⟨c0, c1⟩ := HL1.out.box
                            have hnz : ¬ (j' : Int) < (i' : Int) := by omega
                            obtain ⟨W2, hs, hr2, he2⟩ := HE.out.swap dk _ (i') (j') HL1.out.row HS.out (by omega) (by omega)
                            have HL2 := Lib.hid (HL1.out.step HLOW.out hr2 he2)
                            have HSW := Lib.hid hs
                            clear hr2 he2 hs
                            go_wp2
                            rw [HSW.out, Oper.upon_value]
                            clear HSW c0 c1 HL1
                            obtain ⟨c0, c1⟩ := HL2.out.box
                            go_wp2
                            go_roundw
                            case rel => exact ⟨i' + 1, j' - 1, swp dk i' j', by go_num, by congr 1; omega, by omega, by omega, by omega, Lib.hid (by rw [size_swp]; exact HS.out), HL2, Lib.hid (by rw [← part_go lt a i j dk HI2.out HJ2.out (by omega)]; exact HEQ.out)⟩
                            case measure => simp [intOf]; omega
                        · have hj2 : j' = scanDown (fun x => !lt x dk[a]!) dk i' j := (scanDown_end (fun x => !lt x dk[a]!) dk i' j' (Or.inl hle2)).symm.trans HSD.out
                          have HJ2 := Lib.hid hj2
                          have hnz : (j' : Int) < (i' : Int) := by omega
                          clear hj2
                          have HP : Hid (partition lt d a b pivot = (j', false, swp dk j' a)) := Lib.hid (by rw [HPF.out, ← HEQ.out, part_break lt a i j dk HI2.out HJ2.out (by omega)])
                          go_wp2
                          obtain ⟨W2, hs, hr2, he2⟩ := HE.out.swap dk _ (j') (a) HL0.out.row HS.out (by omega) (by omega)
                          have HL3 := Lib.hid (HL0.out.step HLOW.out hr2 he2)
                          have HSW := Lib.hid hs
                          clear hr2 he2 hs
                          go_wp2
                          rw [HSW.out, Oper.upon_value]
                          clear HSW c0 c1 HL0
                          obtain ⟨c0, c1⟩ := HL3.out.box
                          go_wp2
                          go_ret2
                          exact ⟨by rw [HP.out]; rfl, by rw [HP.out]; exact HL3.out.row, HL3.out.ext⟩
                  · have HI2 : Hid (i' = scanUp (fun x => lt x dk[a]!) dk j i) := Lib.hid ((scanUp_end (fun x => lt x dk[a]!) dk j i' (Or.inl hle)).symm.trans HSU.out)
                    go_wp2
                    go_loopw [11] (fun vj w2 => ∃ (j' : Nat), vj = .int .i64 j' ∧ j' ≤ j ∧ i' ≤ j' + 1 ∧ Hid (At R B W.heap.size g lb sf sb W dk w2) ∧ Hid (scanDown (fun x => !lt x dk[a]!) dk i' j' = scanDown (fun x => !lt x dk[a]!) dk i' j)) (fun vj _ => (intOf vj).toNat)
                    case atStart => exact ⟨j, rfl, Nat.le_refl _, hij', HU0, Lib.hid rfl⟩
                    case round =>
                      obtain ⟨j', rfl, hjj, hij2, HL0, HSD⟩ := hrel
                      clear HU0
                      obtain ⟨c0, c1⟩ := HL0.out.box
                      by_cases hle2 : i' ≤ j'
                      · exfalso; omega
                      · have hj2 : j' = scanDown (fun x => !lt x dk[a]!) dk i' j := (scanDown_end (fun x => !lt x dk[a]!) dk i' j' (Or.inl hle2)).symm.trans HSD.out
                        have HJ2 := Lib.hid hj2
                        have hnz : (j' : Int) < (i' : Int) := by omega
                        clear hj2
                        have HP : Hid (partition lt d a b pivot = (j', false, swp dk j' a)) := Lib.hid (by rw [HPF.out, ← HEQ.out, part_break lt a i j dk HI2.out HJ2.out (by omega)])
                        go_wp2
                        obtain ⟨W2, hs, hr2, he2⟩ := HE.out.swap dk _ (j') (a) HL0.out.row HS.out (by omega) (by omega)
                        have HL3 := Lib.hid (HL0.out.step HLOW.out hr2 he2)
                        have HSW := Lib.hid hs
                        clear hr2 he2 hs
                        go_wp2
                        rw [HSW.out, Oper.upon_value]
                        clear HSW c0 c1 HL0
                        obtain ⟨c0, c1⟩ := HL3.out.box
                        go_wp2
                        go_ret2
                        exact ⟨by rw [HP.out]; rfl, by rw [HP.out]; exact HL3.out.row, HL3.out.ext⟩
          · have hj2 : j' = scanDown (fun x => !lt x dk[a]!) dk i' j := (scanDown_end (fun x => !lt x dk[a]!) dk i' j' (Or.inl hle2)).symm.trans HSD.out
            have HJ2 := Lib.hid hj2
            have hnz : (j' : Int) < (i' : Int) := by omega
            clear hj2
            have HP : Hid (partition lt d a b pivot = (j', true, swp dk j' a)) := Lib.hid (part_first_break lt d a b pivot HI.out HJ.out HD.out HI2.out HJ2.out (by omega))
            go_wp2
            obtain ⟨W2, hs, hr2, he2⟩ := HE.out.swap dk _ (j') (a) HL0.out.row HS.out (by omega) (by omega)
            have HL3 := Lib.hid (HL0.out.step HLOW.out hr2 he2)
            have HSW := Lib.hid hs
            clear hr2 he2 hs
            go_wp2
            rw [HSW.out, Oper.upon_value]
            clear HSW c0 c1 HL0
            obtain ⟨c0, c1⟩ := HL3.out.box
            go_wp2
            go_ret2
            exact ⟨by rw [HP.out]; rfl, by rw [HP.out]; exact HL3.out.row, HL3.out.ext⟩
    · have HI2 : Hid (i' = scanUp (fun x => lt x dk[a]!) dk j i) := Lib.hid ((scanUp_end (fun x => lt x dk[a]!) dk j i' (Or.inl hle)).symm.trans HSU.out)
      go_wp2
      go_loopw [11] (fun vj w2 => ∃ (j' : Nat), vj = .int .i64 j' ∧ j' ≤ j ∧ i' ≤ j' + 1 ∧ Hid (At R B W.heap.size g lb sf sb W dk w2) ∧ Hid (scanDown (fun x => !lt x dk[a]!) dk i' j' = scanDown (fun x => !lt x dk[a]!) dk i' j)) (fun vj _ => (intOf vj).toNat)
      case atStart => exact ⟨j, rfl, Nat.le_refl _, hij', HU0, Lib.hid rfl⟩
      case round =>
        obtain ⟨j', rfl, hjj, hij2, HL0, HSD⟩ := hrel
        clear HU0
        obtain ⟨c0, c1⟩ := HL0.out.box
        by_cases hle2 : i' ≤ j'
        · exfalso; omega
        · have hj2 : j' = scanDown (fun x => !lt x dk[a]!) dk i' j := (scanDown_end (fun x => !lt x dk[a]!) dk i' j' (Or.inl hle2)).symm.trans HSD.out
          have HJ2 := Lib.hid hj2
          have hnz : (j' : Int) < (i' : Int) := by omega
          clear hj2
          have HP : Hid (partition lt d a b pivot = (j', true, swp dk j' a)) := Lib.hid (part_first_break lt d a b pivot HI.out HJ.out HD.out HI2.out HJ2.out (by omega))
          go_wp2
          obtain ⟨W2, hs, hr2, he2⟩ := HE.out.swap dk _ (j') (a) HL0.out.row HS.out (by omega) (by omega)
          have HL3 := Lib.hid (HL0.out.step HLOW.out hr2 he2)
          have HSW := Lib.hid hs
          clear hr2 he2 hs
          go_wp2
          rw [HSW.out, Oper.upon_value]
          clear HSW c0 c1 HL0
          obtain ⟨c0, c1⟩ := HL3.out.box
          go_wp2
          go_ret2
          exact ⟨by rw [HP.out]; rfl, by rw [HP.out]; exact HL3.out.row, HL3.out.ext⟩
end
end Go.Proofs.Ytdhibalpnccbiaa
