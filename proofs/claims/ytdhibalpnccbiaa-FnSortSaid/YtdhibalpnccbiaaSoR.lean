/- The row of versions that ModSort sorts: what the sort leans on holds of it; ModSort's contract. -/
import Derived.Test.YtdhibalpnccbiaaSo8
import Derived.Test.YtdhibalpnccbiaaSoL
import Derived.Shelf.GgSortFunc.SmallK
import Derived.Shelf.GgSortFunc.Tiny
import Derived.Shelf.SlSortFuncK.SWK
namespace Go.Proofs.Ytdhibalpnccbiaa
open Go.Shelf Go.RowKit Go.Lib Go.Sort
set_option linter.unusedVariables false
def encV (v : Ver) : List Value := [.string (bs v.1), .string (bs v.2)]
theorem encV_len (v : Ver) : (encV v).length = 2 := rfl
noncomputable def sT : TypeInfo := (Try.prog.info? 64).get (by kernel_rfl)
noncomputable def sE : TypeInfo := (Try.prog.info? 66).get (by kernel_rfl)
theorem sK (n : Nat) (h2 : 2 ≤ n) : swapperK n sE 25 = 9 := by
  have a : sE.hasPointers = true := by kernel_rfl
  have b : sE.bytes = 32 := by kernel_rfl
  have c : (n == 0) = false := by simp; omega
  have d : (n == 1) = false := by simp; omega
  simp [swapperK, a, b, c, d]
/-- The row is kept where its block is. -/
theorem holds_keep {W W' : World} {blk : Nat} {d : Array Ver} (h : HoldsK encV 2 W blk 0 d) (hk : ∀ o, W'.cell? ⟨blk, o, none⟩ = W.cell? ⟨blk, o, none⟩) (hf : ∀ o, W'.frozen? ⟨blk, o, none⟩ = W.frozen? ⟨blk, o, none⟩) : HoldsK encV 2 W' blk 0 d :=
  fun i hi => ⟨(hk _).trans (h i hi).1, (hf _).trans (h i hi).2⟩
theorem holds_below {W W' : World} {blk B : Nat} {d : Array Ver} (h : HoldsK encV 2 W blk 0 d) (hb : Go.RowKit.Below B W W') (hB : blk < B) : HoldsK encV 2 W' blk 0 d :=
  holds_keep h (fun o => hb.cell (p := ⟨blk, o, none⟩) hB) (fun o => hb.frozen (p := ⟨blk, o, none⟩) hB)
theorem ver_cells {W : World} {blk : Nat} {d : Array Ver} (h : HoldsK encV 2 W blk 0 d) (i : Nat) (hi : i < d.size) :
    W.cell? ⟨blk, i * 2, none⟩ = some (.string (bs d[i]!.1)) ∧ W.cell? ⟨blk, i * 2 + 1, none⟩ = some (.string (bs d[i]!.2)) := by
  have a := (h.cell (i := i) (c := 0) hi (by omega)).1
  have b := (h.cell (i := i) (c := 1) hi (by omega)).1
  simp only [Nat.zero_add, Nat.add_zero] at a b
  exact ⟨a, b⟩
theorem below_setCells {B : Nat} {W0 : World} (blk : Nat) (hB : B ≤ blk) : ∀ (vs : List Value) (o : Nat) (W : World), Go.RowKit.Below B W0 W → Go.RowKit.Below B W0 (W.setCells blk o vs)
  | [], _, _, h => h
  | v :: r, o, W, h => below_setCells blk hB r (o + 1) _ (h.setCell (p := ⟨blk, o, none⟩) hB v)
theorem size_setCells (blk : Nat) : ∀ (vs : List Value) (o : Nat) (W : World), (W.setCells blk o vs).heap.size = W.heap.size
  | [], _, _ => rfl
  | v :: r, o, W => (size_setCells blk r (o + 1) _).trans (by simp [World.setCell])
/-- All that is known of the row under way. -/
structure RowAt (W0 : World) (blk cb n c B : Nat) (d : Array Ver) (W : World) : Prop where
  holds : HoldsK encV 2 W blk 0 d
  box : W.cell? ⟨cb, 0, none⟩ = some (.slice (some ⟨blk, 0, none⟩) n c)
  good : ∀ i, i < n → Good d[i]!
  below : Go.RowKit.Below blk W0 W
  size : d.size = n
  big : B ≤ W.heap.size
theorem RowAt.later {W0 W W' : World} {blk cb n c B : Nat} {d : Array Ver} (h : RowAt W0 blk cb n c B d W) (h1 : blk < B) (h2 : cb < B) (hb : Go.RowKit.Below B W W') : RowAt W0 blk cb n c B d W' :=
  ⟨holds_below h.holds hb h1, (hb.cell (p := ⟨cb, 0, none⟩) h2).trans h.box, h.good, h.below.trans (hb.mono (Nat.le_of_lt h1)), h.size, Nat.le_trans h.big hb.size⟩
noncomputable def litV (blk n c : Nat) : Array Value := #[.slice (some ⟨blk, 0, none⟩) n c, typeHandle Try.prog 66]
theorem senv (W0 : World) (blk cb n c B : Nat) (hn : n ≤ 24) (h1 : blk < B) (h2 : cb < B) (h3 : cb ≠ blk) :
    SEnv vlt n B 84 #[.pointer (some ⟨cb, 0, none⟩)] 114 (litV blk n c) (RowAt W0 blk cb n c B) where
  low := fun d W h => h.big
  less := fun d W i j h hd hi hj => by
    have a := ver_cells h.holds i (by omega)
    have b := ver_cells h.holds j (by omega)
    refine (less84 W cb blk n c i j d[i]! d[j]! hi hj (by omega) h.box a.1 a.2 b.1 b.2 (h.good i hi) (h.good j hj)).mono ?_
    rintro e w' ⟨rfl, hb⟩
    exact ⟨rfl, h.later h1 h2 (hb.mono h.big), Ext.of_below hb⟩
  swap := fun d W i j h hd hi hj => by
    have hs := swapSwapsK_of_literal (P := Try.prog) false 114 (fun args W => run_callFunc_extern Try.func114 (by kernel_rfl) (by kernel_rfl) (by kernel_rfl) (e := Extern.ReflectliteSwapper.swap false) (by kernel_rfl) args W) 66 sE (by kernel_rfl) encV 2 encV_len (by kernel_rfl) (fun _ => by kernel_rfl)
      (fun x v hv => by simp [encV] at hv; rcases hv with rfl | rfl <;> rfl) blk 0 n c W d h.holds hd i j hi hj
    have hsw := (SWK.start h.holds).swap encV_len (Nat.lt_of_lt_of_le h1 h.big) i j (by omega) (by omega)
    have hH := hsw.holds (Nat.lt_of_lt_of_le h1 h.big) h.holds (size_swp _ _ _)
    refine ⟨_, hs, ⟨hH, ?_, ?_, ?_, (size_swp _ _ _).trans hd, ?_⟩, ⟨?_, ?_⟩⟩
    · rw [World.cell?_setCells_out blk _ _ _ _ (fun e _ => absurd e h3), World.cell?_setCells_out blk _ _ _ _ (fun e _ => absurd e h3)]
      exact h.box
    · intro t ht
      rw [swp_get d (by omega) (by omega)]
      split
      · exact h.good i hi
      · split
        · exact h.good j hj
        · exact h.good t ht
    · exact below_setCells blk (Nat.le_refl _) _ _ _ (below_setCells blk (Nat.le_refl _) _ _ _ h.below)
    · rw [size_setCells, size_setCells]; exact h.big
    · rw [size_setCells, size_setCells]; exact Nat.le_refl _
    · intro b o hb _
      have hne : b ≠ blk := by omega
      refine ⟨?_, by rw [World.frozen?_setCells, World.frozen?_setCells]⟩
      rw [World.cell?_setCells_out blk _ _ _ _ (fun e _ => absurd e hne), World.cell?_setCells_out blk _ _ _ _ (fun e _ => absurd e hne)]
  alloc := fun d W o h => h.later h1 h2 ((Go.RowKit.Below.refl _ _).alloc h.big o)
  drewN := fun d W k h => h.later h1 h2 ⟨rfl, rfl, rfl, Nat.le_refl _, fun _ _ => rfl⟩
  put := fun d W a v h ha => h.later h1 h2 ((Go.RowKit.Below.refl _ _).setCell ha v)
  enters := enters_of Try.func84 (by kernel_rfl) rfl
  fits := by omega
theorem below_grow (W : World) (os : Array Obj) : Go.RowKit.Below W.heap.size W (grow W os) :=
  ⟨rfl, rfl, rfl, by rw [size_grow]; omega, fun k hk => by
    show (W.heap ++ os)[k]? = _
    rw [Array.getElem?_append_left hk]⟩
def Sorted (W : World) (blk n : Nat) (d : Array Ver) (w' : World) : Prop := ∃ d', PermIn 0 n d d' ∧ SortedIn vlt 0 n d' ∧ HoldsK encV 2 w' blk 0 d' ∧ Go.RowKit.Below blk W w'
theorem permIn_refl (n : Nat) (d : Array Ver) : PermIn 0 n d d := ⟨rfl, fun _ _ => rfl, List.Perm.refl _⟩
set_option maxRecDepth 100000 in
theorem slice83 (blk n c : Nat) (d : Array Ver) (W : World) (hH : HoldsK encV 2 W blk 0 d) (hd : d.size = n) (hn : n ≤ 24) (hblk : blk < W.heap.size) (hg : ∀ i, i < n → Good d[i]!) :
    Calls Try.prog 83 #[.iface 64 (.slice (some ⟨blk, 0, none⟩) n c), .func (.func 84) #[] #[.pointer (some ⟨W.heap.size, 0, none⟩)]] (W.alloc (.cells #[.slice (some ⟨blk, 0, none⟩) n c] 64)) fun e w' => e = .returned (.tuple #[]) ∧ Sorted W blk n d w' := by
  have hb0 : Go.RowKit.Below W.heap.size W (W.alloc (.cells #[.slice (some ⟨blk, 0, none⟩) n c] 64)) := (Go.RowKit.Below.refl _ _).alloc (Nat.le_refl _) _
  by_cases h1 : n ≤ 1
  · have key : Calls Try.prog 83 #[.iface 64 (.slice (some ⟨blk, 0, none⟩) n c), .func (.func 84) #[] #[.pointer (some ⟨W.heap.size, 0, none⟩)]] (W.alloc (.cells #[.slice (some ⟨blk, 0, none⟩) n c] 64)) fun e w' => e = .returned (.tuple #[]) ∧ ∃ os, w' = grow (W.alloc (.cells #[.slice (some ⟨blk, 0, none⟩) n c] 64)) os := by
      clear hH hd hn hg hb0
      rcases Nat.le_one_iff_eq_zero_or_eq_one.1 h1 with rfl | rfl
      · exact Any.sort_Slice_tiny (P := Try.prog) (ρ := sl6_ren) sl6 64 66 sT sE (by kernel_rfl) (by kernel_rfl) (by kernel_rfl) (by kernel_rfl) 25 (fun _ => by kernel_rfl) _ 0 c h1 106 (by kernel_rfl) (.func 84) #[] _ _
      · exact Any.sort_Slice_tiny (P := Try.prog) (ρ := sl6_ren) sl6 64 66 sT sE (by kernel_rfl) (by kernel_rfl) (by kernel_rfl) (by kernel_rfl) 25 (fun _ => by kernel_rfl) _ 1 c h1 107 (by kernel_rfl) (.func 84) #[] _ _
    refine key.mono ?_
    rintro e w' ⟨rfl, os, rfl⟩
    have hb1 := (hb0.trans ((below_grow _ os).mono hb0.size))
    exact ⟨rfl, d, permIn_refl n d, fun i j _ _ _ => by omega, holds_below hH hb1 hblk, hb1.mono (Nat.le_of_lt hblk)⟩
  · refine Any.sort_Slice_of_pdq (P := Try.prog) (ρ := sl6_ren) sl6 64 66 sT sE (by kernel_rfl) (by kernel_rfl) (by kernel_rfl) (by kernel_rfl) 25 (fun _ => by kernel_rfl) _ n c (by omega) 114 (by rw [sK n (by omega)]; kernel_rfl) (.func 84) #[] _ _ _ ?_
    have hB : sliceBound Try.prog 66 sE 25 (some ⟨blk, 0, none⟩) n c = litV blk n c := by
      unfold sliceBound litV
      rw [if_neg (by rw [sK n (by omega)]; decide)]
    rw [hB]
    have hb2 : Go.RowKit.Below W.heap.size W (sliceWorld Try.prog sl6_ren 64 (some ⟨blk, 0, none⟩) n c (W.alloc (.cells #[.slice (some ⟨blk, 0, none⟩) n c] 64))) := by
      unfold sliceWorld
      exact (hb0.alloc hb0.size _).alloc (Nat.le_trans hb0.size (by simp)) _
    have hbox : (sliceWorld Try.prog sl6_ren 64 (some ⟨blk, 0, none⟩) n c (W.alloc (.cells #[.slice (some ⟨blk, 0, none⟩) n c] 64))).cell? ⟨W.heap.size, 0, none⟩ = some (.slice (some ⟨blk, 0, none⟩) n c) := by
      unfold sliceWorld
      rw [Below.cell (p := ⟨W.heap.size, 0, none⟩) ((Go.RowKit.Below.refl (W.heap.size + 1) _).alloc (by simp) _) (by simp), Below.cell (p := ⟨W.heap.size, 0, none⟩) ((Go.RowKit.Below.refl (W.heap.size + 1) _).alloc (by simp) _) (by simp)]
      simp
    have hlt := World.block_lt_of_cell? _ _ hbox
    generalize sliceWorld Try.prog sl6_ren 64 (some ⟨blk, 0, none⟩) n c (W.alloc (.cells #[.slice (some ⟨blk, 0, none⟩) n c] 64)) = W2 at hb2 hbox hlt
    have hlt' : W.heap.size < W2.heap.size := hlt
    have hR : RowAt W blk W.heap.size n c W2.heap.size d W2 := ⟨holds_below hH hb2 hblk, hbox, hg, hb2.mono (Nat.le_of_lt hblk), hd, Nat.le_refl _⟩
    have E := senv W blk W.heap.size n c W2.heap.size hn (Nat.lt_trans hblk hlt') hlt' (Nat.ne_of_gt hblk)
    have hlim : Lib.bitLen n < 1000 := by
      have h9 := Lib.bitLen_le n 62 (by omega) (by omega)
      omega
    have hs := pdq_sorts vlt swo_ver d 0 n (Lib.bitLen n) true true (Nat.zero_le _) (Nat.le_of_eq hd.symm) (Or.inl rfl)
    refine (pdq_any E swo_ver (by omega) (n + 1) 0 n (Lib.bitLen n) d W2 (by omega) hR hd (Nat.zero_le _) (Nat.le_refl _) hlim (Or.inl rfl)).mono ?_
    rintro e w' ⟨rfl, hr, he⟩
    exact ⟨rfl, _, hs.1, hs.2, hr.holds, hr.below⟩
set_option maxRecDepth 100000 in
/-- ModSort: the row ends sorted. -/
theorem modsort64 (blk n c : Nat) (d : Array Ver) (W : World) (hH : HoldsK encV 2 W blk 0 d) (hd : d.size = n) (hn : n ≤ 24) (hblk : blk < W.heap.size) (hg : ∀ i, i < n → Good d[i]!) :
    Calls Try.prog 64 #[.slice (some ⟨blk, 0, none⟩) n c] W fun e w' => e = .returned (.tuple #[]) ∧ Sorted W blk n d w' := by
  have hs := Lib.hid (slice83 blk n c d W hH hd hn hblk hg)
  clear hH hg
  have e83 : ∀ args w, (callFunc 83 args).run Try.prog w = .ok (.enter 83 args) w := enters_of Try.func83 (by kernel_rfl) rfl
  go_enter Try.func64, Try.ntmps64
  go_wp2_with fail
  refine hs.out.mono ?_
  rintro e w' ⟨rfl, h⟩
  have H := Lib.hid h
  clear h
  go_wp2
  go_end0
  exact ⟨rfl, H.out⟩
end Go.Proofs.Ytdhibalpnccbiaa
