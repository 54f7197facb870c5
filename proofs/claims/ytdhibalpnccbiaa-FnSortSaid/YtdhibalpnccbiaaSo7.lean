/- The numbers that sort.Slice, and all that it reaches, bear in this program. -/
import Derived.Shelf.GgSortFunc.Slice
import Derived.Test.YtdhibalpnccbiaaProg
import Derived.Test.YtdhibalpnccbiaaSo0
import Derived.Sort.LotD1
import Derived.Shelf.SlSortFunc.Xorshift
import Derived.Sort.Walk7
namespace Go.Proofs.Ytdhibalpnccbiaa
open Go.Shelf
def sl6_ren : Go.Shelf.Ren := ⟨fun | 6 => 83 | 10 => 95 | 11 => 96 | 12 => 97 | 13 => 98 | 14 => 99 | 24 => 115 | 25 => 116 | 26 => 117 | 27 => 118 | 28 => 119 | 29 => 120 | 30 => 121 | 31 => 122 | 32 => 123 | 33 => 124 | 34 => 128 | 35 => 129 | 36 => 130 | 37 => 131 | 38 => 132 | 39 => 133 | n => n, fun | 20 => 20 | 26 => 73 | 35 => 81 | 0 => 0 | 37 => 83 | 3 => 3 | 41 => 87 | 44 => 90 | 49 => 97 | 51 => 99 | 4 => 4 | 54 => 102 | 53 => 101 | 58 => 106 | 5 => 5 | 9 => 9 | 60 => 108 | 64 => 112 | 66 => 114 | 67 => 42 | 17 => 17 | 32 => 78 | 33 => 79 | 82 => 128 | 12 => 12 | 75 => 121 | 76 => 122 | 77 => 123 | 78 => 124 | 79 => 125 | 80 => 126 | n => n, fun | n => n⟩
set_option maxRecDepth 100000 in
theorem sl6 : LaysGg.n6 Try.prog sl6_ren where
  mixed := by kernel_rfl
  f6 := Try.func83.trans (congrArg some (by kernel_rfl))
  f10 := Try.func95.trans (congrArg some (by kernel_rfl))
  f11 := Try.func96.trans (congrArg some (by kernel_rfl))
  f12 := Try.func97.trans (congrArg some (by kernel_rfl))
  f13 := Try.func98.trans (congrArg some (by kernel_rfl))
  f14 := Try.func99.trans (congrArg some (by kernel_rfl))
  f24 := Try.func115.trans (congrArg some (by kernel_rfl))
  f25 := Try.func116.trans (congrArg some (by kernel_rfl))
  f26 := Try.func117.trans (congrArg some (by kernel_rfl))
  f27 := Try.func118.trans (congrArg some (by kernel_rfl))
  f28 := Try.func119.trans (congrArg some (by kernel_rfl))
  f29 := Try.func120.trans (congrArg some (by kernel_rfl))
  f30 := Try.func121.trans (congrArg some (by kernel_rfl))
  f31 := Try.func122.trans (congrArg some (by kernel_rfl))
  f32 := Try.func123.trans (congrArg some (by kernel_rfl))
  f33 := Try.func124.trans (congrArg some (by kernel_rfl))
  f34 := Try.func128.trans (congrArg some (by kernel_rfl))
  f35 := Try.func129.trans (congrArg some (by kernel_rfl))
  f36 := Try.func130.trans (congrArg some (by kernel_rfl))
  f37 := Try.func131.trans (congrArg some (by kernel_rfl))
  f38 := Try.func132.trans (congrArg some (by kernel_rfl))
  f39 := Try.func133.trans (congrArg some (by kernel_rfl))
  t0 := Try.underlying0
  a0 := Try.isAgg0
  z0 := Try.sizeOf0
  v0 := Try.zeroValue0
  i0 := by kernel_rfl
  t3 := Try.underlying3
  a3 := Try.isAgg3
  z3 := Try.sizeOf3
  v3 := Try.zeroValue3
  i3 := by kernel_rfl
  t4 := Try.underlying4
  a4 := Try.isAgg4
  z4 := Try.sizeOf4
  v4 := Try.zeroValue4
  i4 := by kernel_rfl
  t5 := Try.underlying5
  a5 := Try.isAgg5
  z5 := Try.sizeOf5
  v5 := Try.zeroValue5
  i5 := by kernel_rfl
  t9 := Try.underlying9
  a9 := Try.isAgg9
  z9 := Try.sizeOf9
  v9 := Try.zeroValue9
  i9 := by kernel_rfl
  t12 := Try.underlying12
  a12 := Try.isAgg12
  z12 := Try.sizeOf12
  v12 := Try.zeroValue12
  i12 := by kernel_rfl
  t17 := Try.underlying17
  a17 := Try.isAgg17
  z17 := Try.sizeOf17
  v17 := Try.zeroValue17
  i17 := by kernel_rfl
  t20 := Try.underlying20
  a20 := Try.isAgg20
  z20 := Try.sizeOf20
  v20 := Try.zeroValue20
  i20 := by kernel_rfl
  t26 := Try.underlying73
  a26 := Try.isAgg73
  z26 := Try.sizeOf73
  v26 := Try.zeroValue73
  i26 := by kernel_rfl
  t32 := Try.underlying78
  a32 := Try.isAgg78
  z32 := Try.sizeOf78
  v32 := Try.zeroValue78
  i32 := by kernel_rfl
  t33 := Try.underlying79
  a33 := Try.isAgg79
  z33 := Try.sizeOf79
  v33 := Try.zeroValue79
  i33 := by kernel_rfl
  t35 := Try.underlying81
  a35 := Try.isAgg81
  z35 := Try.sizeOf81
  v35 := Try.zeroValue81
  i35 := by kernel_rfl
  t37 := Try.underlying83
  a37 := Try.isAgg83
  z37 := Try.sizeOf83
  v37 := Try.zeroValue83
  i37 := by kernel_rfl
  t41 := Try.underlying87
  a41 := Try.isAgg87
  z41 := Try.sizeOf87
  v41 := Try.zeroValue87
  i41 := by kernel_rfl
  t44 := Try.underlying90
  a44 := Try.isAgg90
  z44 := Try.sizeOf90
  v44 := Try.zeroValue90
  i44 := by kernel_rfl
  t49 := Try.underlying97
  a49 := Try.isAgg97
  z49 := Try.sizeOf97
  v49 := Try.zeroValue97
  i49 := by kernel_rfl
  t51 := Try.underlying99
  a51 := Try.isAgg99
  z51 := Try.sizeOf99
  v51 := Try.zeroValue99
  i51 := by kernel_rfl
  t53 := Try.underlying101
  a53 := Try.isAgg101
  z53 := Try.sizeOf101
  v53 := Try.zeroValue101
  i53 := by kernel_rfl
  t54 := Try.underlying102
  a54 := Try.isAgg102
  z54 := Try.sizeOf102
  v54 := Try.zeroValue102
  i54 := by kernel_rfl
  t58 := Try.underlying106
  a58 := Try.isAgg106
  z58 := Try.sizeOf106
  v58 := Try.zeroValue106
  i58 := by kernel_rfl
  t60 := Try.underlying108
  a60 := Try.isAgg108
  z60 := Try.sizeOf108
  v60 := Try.zeroValue108
  i60 := by kernel_rfl
  t64 := Try.underlying112
  a64 := Try.isAgg112
  z64 := Try.sizeOf112
  v64 := Try.zeroValue112
  i64 := by kernel_rfl
  t66 := Try.underlying114
  a66 := Try.isAgg114
  z66 := Try.sizeOf114
  v66 := Try.zeroValue114
  i66 := by kernel_rfl
  t67 := Try.underlying42
  a67 := Try.isAgg42
  z67 := Try.sizeOf42
  v67 := Try.zeroValue42
  i67 := by kernel_rfl
  t75 := Try.underlying121
  a75 := Try.isAgg121
  z75 := Try.sizeOf121
  v75 := Try.zeroValue121
  i75 := by kernel_rfl
  t76 := Try.underlying122
  a76 := Try.isAgg122
  z76 := Try.sizeOf122
  v76 := Try.zeroValue122
  i76 := by kernel_rfl
  t77 := Try.underlying123
  a77 := Try.isAgg123
  z77 := Try.sizeOf123
  v77 := Try.zeroValue123
  i77 := by kernel_rfl
  t78 := Try.underlying124
  a78 := Try.isAgg124
  z78 := Try.sizeOf124
  v78 := Try.zeroValue124
  i78 := by kernel_rfl
  t79 := Try.underlying125
  a79 := Try.isAgg125
  z79 := Try.sizeOf125
  v79 := Try.zeroValue125
  i79 := by kernel_rfl
  t80 := Try.underlying126
  a80 := Try.isAgg126
  z80 := Try.sizeOf126
  v80 := Try.zeroValue126
  i80 := by kernel_rfl
  t82 := Try.underlying128
  a82 := Try.isAgg128
  z82 := Try.sizeOf128
  v82 := Try.zeroValue128
  i82 := by kernel_rfl
end Go.Proofs.Ytdhibalpnccbiaa

namespace Go.Proofs.Ytdhibalpnccbiaa
open Go.RowKit Go.Sort
set_option linter.unusedVariables false
/-- As Ext, but for one block: that of the count. -/
def ExtX (B s : Nat) (W W' : World) : Prop := W.heap.size ≤ W'.heap.size ∧ ∀ b i, B ≤ b → b ≠ s → b < W.heap.size → W'.cell? ⟨b, i, none⟩ = W.cell? ⟨b, i, none⟩ ∧ W'.frozen? ⟨b, i, none⟩ = W.frozen? ⟨b, i, none⟩
theorem Ext.x {B : Nat} (s : Nat) {W W' : World} (h : Ext B W W') : ExtX B s W W' := ⟨h.1, fun b i hb _ hl => h.2 b i hb hl⟩
theorem ExtX.trans {B s : Nat} {W W' W'' : World} (h : ExtX B s W W') (h' : ExtX B s W' W'') : ExtX B s W W'' :=
  ⟨Nat.le_trans h.1 h'.1, fun b i hb hs hl => by
    have h1 := h.2 b i hb hs hl
    have h2 := h'.2 b i hb hs (Nat.lt_of_lt_of_le hl h.1)
    exact ⟨h2.1.trans h1.1, h2.2.trans h1.2⟩⟩
theorem ExtX.put {B s : Nat} (W : World) (v : Value) : ExtX B s W (W.setCell ⟨s, 0, none⟩ v) :=
  ⟨by simp, fun b i _ hs _ => ⟨World.cell?_setCell_other _ _ _ _ (by intro e; cases e; exact hs rfl), by simp⟩⟩
/-- Where nothing of the count's own block is asked. -/
theorem ExtX.fresh {B s : Nat} {W W' : World} (h : ExtX B s W W') {W0 : World} (h0 : Ext B W0 W) (hs : W0.heap.size ≤ s) : Ext B W0 W' :=
  ⟨Nat.le_trans h0.1 h.1, fun b i hb hl => by
    have h1 := h0.2 b i hb hl
    have h2 := h.2 b i hb (by omega) (Nat.lt_of_lt_of_le hl h0.1)
    exact ⟨h2.1.trans h1.1, h2.2.trans h1.2⟩⟩
def Cnt (W : World) (s c : Nat) : Prop := W.cell? ⟨s, 0, none⟩ = some (.int .i64 c) ∧ W.frozen? ⟨s, 0, none⟩ = false
theorem Cnt.lt {W : World} {s c : Nat} (h : Cnt W s c) : s < W.heap.size := World.block_lt_of_cell? _ _ h.1
theorem Cnt.later {B : Nat} {W W' : World} {s c : Nat} (h : Cnt W s c) (hB : B ≤ s) (he : Ext B W W') : Cnt W' s c :=
  ⟨(he.2 s 0 hB h.lt).1.trans h.1, (he.2 s 0 hB h.lt).2.trans h.2⟩
theorem Cnt.put {W : World} {s c c' : Nat} (h : Cnt W s c) : Cnt (W.setCell ⟨s, 0, none⟩ (.int .i64 (c' : Int))) s c' := by
  have h1 := h.1
  have h2 := h.2
  constructor <;> simp [go_sem, h1, h2]
theorem LBox.laterX {W W' : World} {B b s g : Nat} {lb : Array Value} {sf : Nat} {sb : Array Value} (h : LBox W b g lb sf sb) (hB : B ≤ b) (hs : b ≠ s) (he : ExtX B s W W') : LBox W' b g lb sf sb := by
  have hlt : b < W.heap.size := World.block_lt_of_cell? _ _ h.1
  exact ⟨(he.2 b 0 hB hs hlt).1.trans h.1, (he.2 b 1 hB hs hlt).1.trans h.2⟩
section
variable {α : Type} [Inhabited α] {lt : α → α → Bool} {n B g : Nat} {lb : Array Value} {sf : Nat} {sb : Array Value} {R : Array α → World → Prop}
set_option maxHeartbeats 2000000 in
set_option maxRecDepth 100000 in
theorem order2_any (E : SEnv lt n B g lb sf sb R) (a b c s : Nat) (d : Array α) (W : World) (hR : R d W) (hd : d.size = n) (ha : a < n) (hb : b < n) (hc : c ≤ 1000) (hs : Cnt W s c) (hB : B ≤ s) :
    Calls Try.prog 133 #[.agg #[.func (.func g) #[] lb, .func (.func sf) #[] sb], .int .i64 a, .int .i64 b, .pointer (some ⟨s, 0, none⟩)] W fun e w' => e = .returned (.tuple #[.int .i64 (order2 lt d a b c).1, .int .i64 (order2 lt d a b c).2.1]) ∧ R d w' ∧ ExtX B s W w' ∧ Cnt w' s (order2 lt d a b c).2.2 := by
  have hn := E.fits
  have eg := E.enters
  have hlow := E.low _ _ hR
  have HA := Lib.hid (At.new E hR 90)
  have HE := Lib.hid E
  have HLOW := Lib.hid hlow
  clear hR hlow
  have HSZ := Lib.hid hd
  have hs1 := hs.lt
  have HC := Lib.hid (hs.later hB (Ext.alloc (B := B) W (.cells #[.func (.func g) #[] lb, .func (.func sf) #[] sb] 90)))
  clear hd hs
  cases hl0 : lt d[b]! d[a]! with
  | true =>
    have HL0 := Lib.hid hl0
    have HO : Hid (order2 lt d a b c = (b, a, c + 1)) := Lib.hid (by unfold order2; rw [hl0]; rfl)
    clear hl0
    have hA := HA.out
    go_enter Try.func133, Try.ntmps133
    obtain ⟨c0, c1⟩ := HA.out.box
    clear hA
    go_wp2_with fail
    have hl := HE.out.less d _ b a HA.out.row HSZ.out hb ha
    rw [HL0.out] at hl
    refine hl.mono ?_
    rintro e w' ⟨rfl, hr, he⟩
    have HC2 := Lib.hid (HC.out.later hB he)
    have HX := Lib.hid ((HA.out.ext.trans he).x s)
    have HR := Lib.hid hr
    obtain ⟨k0, k1⟩ := HC2.out
    clear hl hr he c0 c1
    go_wp2
    go_ret2
    exact ⟨by rw [HO.out]; rfl, HE.out.put _ _ _ _ HR.out hB, HX.out.trans (ExtX.put _ _), by rw [HO.out]; exact HC2.out.put⟩
  | false =>
    have HL0 := Lib.hid hl0
    have HO : Hid (order2 lt d a b c = (a, b, c)) := Lib.hid (by unfold order2; rw [hl0]; rfl)
    clear hl0
    go_enter Try.func133, Try.ntmps133
    obtain ⟨c0, c1⟩ := HA.out.box
    go_wp2_with fail
    have hl := HE.out.less d _ b a HA.out.row HSZ.out hb ha
    rw [HL0.out] at hl
    refine hl.mono ?_
    rintro e w' ⟨rfl, hr, he⟩
    have HC2 := Lib.hid (HC.out.later hB he)
    have HX := Lib.hid ((HA.out.ext.trans he).x s)
    have HR := Lib.hid hr
    clear hl hr he c0 c1
    go_wp2
    go_ret2
    exact ⟨by rw [HO.out]; rfl, HR.out, HX.out, by rw [HO.out]; exact HC2.out⟩
theorem order2_cnt (lt : α → α → Bool) (d : Array α) (a b c : Nat) : (order2 lt d a b c).2.2 ≤ c + 1 := by
  unfold order2; split <;> simp
set_option maxHeartbeats 2000000 in
set_option maxRecDepth 100000 in
theorem median_any (E : SEnv lt n B g lb sf sb R) (a b c k s : Nat) (d : Array α) (W : World) (hR : R d W) (hd : d.size = n) (ha : a < n) (hb : b < n) (hc : c < n) (hk : k ≤ 900) (hs : Cnt W s k) (hB : B ≤ s) :
    Calls Try.prog 132 #[.agg #[.func (.func g) #[] lb, .func (.func sf) #[] sb], .int .i64 a, .int .i64 b, .int .i64 c, .pointer (some ⟨s, 0, none⟩)] W fun e w' => e = .returned (.int .i64 (median lt d a b c k).1) ∧ R d w' ∧ ExtX B s W w' ∧ Cnt w' s (median lt d a b c k).2 := by
  have hn := E.fits
  have eg := E.enters
  have hlow := E.low _ _ hR
  have HA := Lib.hid (At.new E hR 90)
  have HE := Lib.hid E
  have HLOW := Lib.hid hlow
  clear hR hlow
  have HSZ := Lib.hid hd
  have hs1 := hs.lt
  have HC := Lib.hid (hs.later hB (Ext.alloc (B := B) W (.cells #[.func (.func g) #[] lb, .func (.func sf) #[] sb] 90)))
  have HRW := Lib.hid HA.out.row
  have HBX := Lib.hid HA.out.box
  have HKB := Lib.hid hk
  clear hd hs
  go_enter Try.func132, Try.ntmps132
  obtain ⟨c0, c1⟩ := HBX.out
  obtain ⟨⟨p1, q1, k1⟩, hq⟩ : ∃ r, order2 lt d a b k = r := ⟨_, rfl⟩
  have hm := order2_mem lt d a b k
  have hk := order2_cnt lt d a b k
  rw [hq] at hm hk
  simp only at hm hk
  have Hp1 := Lib.hid hq
  have hxp1 : p1 < n ∧ q1 < n := by rcases hm with ⟨e1, e2⟩ | ⟨e1, e2⟩ <;> rw [e1, e2] <;> exact ⟨by omega, by omega⟩
  clear hq hm
  go_wp2_with fail
  refine (order2_any HE.out a b k s d _ HRW.out HSZ.out (by omega) (by omega) (by omega) HC.out hB).mono ?_
  rintro e w1 ⟨rfl, hr, hx, hc'⟩
  rw [Hp1.out]
  rw [Hp1.out] at hc'
  have Rw1 := Lib.hid hr
  have Cw1 := Lib.hid hc'
  have Bw1 := Lib.hid (HBX.out.laterX HLOW.out (by omega) hx)
  have Xw1 := Lib.hid hx
  clear hr hc' hx c0 c1
  obtain ⟨c0, c1⟩ := Bw1.out
  obtain ⟨⟨p2, q2, k2⟩, hq⟩ : ∃ r, order2 lt d q1 c k1 = r := ⟨_, rfl⟩
  have hm := order2_mem lt d q1 c k1
  have hk := order2_cnt lt d q1 c k1
  rw [hq] at hm hk
  simp only at hm hk
  have Hp2 := Lib.hid hq
  have hxp2 : p2 < n ∧ q2 < n := by rcases hm with ⟨e1, e2⟩ | ⟨e1, e2⟩ <;> rw [e1, e2] <;> exact ⟨by omega, by omega⟩
  clear hq hm
  go_wp2_with fail
  refine (order2_any HE.out q1 c k1 s d _ Rw1.out HSZ.out (by omega) (by omega) (by omega) Cw1.out hB).mono ?_
  rintro e w2 ⟨rfl, hr, hx, hc'⟩
  rw [Hp2.out]
  rw [Hp2.out] at hc'
  have Rw2 := Lib.hid hr
  have Cw2 := Lib.hid hc'
  have Bw2 := Lib.hid (Bw1.out.laterX HLOW.out (by omega) hx)
  have Xw2 := Lib.hid hx
  clear hr hc' hx c0 c1
  obtain ⟨c0, c1⟩ := Bw2.out
  obtain ⟨⟨p3, q3, k3⟩, hq⟩ : ∃ r, order2 lt d p1 p2 k2 = r := ⟨_, rfl⟩
  have hm := order2_mem lt d p1 p2 k2
  have hk := order2_cnt lt d p1 p2 k2
  rw [hq] at hm hk
  simp only at hm hk
  have Hp3 := Lib.hid hq
  have hxp3 : p3 < n ∧ q3 < n := by rcases hm with ⟨e1, e2⟩ | ⟨e1, e2⟩ <;> rw [e1, e2] <;> exact ⟨by omega, by omega⟩
  clear hq hm
  go_wp2_with fail
  refine (order2_any HE.out p1 p2 k2 s d _ Rw2.out HSZ.out (by omega) (by omega) (by omega) Cw2.out hB).mono ?_
  rintro e w3 ⟨rfl, hr, hx, hc'⟩
  rw [Hp3.out]
  rw [Hp3.out] at hc'
  have Rw3 := Lib.hid hr
  have Cw3 := Lib.hid hc'
  have Bw3 := Lib.hid (Bw2.out.laterX HLOW.out (by omega) hx)
  have Xw3 := Lib.hid hx
  clear hr hc' hx c0 c1
  obtain ⟨c0, c1⟩ := Bw3.out
  have HM : Hid (median lt d a b c k = (q3, k3)) := Lib.hid (by
    unfold median
    simp only [Hp1.out, Hp2.out, Hp3.out])
  go_wp2
  go_ret
  exact ⟨by rw [HM.out]; rfl, Rw3.out, ((HA.out.ext.x s).trans Xw1.out).trans (Xw2.out.trans Xw3.out), by rw [HM.out]; exact Cw3.out⟩
end
end Go.Proofs.Ytdhibalpnccbiaa

namespace Go.Proofs.Ytdhibalpnccbiaa
open Go.RowKit Go.Sort
set_option linter.unusedVariables false
section
variable {α : Type} [Inhabited α] {lt : α → α → Bool} {n B g : Nat} {lb : Array Value} {sf : Nat} {sb : Array Value} {R : Array α → World → Prop}
def hintI (h : Hint) : Int := if h = .increasing then 1 else 0
def NotDec (h : Hint) : Prop := h ≠ .decreasing
theorem median_cnt (lt : α → α → Bool) (d : Array α) (a b c k : Nat) : (median lt d a b c k).2 ≤ k + 3 := by
  unfold median
  have h1 := order2_cnt lt d a b k
  have h2 := order2_cnt lt d (order2 lt d a b k).2.1 c (order2 lt d a b k).2.2
  have h3 := order2_cnt lt d (order2 lt d a b k).1 (order2 lt d (order2 lt d a b k).2.1 c (order2 lt d a b k).2.2).1 (order2 lt d (order2 lt d a b k).2.1 c (order2 lt d a b k).2.2).2.2
  simp only
  omega
set_option maxHeartbeats 2000000 in
set_option maxRecDepth 100000 in
theorem pivot_any (E : SEnv lt n B g lb sf sb R) (a b : Nat) (d : Array α) (W : World) (hR : R d W) (hd : d.size = n) (hab : a + 8 ≤ b) (h50 : b < a + 50) (hb : b ≤ n) :
    Calls Try.prog 120 #[.agg #[.func (.func g) #[] lb, .func (.func sf) #[] sb], .int .i64 a, .int .i64 b] W fun e w' => e = .returned (.tuple #[.int .i64 (choosePivot lt d a b).1, .int .i64 (hintI (choosePivot lt d a b).2)]) ∧ NotDec (choosePivot lt d a b).2 ∧ R d w' ∧ Ext B W w' := by
  have hn := E.fits
  have eg := E.enters
  have hlow := E.low _ _ hR
  have HA := Lib.hid (At.new E hR 90)
  have HE := Lib.hid E
  have HLOW := Lib.hid hlow
  clear hR hlow
  have HSZ := Lib.hid hd
  obtain ⟨l, hl⟩ : ∃ l, b = a + l := ⟨b - a, by omega⟩
  have hlz : (b : Int) - (a : Int) = (l : Int) := by omega
  have hq1 : (l : Int).tdiv 4 = ((l / 4 : Nat) : Int) := by rw [Int.tdiv_eq_ediv_of_nonneg (by omega)]; omega
  have hq2 : (l : Int) / 4 = ((l / 4 : Nat) : Int) := by omega
  obtain ⟨q, hq⟩ : ∃ q, l / 4 = q := ⟨_, rfl⟩
  rw [hq] at hq1 hq2
  have hqb : 4 * q ≤ l ∧ l < 4 * q + 4 := by omega
  obtain ⟨hqa, hqc⟩ := hqb
  have hl8 : 8 ≤ l := by omega
  have hl50 : l < 50 := by omega
  have HCP : Hid (choosePivot lt d a b = ((median lt d (a + q * 1) (a + q * 2) (a + q * 3) 0).1, if (median lt d (a + q * 1) (a + q * 2) (a + q * 3) 0).2 = 0 then .increasing else if (median lt d (a + q * 1) (a + q * 2) (a + q * 3) 0).2 = 12 then .decreasing else .unknown)) := Lib.hid (by
    unfold choosePivot
    simp only [show b - a = l by omega, hq, ge_iff_le, hl8, if_true, show ¬ 50 ≤ l by omega, if_false])
  have hmc := median_cnt lt d (a + q * 1) (a + q * 2) (a + q * 3) 0
  have HMC := Lib.hid hmc
  have hme := fun s W' h1 h2 h3 => median_any E (a + q * 1) (a + q * 2) (a + q * 3) 0 s d W' h1 hd (by omega) (by omega) (by omega) (by omega) h2 h3
  simp only [show ((a + q * 1 : Nat) : Int) = (a : Int) + (q : Int) by omega, show ((a + q * 2 : Nat) : Int) = (a : Int) + (q : Int) * 2 by omega, show ((a + q * 3 : Nat) : Int) = (a : Int) + (q : Int) * 3 by omega] at hme
  obtain ⟨⟨mp, mk⟩, hm⟩ : ∃ r, median lt d (a + q * 1) (a + q * 2) (a + q * 3) 0 = r := ⟨_, rfl⟩
  rw [hm] at HCP HMC
  rw [hm] at hme
  have HME := Lib.hid hme
  clear hmc hm hme hq hd hl
  go_enter Try.func120, Try.ntmps120
  obtain ⟨c0, c1⟩ := HA.out.box
  have HN := Lib.hid (E.alloc _ _ (.cells #[.int .i64 0] 3) HA.out.row)
  have HCN : Hid (Cnt ((W.alloc (.cells #[.func (.func g) #[] lb, .func (.func sf) #[] sb] 90)).alloc (.cells #[.int .i64 0] 3)) (W.heap.size + 1) 0) := Lib.hid (by constructor <;> simp [go_sem])
  have HEX := Lib.hid (HA.out.ext.trans (Ext.alloc (B := B) (W.alloc (.cells #[.func (.func g) #[] lb, .func (.func sf) #[] sb] 90)) (.cells #[.int .i64 0] 3)))
  have hBs : B ≤ W.heap.size + 1 := by have := HLOW.out; omega
  have HBS := Lib.hid hBs
  clear hBs
  go_wp2_with fail
  refine (HME.out (W.heap.size + 1) _ HN.out HCN.out HBS.out).mono ?_
  rintro e w1 ⟨rfl, hr, hx, hc⟩
  have HR1 := Lib.hid hr
  have HX1 := Lib.hid (hx.fresh HEX.out (Nat.le_succ _))
  obtain ⟨k0, k1⟩ := hc
  clear hr hx c0 c1
  have hmk := HMC.out
  simp only [Nat.zero_add] at hmk
  by_cases h0 : mk = 0
  · subst h0
    have HP : Hid (choosePivot lt d a b = (mp, .increasing)) := Lib.hid (by rw [HCP.out]; rfl)
    go_wp2
    go_ret2
    exact ⟨by rw [HP.out]; rfl, (by rw [HP.out]; exact fun h => Hint.noConfusion h), HR1.out, HX1.out⟩
  · have h12 : ((mk : Int) == 12) = false := by simp; omega
    have h00 : ((mk : Int) == 0) = false := by simp; omega
    have HP : Hid (choosePivot lt d a b = (mp, .unknown)) := Lib.hid (by rw [HCP.out]; simp only [h0, if_false, show ¬ mk = 12 by omega])
    clear h0
    go_wp2
    go_ret2
    exact ⟨by rw [HP.out]; rfl, (by rw [HP.out]; exact fun h => Hint.noConfusion h), HR1.out, HX1.out⟩
end
end Go.Proofs.Ytdhibalpnccbiaa

namespace Go.Proofs.Ytdhibalpnccbiaa
open Go.Shelf Go.RowKit Go.Lib Go.Sort
set_option linter.unusedVariables false
section
variable {α : Type} [Inhabited α] {lt : α → α → Bool} {n B g : Nat} {lb : Array Value} {sf : Nat} {sb : Array Value} {R : Array α → World → Prop}
set_option maxHeartbeats 4000000 in
set_option maxRecDepth 1000000 in
theorem break_go (E : SEnv lt n B g lb sf sb R) (a l : Nat) (d : Array α) (W : World) (hR : R d W) (hd : d.size = n) (hb : a + l ≤ n) (h8 : 8 ≤ l) :
    Calls Try.prog 119 #[.agg #[.func (.func g) #[] lb, .func (.func sf) #[] sb], .int .i64 a, .int .i64 ((a + l : Nat) : Int)] W fun e w' => e = .returned (.tuple #[]) ∧ R (breakPatterns d a (a + l)) w' ∧ Ext B W w' := by
  have hn := E.fits
  have eg := E.enters
  have hlow := E.low _ _ hR
  have HA := Lib.hid (At.new E hR 90)
  have HE := Lib.hid E
  have HLOW := Lib.hid hlow
  clear hR hlow
  have HSZ := Lib.hid hd
  clear hd
  rw [breakPatterns_eq d a l h8]
  obtain ⟨M, hM⟩ : ∃ M : Nat, M = 1 <<< bitsLen l := ⟨_, rfl⟩
  have hM1 : 1 ≤ M := by rw [hM, Nat.one_shiftLeft]; exact Nat.two_pow_pos _
  have hM2 : M ≤ 2 * l := by rw [hM, Nat.one_shiftLeft]; exact two_pow_bitsLen_le (by omega)
  have hNP : ∀ w, Calls Try.prog 129 #[.int .i64 (l : Int)] w fun e w' => e = .returned (.int .u64 (M : Int)) ∧ w' = w := by rw [hM]; exact fun w => Any.nextPowerOfTwo (P := Try.prog) (ρ := sl6_ren) { sl6 with } l (by omega) w
  rw [← hM]
  clear hM
  have hLz : ((a : Int) + (l : Int) - (a : Int)) = (l : Int) := by omega
  have h8z : (8 : Int) ≤ (l : Int) := by omega
  have HR0 := Lib.hid (E.alloc _ _ (.cells #[.int .u64 (l : Int)] 108) HA.out.row)
  have HX0 := Lib.hid (HA.out.ext.trans (Ext.alloc (B := B) (W.alloc (.cells #[.func (.func g) #[] lb, .func (.func sf) #[] sb] 90)) (.cells #[.int .u64 (l : Int)] 108)))
  clear HA
  go_enter Try.func119, Try.ntmps119
  go_wp2_with (first | (go_at_call 129; refine (hNP _).mono ?_; rintro e w' ⟨rfl, rfl⟩))
  go_loopg [9] 3 (fun g1 vi wr => ∃ (t : Nat) (r : UInt64) (dk : Array α), vi = .int .i64 ((a : Int) + (l : Int) / 4 * 2 - 1 + (t : Int)) ∧ t ≤ 3 ∧ 3 - t ≤ g1 ∧ Hid (dk.size = n) ∧ Hid (R dk wr) ∧ Hid (Ext B W wr) ∧
      wr.cell? ⟨W.heap.size, 1, none⟩ = some (.func (.func sf) #[] sb) ∧ wr.cell? ⟨W.heap.size + 1, 0, none⟩ = some (.int .u64 (r.toNat : Int)) ∧ wr.frozen? ⟨W.heap.size + 1, 0, none⟩ = false ∧
      Hid (bpRest a l M (a + l / 4 * 2 - 1) (3 - t) t (r, dk) = bpRest a l M (a + l / 4 * 2 - 1) 3 0 (UInt64.ofNat l, d)))
  case atStart =>
    refine ⟨0, UInt64.ofNat l, d, by simp, by omega, by omega, HSZ, HR0, HX0, by simp, ?_, by simp, Lib.hid rfl⟩
    rw [show (UInt64.ofNat l).toNat = l from by simp; omega]
    simp
  case round =>
    obtain ⟨t, r, dk, rfl, ht, hg1, HS, HR1, HX1, c1, cR, fR, HR⟩ := hrel
    clear HR0 HX0
    by_cases ht3 : t < 3
    · have hle : (a : Int) + (l : Int) / 4 * 2 - 1 + (t : Int) ≤ (a : Int) + (l : Int) / 4 * 2 + 1 := by omega
      obtain ⟨X, hX⟩ : ∃ X : Nat, X = r.toNat := ⟨_, rfl⟩
      have lR : X < 18446744073709551616 := by rw [hX]; exact r.toNat_lt
      obtain ⟨X', hX'⟩ : ∃ X' : Nat, X' = xorNextN X := ⟨_, rfl⟩
      have lR' : X' < 18446744073709551616 := by rw [hX']; exact xorNextN_lt X lR
      obtain ⟨O, hO⟩ : ∃ O : Nat, O = X' &&& (M - 1) := ⟨_, rfl⟩
      have lO : O ≤ M - 1 := by rw [hO]; exact Nat.and_le_right
      have eAnd : bits .and .u64 (X' : Int) ((M : Int) - 1) = (O : Int) := by
        rw [show ((M : Int) - 1) = ((M - 1 : Nat) : Int) by omega, bits_and_u64_nat _ _ lR' (by omega), hO]
      rw [← hX] at cR
      have hNext : Hid (Calls Try.prog 130 #[.pointer (some ⟨W.heap.size + 1, 0, none⟩)] wr fun e w' => e = .returned (.int .u64 (X' : Int)) ∧ w' = (wr.setCell ⟨W.heap.size + 1, 0, none⟩ (.int .u64 (X' : Int))).drewN 3) := Lib.hid (by
        rw [hX']; exact Any.xorshift_Next (P := Try.prog) (ρ := sl6_ren) { sl6 with } _ _ X lR wr cR fR)
      have HN : Hid (X' = (xorNext r).toNat ∧ O = (xorNext r).toNat &&& (M - 1)) := by
        have e : X' = (xorNext r).toNat := by rw [hX', hX, xorNext_toNat]
        exact ⟨e, by rw [hO, e]⟩
      clear hX hX' hO
      have R2 : Hid (R dk ((wr.setCell ⟨W.heap.size + 1, 0, none⟩ (.int .u64 (X' : Int))).drewN 3)) := Lib.hid (HE.out.drewN _ _ 3 (HE.out.put _ _ _ _ HR1.out (Nat.le_succ_of_le HLOW.out)))
      have X2 : Hid (Ext B W ((wr.setCell ⟨W.heap.size + 1, 0, none⟩ (.int .u64 (X' : Int))).drewN 3)) := Lib.hid (Ext.drewN (ExtX.fresh (s := W.heap.size + 1) (ExtX.put wr (.int .u64 (X' : Int))) HX1.out (Nat.le_succ _)) 3)
      have c1' : ((wr.setCell ⟨W.heap.size + 1, 0, none⟩ (.int .u64 (X' : Int))).drewN 3).cell? ⟨W.heap.size, 1, none⟩ = some (.func (.func sf) #[] sb) := by
        rw [World.cell?_drewN, World.cell?_setCell_other _ _ _ _ (by intro e; simp only [Addr.mk.injEq, and_true] at e; omega)]; exact c1
      have cR' : ((wr.setCell ⟨W.heap.size + 1, 0, none⟩ (.int .u64 (X' : Int))).drewN 3).cell? ⟨W.heap.size + 1, 0, none⟩ = some (.int .u64 (X' : Int)) := by
        rw [World.cell?_drewN]; exact World.cell?_setCell_same _ _ _ cR
      have fR' : ((wr.setCell ⟨W.heap.size + 1, 0, none⟩ (.int .u64 (X' : Int))).drewN 3).frozen? ⟨W.heap.size + 1, 0, none⟩ = false := by
        rw [World.frozen?_drewN]; simpa using fR
      generalize (wr.setCell ⟨W.heap.size + 1, 0, none⟩ (.int .u64 (X' : Int))).drewN 3 = w2 at hNext R2 X2 c1' cR' fR'
      clear c1 cR fR
      by_cases hLO : l ≤ O
      · have hLOz : (l : Int) ≤ (O : Int) := by omega
        obtain ⟨W3, hs, hr3, he3⟩ := HE.out.swap dk w2 (a + l / 4 * 2 - 1 + t) (a + (O - l)) R2.out HS.out (by omega) (by omega)
        rw [show ((a + l / 4 * 2 - 1 + t : Nat) : Int) = (a : Int) + (l : Int) / 4 * 2 - 1 + (t : Int) by omega, show ((a + (O - l) : Nat) : Int) = (a : Int) + ((O : Int) - (l : Int)) by omega] at hs
        have HSW := Lib.hid hs
        have HR3 := Lib.hid hr3
        have HX3 := Lib.hid (X2.out.trans he3)
        have hb1 : W.heap.size < w2.heap.size := World.block_lt_of_cell? _ _ c1'
        have hb2 : W.heap.size + 1 < w2.heap.size := World.block_lt_of_cell? _ _ cR'
        have k1 : W3.cell? ⟨W.heap.size, 1, none⟩ = some (.func (.func sf) #[] sb) := (he3.2 _ 1 HLOW.out hb1).1.trans c1'
        have k2 : W3.cell? ⟨W.heap.size + 1, 0, none⟩ = some (.int .u64 (X' : Int)) := (he3.2 _ 0 (Nat.le_succ_of_le HLOW.out) hb2).1.trans cR'
        have k3 : W3.frozen? ⟨W.heap.size + 1, 0, none⟩ = false := (he3.2 _ 0 (Nat.le_succ_of_le HLOW.out) hb2).2.trans fR'
        have HK3 := Lib.hid (And.intro k1 (And.intro k2 k3))
        clear hs hr3 he3 hb1 hb2 k1 k2 k3
        go_wp2_with (go_at_call 130; refine hNext.out.mono ?_; rintro e w' ⟨rfl, rfl⟩)
        rw [HSW.out, Oper.upon_value]
        go_wp2
        go_roundg (3 - (t + 1))
        case measure => omega
        case rel => exact ⟨t + 1, xorNext r, swp dk (a + l / 4 * 2 - 1 + t) (a + (O - l)), by congr 1; push_cast; omega, by omega, Nat.le_refl _, Lib.hid (by rw [size_swp]; exact HS.out), HR3, HX3, HK3.out.1, by rw [← HN.out.1]; exact HK3.out.2.1, HK3.out.2.2,
          (show Hid _ from by rw [← HR.out, bp_step a l M _ t r dk ((O - l)) ht3 (by rw [← HN.out.2, if_pos (by omega)])]; exact rfl)⟩
      · have hLOz : ¬ (l : Int) ≤ (O : Int) := by omega
        obtain ⟨W3, hs, hr3, he3⟩ := HE.out.swap dk w2 (a + l / 4 * 2 - 1 + t) (a + O) R2.out HS.out (by omega) (by omega)
        rw [show ((a + l / 4 * 2 - 1 + t : Nat) : Int) = (a : Int) + (l : Int) / 4 * 2 - 1 + (t : Int) by omega, show ((a + O : Nat) : Int) = (a : Int) + (O : Int) by omega] at hs
        have HSW := Lib.hid hs
        have HR3 := Lib.hid hr3
        have HX3 := Lib.hid (X2.out.trans he3)
        have hb1 : W.heap.size < w2.heap.size := World.block_lt_of_cell? _ _ c1'
        have hb2 : W.heap.size + 1 < w2.heap.size := World.block_lt_of_cell? _ _ cR'
        have k1 : W3.cell? ⟨W.heap.size, 1, none⟩ = some (.func (.func sf) #[] sb) := (he3.2 _ 1 HLOW.out hb1).1.trans c1'
        have k2 : W3.cell? ⟨W.heap.size + 1, 0, none⟩ = some (.int .u64 (X' : Int)) := (he3.2 _ 0 (Nat.le_succ_of_le HLOW.out) hb2).1.trans cR'
        have k3 : W3.frozen? ⟨W.heap.size + 1, 0, none⟩ = false := (he3.2 _ 0 (Nat.le_succ_of_le HLOW.out) hb2).2.trans fR'
        have HK3 := Lib.hid (And.intro k1 (And.intro k2 k3))
        clear hs hr3 he3 hb1 hb2 k1 k2 k3
        go_wp2_with (go_at_call 130; refine hNext.out.mono ?_; rintro e w' ⟨rfl, rfl⟩)
        rw [HSW.out, Oper.upon_value]
        go_wp2
        go_roundg (3 - (t + 1))
        case measure => omega
        case rel => exact ⟨t + 1, xorNext r, swp dk (a + l / 4 * 2 - 1 + t) (a + O), by congr 1; push_cast; omega, by omega, Nat.le_refl _, Lib.hid (by rw [size_swp]; exact HS.out), HR3, HX3, HK3.out.1, by rw [← HN.out.1]; exact HK3.out.2.1, HK3.out.2.2,
          (show Hid _ from by rw [← HR.out, bp_step a l M _ t r dk (O) ht3 (by rw [← HN.out.2, if_neg (by omega)])]; exact rfl)⟩
    · obtain rfl : t = 3 := by omega
      have hle : ¬ ((a : Int) + (l : Int) / 4 * 2 - 1 + ((3 : Nat) : Int) ≤ (a : Int) + (l : Int) / 4 * 2 + 1) := by omega
      have HF : Hid (bpRest a l M (a + l / 4 * 2 - 1) 3 0 (UInt64.ofNat l, d) = dk) := Lib.hid (HR.out.symm.trans rfl)
      go_wp2
      go_end0
      exact ⟨rfl, by rw [HF.out]; exact HR1.out, HX1.out⟩
end
end Go.Proofs.Ytdhibalpnccbiaa
