import Derived.Test.Qxb6603220aLawA
import Derived.Test.Qxb6603220aBytes
namespace Go.Proofs.Qxb6603220a
open Go.RowKit
set_option linter.unusedVariables false

theorem holdsB_app (r x : List ByteArray) : holdsB r (x ++ r) = true := by
  apply decide_eq_true
  rw [List.length_append, Nat.add_sub_cancel, List.drop_left]

theorem holdsB_apps (r x y : List ByteArray) : holdsB (x ++ r) (y ++ r) = holdsB x y := by
  unfold holdsB
  rw [decide_eq_decide, List.length_append, List.length_append, Nat.add_sub_add_right, List.drop_append]
  by_cases h : y.length - x.length ≤ y.length
  · rw [Nat.sub_eq_zero_of_le h, List.drop_zero]
    constructor
    · intro e; exact List.append_cancel_right e
    · intro e; rw [e]
  · omega

theorem holdsB_more (r x : List ByteArray) : holdsB (x ++ r) r = ((x.length : Int) == 0) := by
  rw [show r = [] ++ r from rfl, ← List.append_assoc, holdsB_apps]
  cases x with
  | nil => rfl
  | cons a x =>
    rw [List.append_nil, holdsB_gt (by simp)]
    symm
    apply beq_eq_false_iff_ne.2
    simp
    omega

set_option maxHeartbeats 8000000 in
theorem walk5 (a c d : Option Addr) (ca cc cd : Nat) (sa sc sd : List ByteArray) (w : World) (ha : IsStrs w a sa) (hc : IsStrs w c sc) (hd : IsStrs w d sd) :
    Calls Try.prog 5 #[.slice a sa.length ca, .slice c sc.length cc, .slice d sd.length cd] w fun e w' => e = .returned (.bool true) ∧ Below w.heap.size w w' := by
  obtain ⟨ha, hna, hla⟩ := ha
  obtain ⟨hc, hnc, hlc⟩ := hc
  obtain ⟨hd, hnd, hld⟩ := hd
  go_enter Try.func5, Try.ntmps5
  go_wp2_with fail
  refine (bytes20_any a ca sa c cc sc d cd sd w ha hla hc hlc hd hld).mono ?_
  rintro e w ⟨⟨t, rfl⟩, rfl⟩
  cases t with
  | false =>
    go_wp2_with fail
    go_ret
    exact ⟨rfl, Below.refl _ _⟩
  | true =>
    by_cases gsa : (65536 : Int) < (sa.length : Int)
    · go_wp2_with fail
      go_ret
      exact ⟨rfl, Below.refl _ _⟩
    by_cases gsc : (65536 : Int) < (sc.length : Int)
    · go_wp2_with fail
      go_ret
      exact ⟨rfl, Below.refl _ _⟩
    by_cases gsd : (65536 : Int) < (sd.length : Int)
    · go_wp2_with fail
      go_ret
      exact ⟨rfl, Below.refl _ _⟩
    have lsa : sa.length < 2000000 := by omega
    have lsc : sc.length < 2000000 := by omega
    have lsd : sd.length < 2000000 := by omega
    go_wp2_with fail
    refine (spend_any 1048576 a ca sa _ ha lsa (by omega) (by omega)).mono ?_
    rintro e w ⟨⟨n1, rfl, hn1, hn1', hs1⟩, rfl⟩
    clear hs1
    go_wp2_with fail
    refine (spend_any n1 c cc sc _ hc lsc hn1 hn1').mono ?_
    rintro e w ⟨⟨n2, rfl, hn2, hn2', hs1⟩, rfl⟩
    clear hs1
    go_wp2_with fail
    refine (spend_any n2 d cd sd _ hd lsd hn2 hn2').mono ?_
    rintro e w ⟨⟨n3, rfl, hn3, hn3', hs1⟩, rfl⟩
    clear hs1
    by_cases h3 : n3 < 0
    · go_wp2_with fail
      go_ret
      exact ⟨rfl, Below.refl _ _⟩
    have hbel := Below.refl w.heap.size w
    go_wp2_with fail
    refine (clone_any a ca sa _ ha hna lsa).mono ?_
    rintro e w1 ⟨a1, c1, rfl, ha1, -, B1⟩
    replace ha := ha.below B1
    replace hc := hc.below B1
    replace hd := hd.below B1
    replace hbel := hbel.trans (B1.mono hbel.size)
    clear B1
    clear ha
    go_wp2_with fail
    refine (clone_any c cc sc _ hc hnc lsc).mono ?_
    rintro e w2 ⟨a2, c2, rfl, hc1, -, B2⟩
    replace hc := hc.below B2
    replace hd := hd.below B2
    replace hbel := hbel.trans (B2.mono hbel.size)
    replace ha1 := ha1.below B2
    clear B2
    clear hc
    go_wp2_with fail
    refine (clone_any d cd sd _ hd hnd lsd).mono ?_
    rintro e w3 ⟨a3, c3, rfl, hd1, -, B3⟩
    replace hd := hd.below B3
    replace hbel := hbel.trans (B3.mono hbel.size)
    replace ha1 := ha1.below B3
    replace hc1 := hc1.below B3
    clear B3
    clear hd
    go_wp2_with fail
    refine (zzroot_any _).mono ?_
    rintro e w4 ⟨rfl, B4⟩
    replace hbel := hbel.trans (B4.mono hbel.size)
    replace ha1 := ha1.below B4
    replace hc1 := hc1.below B4
    replace hd1 := hd1.below B4
    clear B4
    go_wp2_with fail
    refine (build_any none [] a1 c1 sa _ rfl ha1 (by simp; omega)).mono ?_
    rintro e w5 ⟨p, rfl, hp, B5⟩
    replace hbel := hbel.trans (B5.mono hbel.size)
    replace ha1 := ha1.below B5
    replace hc1 := hc1.below B5
    replace hd1 := hd1.below B5
    clear B5
    rw [List.append_nil] at hp
    clear ha1
    have BW := (Below.refl w5.heap.size w5).alloc (Nat.le_refl _) (.cells #[.pointer p] 30)
    replace hbel := hbel.trans (BW.mono hbel.size)
    replace hc1 := hc1.below BW
    replace hd1 := hd1.below BW
    replace hp := hp.below BW
    have bp := heap_alloc_new w5 (.cells #[.pointer p] 30)
    clear BW
    have xp := cell_of_one bp
    go_wp2_with fail
    refine (build_any p sa.reverse a2 c2 sc _ hp hc1 (by simp; omega)).mono ?_
    rintro e w6 ⟨q, rfl, hq, B6⟩
    replace hbel := hbel.trans (B6.mono hbel.size)
    replace hc1 := hc1.below B6
    replace hd1 := hd1.below B6
    replace hp := hp.below B6
    replace bp := keep B6 bp
    clear B6
    clear xp
    have BW := (Below.refl w6.heap.size w6).alloc (Nat.le_refl _) (.cells #[.pointer q] 30)
    replace hbel := hbel.trans (BW.mono hbel.size)
    replace hc1 := hc1.below BW
    replace hd1 := hd1.below BW
    replace hp := hp.below BW
    replace bp := keep BW bp
    replace hq := hq.below BW
    have bq := heap_alloc_new w6 (.cells #[.pointer q] 30)
    clear BW
    have xp := cell_of_one bp
    have xq := cell_of_one bq
    have lp := lt_of_block bp
    go_wp2_with fail
    refine (build_any p sa.reverse a3 c3 sd _ hp hd1 (by simp; omega)).mono ?_
    rintro e w7 ⟨r, rfl, hr, B7⟩
    replace hbel := hbel.trans (B7.mono hbel.size)
    replace hc1 := hc1.below B7
    replace hd1 := hd1.below B7
    replace hp := hp.below B7
    replace bp := keep B7 bp
    replace hq := hq.below B7
    replace bq := keep B7 bq
    clear B7
    clear xp xq lp
    have BW := (Below.refl w7.heap.size w7).alloc (Nat.le_refl _) (.cells #[.pointer r] 30)
    replace hbel := hbel.trans (BW.mono hbel.size)
    replace hc1 := hc1.below BW
    replace hd1 := hd1.below BW
    replace hp := hp.below BW
    replace bp := keep BW bp
    replace hq := hq.below BW
    replace bq := keep BW bq
    replace hr := hr.below BW
    have br := heap_alloc_new w7 (.cells #[.pointer r] 30)
    clear BW
    have lp := lt_of_block bp
    have lq := lt_of_block bq
    have xp := cell_of_one bp
    have xq := cell_of_one bq
    have xr := cell_of_one br
    go_wp2_with fail
    refine (zzholds_any p q _ _ _ hp hq).mono ?_
    rintro e w8 ⟨rfl, B8⟩
    replace hbel := hbel.trans (B8.mono hbel.size)
    replace hc1 := hc1.below B8
    replace hd1 := hd1.below B8
    replace hp := hp.below B8
    replace bp := keep B8 bp
    replace hq := hq.below B8
    replace bq := keep B8 bq
    replace hr := hr.below B8
    replace br := keep B8 br
    clear B8
    clear xp xq xr
    rw [holdsB_app]
    have xp := cell_of_one bp
    have xq := cell_of_one bq
    have xr := cell_of_one br
    go_wp2_with fail
    refine (zzholds_any p r _ _ _ hp hr).mono ?_
    rintro e w9 ⟨rfl, B9⟩
    replace hbel := hbel.trans (B9.mono hbel.size)
    replace hc1 := hc1.below B9
    replace hd1 := hd1.below B9
    replace hp := hp.below B9
    replace bp := keep B9 bp
    replace hq := hq.below B9
    replace bq := keep B9 bq
    replace hr := hr.below B9
    replace br := keep B9 br
    clear B9
    clear xp xq xr
    rw [holdsB_app]
    have xp := cell_of_one bp
    have xq := cell_of_one bq
    have xr := cell_of_one br
    go_wp2_with fail
    refine (zzholds_any q r _ _ _ hq hr).mono ?_
    rintro e w10 ⟨rfl, B10⟩
    replace hbel := hbel.trans (B10.mono hbel.size)
    replace hc1 := hc1.below B10
    replace hd1 := hd1.below B10
    replace hp := hp.below B10
    replace bp := keep B10 bp
    replace hq := hq.below B10
    replace bq := keep B10 bq
    replace hr := hr.below B10
    replace br := keep B10 br
    clear B10
    clear xp xq xr
    rw [holdsB_apps, holds_pref]
    have xp := cell_of_one bp
    have xq := cell_of_one bq
    have xr := cell_of_one br
    go_wp2_with fail
    refine (isPrefix_any a2 c2 sc a3 c3 sd _ hc1 hd1 lsc lsd).mono ?_
    rintro e w11 ⟨rfl, B11⟩
    replace hbel := hbel.trans (B11.mono hbel.size)
    replace hc1 := hc1.below B11
    replace hd1 := hd1.below B11
    replace hp := hp.below B11
    replace bp := keep B11 bp
    replace hq := hq.below B11
    replace bq := keep B11 bq
    replace hr := hr.below B11
    replace br := keep B11 br
    clear B11
    clear xp xq xr
    have e1 : (prefB sc sd == prefB sc sd) = true := by simp
    have xp := cell_of_one bp
    have xq := cell_of_one bq
    have xr := cell_of_one br
    go_wp2_with fail
    refine (zzholds_any r q _ _ _ hr hq).mono ?_
    rintro e w12 ⟨rfl, B12⟩
    replace hbel := hbel.trans (B12.mono hbel.size)
    replace hc1 := hc1.below B12
    replace hd1 := hd1.below B12
    replace hp := hp.below B12
    replace bp := keep B12 bp
    replace hq := hq.below B12
    replace bq := keep B12 bq
    replace hr := hr.below B12
    replace br := keep B12 br
    clear B12
    clear xp xq xr
    rw [holdsB_apps, holds_pref]
    have xp := cell_of_one bp
    have xq := cell_of_one bq
    have xr := cell_of_one br
    go_wp2_with fail
    refine (isPrefix_any a3 c3 sd a2 c2 sc _ hd1 hc1 lsd lsc).mono ?_
    rintro e w13 ⟨rfl, B13⟩
    replace hbel := hbel.trans (B13.mono hbel.size)
    replace hc1 := hc1.below B13
    replace hd1 := hd1.below B13
    replace hp := hp.below B13
    replace bp := keep B13 bp
    replace hq := hq.below B13
    replace bq := keep B13 bq
    replace hr := hr.below B13
    replace br := keep B13 br
    clear B13
    clear xp xq xr
    have e2 : (prefB sd sc == prefB sd sc) = true := by simp
    have xp := cell_of_one bp
    have xq := cell_of_one bq
    have xr := cell_of_one br
    go_wp2_with fail
    refine (zzholds_any q p _ _ _ hq hp).mono ?_
    rintro e w14 ⟨rfl, B14⟩
    replace hbel := hbel.trans (B14.mono hbel.size)
    replace hc1 := hc1.below B14
    replace hd1 := hd1.below B14
    replace hp := hp.below B14
    replace bp := keep B14 bp
    replace hq := hq.below B14
    replace bq := keep B14 bq
    replace hr := hr.below B14
    replace br := keep B14 br
    clear B14
    clear xp xq xr
    rw [holdsB_more, List.length_reverse]
    have e3 : (((sc.length : Int) == 0) == ((sc.length : Int) == 0)) = true := by simp
    go_wp2_with fail
    go_ret
    exact ⟨by rfl, hbel⟩

end Go.Proofs.Qxb6603220a
