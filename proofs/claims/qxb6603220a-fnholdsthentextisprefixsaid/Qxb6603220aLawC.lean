import Derived.Test.Qxb6603220aBytesCmp
import Derived.Test.Qxb6603220aLawB
namespace Go.Proofs.Qxb6603220a
open Go.RowKit
set_option linter.unusedVariables false

set_option maxHeartbeats 8000000 in
theorem walk6 (a c : Option Addr) (ca cc : Nat) (sa sc : List ByteArray) (w : World) (ha : IsStrs w a sa) (hc : IsStrs w c sc) :
    Calls Try.prog 6 #[.slice a sa.length ca, .slice c sc.length cc] w fun e w' => e = .returned (.bool true) ∧ Below w.heap.size w w' := by
  obtain ⟨ha, hna, hla⟩ := ha
  obtain ⟨hc, hnc, hlc⟩ := hc
  go_enter Try.func6, Try.ntmps6
  go_wp2_with fail
  refine (bytes21_any a ca sa c cc sc w ha hla hc hlc).mono ?_
  rintro e w ⟨⟨t, rfl⟩, rfl⟩
  cases t with
  | false =>
    go_wp2_with fail
    go_ret
    exact ⟨rfl, Below.refl _ _⟩
  | true =>
    by_cases gsa : (65536 : Int) < (sa.length : Int)
    · go_wp2_with fail
      go_ret
      exact ⟨rfl, Below.refl _ _⟩
    by_cases gsc : (65536 : Int) < (sc.length : Int)
    · go_wp2_with fail
      go_ret
      exact ⟨rfl, Below.refl _ _⟩
    have lsa : sa.length < 2000000 := by omega
    have lsc : sc.length < 2000000 := by omega
    go_wp2_with fail
    refine (spend_any 1048576 a ca sa _ ha lsa (by omega) (by omega)).mono ?_
    rintro e w ⟨⟨n1, rfl, hn1, hn1', hs1⟩, rfl⟩
    have HS1 : Hid (0 ≤ n1 → (0 : Int) ≤ 1048576 ∧ n1 + 16 * sa.length + sizes sa = 1048576) := hs1
    clear hs1
    go_wp2_with fail
    refine (spend_any n1 c cc sc _ hc lsc hn1 hn1').mono ?_
    rintro e w ⟨⟨n2, rfl, hn2, hn2', hs2⟩, rfl⟩
    have HS2 : Hid (0 ≤ n2 → 0 ≤ n1 ∧ n2 + 16 * sc.length + sizes sc = n1) := hs2
    clear hs2
    by_cases h3 : n2 < 0
    · go_wp2_with fail
      go_ret
      exact ⟨rfl, Below.refl _ _⟩
    have HL : Hid ((textR sa.reverse).length < 10000000 ∧ (textR (sc.reverse ++ sa.reverse)).length < 10000000) := by
      obtain ⟨x1, x2⟩ := HS2.out (by omega)
      obtain ⟨x3, x4⟩ := HS1.out x1
      have y1 := textR_le sa.reverse
      have y2 := textR_le (sc.reverse ++ sa.reverse)
      rw [sizes_reverse, List.length_reverse] at y1
      rw [sizes_append, sizes_reverse, sizes_reverse, List.length_append, List.length_reverse, List.length_reverse] at y2
      exact ⟨by omega, by omega⟩
    clear HS1 HS2
    have hbel := Below.refl w.heap.size w
    go_wp2_with fail
    refine (clone_any a ca sa _ ha hna lsa).mono ?_
    rintro e w1 ⟨a1, c1, rfl, ha1, -, B1⟩
    replace ha := ha.below B1
    replace hc := hc.below B1
    replace hbel := hbel.trans (B1.mono hbel.size)
    clear B1
    clear ha
    go_wp2_with fail
    refine (clone_any c cc sc _ hc hnc lsc).mono ?_
    rintro e w2 ⟨a2, c2, rfl, hc1, -, B2⟩
    replace hc := hc.below B2
    replace hbel := hbel.trans (B2.mono hbel.size)
    replace ha1 := ha1.below B2
    clear B2
    clear hc
    go_wp2_with fail
    refine (zzroot_any _).mono ?_
    rintro e w3 ⟨rfl, B3⟩
    replace hbel := hbel.trans (B3.mono hbel.size)
    replace ha1 := ha1.below B3
    replace hc1 := hc1.below B3
    clear B3
    go_wp2_with fail
    refine (build_any none [] a1 c1 sa _ rfl ha1 (by simp; omega)).mono ?_
    rintro e w4 ⟨p, rfl, hp, B4⟩
    replace hbel := hbel.trans (B4.mono hbel.size)
    replace ha1 := ha1.below B4
    replace hc1 := hc1.below B4
    clear B4
    rw [List.append_nil] at hp
    clear ha1
    have BW := (Below.refl w4.heap.size w4).alloc (Nat.le_refl _) (.cells #[.pointer p] 30)
    replace hbel := hbel.trans (BW.mono hbel.size)
    replace hc1 := hc1.below BW
    replace hp := hp.below BW
    have bp := heap_alloc_new w4 (.cells #[.pointer p] 30)
    clear BW
    have xp := cell_of_one bp
    go_wp2_with fail
    refine (build_any p sa.reverse a2 c2 sc _ hp hc1 (by simp; omega)).mono ?_
    rintro e w5 ⟨q, rfl, hq, B5⟩
    replace hbel := hbel.trans (B5.mono hbel.size)
    replace hc1 := hc1.below B5
    replace hp := hp.below B5
    replace bp := keep B5 bp
    clear B5
    clear xp hc1
    have BW := (Below.refl w5.heap.size w5).alloc (Nat.le_refl _) (.cells #[.pointer q] 30)
    replace hbel := hbel.trans (BW.mono hbel.size)
    replace hp := hp.below BW
    replace bp := keep BW bp
    replace hq := hq.below BW
    have bq := heap_alloc_new w5 (.cells #[.pointer q] 30)
    clear BW
    have lp := lt_of_block bp
    have xp := cell_of_one bp
    have xq := cell_of_one bq
    go_wp2_with fail
    refine (zzText_nil p _ _ hp (by have := HL.out.1; omega)).mono ?_
    rintro e w6 ⟨ta, tc, rfl, hta, B6⟩
    replace hbel := hbel.trans (B6.mono hbel.size)
    replace hp := hp.below B6
    replace bp := keep B6 bp
    replace hq := hq.below B6
    replace bq := keep B6 bq
    clear B6
    clear xp xq
    have xp := cell_of_one bp
    have xq := cell_of_one bq
    go_wp2_with fail
    refine (zzText_nil q _ _ hq (by have := HL.out.2; omega)).mono ?_
    rintro e w7 ⟨tb, td, rfl, htb, B7⟩
    replace hbel := hbel.trans (B7.mono hbel.size)
    replace hp := hp.below B7
    replace bp := keep B7 bp
    replace hq := hq.below B7
    replace bq := keep B7 bq
    replace hta := hta.below B7
    clear B7
    clear xp xq
    have xp := cell_of_one bp
    have xq := cell_of_one bq
    go_wp2_with fail
    refine (zzholds_any p q _ _ _ hp hq).mono ?_
    rintro e w8 ⟨rfl, B8⟩
    replace hbel := hbel.trans (B8.mono hbel.size)
    replace hp := hp.below B8
    replace bp := keep B8 bp
    replace hq := hq.below B8
    replace bq := keep B8 bq
    replace hta := hta.below B8
    replace htb := htb.below B8
    clear B8
    clear xp xq
    rw [holdsB_app]
    go_wp2_with fail
    refine (bytesPrefix_any ta tc _ tb td _ _ hta htb (by have := HL.out.1; have := fullR_le sa.reverse; omega) (by have := HL.out.2; have := fullR_le (sc.reverse ++ sa.reverse); omega)).mono ?_
    rintro e w9 ⟨rfl, B9⟩
    replace hbel := hbel.trans (B9.mono hbel.size)
    replace hp := hp.below B9
    replace bp := keep B9 bp
    replace hq := hq.below B9
    replace bq := keep B9 bq
    replace hta := hta.below B9
    replace htb := htb.below B9
    clear B9
    rw [text_prefix]
    go_wp2_with fail
    go_ret
    exact ⟨by rfl, hbel⟩

end Go.Proofs.Qxb6603220a
