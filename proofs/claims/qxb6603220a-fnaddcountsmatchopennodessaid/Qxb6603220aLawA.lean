import Derived.Test.Qxb6603220aClone
import Derived.Test.Qxb6603220aHolds
namespace Go.Proofs.Qxb6603220a
open Go.RowKit
set_option linter.unusedVariables false

theorem holds_pref (a b : List ByteArray) : holdsB a.reverse b.reverse = prefB a b := by
  unfold holdsB prefB
  rw [decide_eq_decide, List.length_reverse, List.length_reverse, List.drop_reverse]
  by_cases h : a.length ≤ b.length
  · rw [show b.length - (b.length - a.length) = a.length by omega]
    constructor
    · intro e; simpa using congrArg List.reverse e
    · intro e; rw [e]
  · constructor
    · intro e
      have := congrArg List.length e
      simp at this
      omega
    · intro e
      have := congrArg List.length e
      simp at this
      omega

/-- What the walks are told of a []string that came in. -/
def IsStrs (w : World) (a : Option Addr) (ss : List ByteArray) : Prop := StrsAt w a ss ∧ (a = none → ss = []) ∧ ss.length ≤ 9223372036854775807

set_option maxHeartbeats 4000000 in
theorem walk4 (a b : Option Addr) (ca cb : Nat) (sa sb : List ByteArray) (w : World) (ha : IsStrs w a sa) (hb : IsStrs w b sb) :
    Calls Try.prog 4 #[.slice a sa.length ca, .slice b sb.length cb] w fun e w' => e = .returned (.bool true) ∧ Below w.heap.size w w' := by
  obtain ⟨ha, hna, hla⟩ := ha
  obtain ⟨hb, hnb, hlb⟩ := hb
  go_enter Try.func4, Try.ntmps4
  go_wp2_with fail
  refine (bytes17_any a ca sa b cb sb w ha hb hla hlb).mono ?_
  rintro e w ⟨⟨t, rfl⟩, rfl⟩
  cases t with
  | false =>
    go_wp2_with fail
    go_ret
    exact ⟨rfl, Below.refl _ _⟩
  | true =>
    by_cases h1 : (65536 : Int) < (sa.length : Int)
    · go_wp2_with fail
      go_ret
      exact ⟨rfl, Below.refl _ _⟩
    by_cases h2 : (65536 : Int) < (sb.length : Int)
    · go_wp2_with fail
      go_ret
      exact ⟨rfl, Below.refl _ _⟩
    have hla' : sa.length < 2000000 := by omega
    have hlb' : sb.length < 2000000 := by omega
    go_wp2_with fail
    refine (spend_any 1048576 a ca sa _ ha hla' (by omega) (by omega)).mono ?_
    rintro e w ⟨⟨n1, rfl, hn1, hn1', hs1⟩, rfl⟩
    clear hs1
    go_wp2_with fail
    refine (spend_any n1 b cb sb _ hb hlb' hn1 hn1').mono ?_
    rintro e w ⟨⟨n2, rfl, hn2, hn2', hs2⟩, rfl⟩
    clear hs2
    by_cases h3 : n2 < 0
    · go_wp2_with fail
      go_ret
      exact ⟨rfl, Below.refl _ _⟩
    go_wp2_with fail
    refine (clone_any a ca sa _ ha hna hla').mono ?_
    rintro e w1 ⟨a1, c1, rfl, ha1, hna1, B1⟩
    have hb1 := hb.below B1
    go_wp2_with fail
    refine (clone_any b cb sb _ hb1 hnb hlb').mono ?_
    rintro e w2 ⟨a2, c2, rfl, ha2, hna2, B2⟩
    have B12 := B1.trans (B2.mono B1.size)
    have ha1' := ha1.below B2
    clear ha1 hb1 ha hb hna hnb hna1 hna2 B1 B2
    go_wp2_with fail
    refine (zzroot_any _).mono ?_
    rintro e w3 ⟨rfl, B3⟩
    have B13 := B12.trans (B3.mono B12.size)
    have ha3 := ha1'.below B3
    have hb3 := ha2.below B3
    clear B12 B3 ha1' ha2
    go_wp2_with fail
    refine (build_any none [] a1 c1 sa _ rfl ha3 (by simp; omega)).mono ?_
    rintro e w4 ⟨p, rfl, hp, B4⟩
    have B14 := B13.trans (B4.mono B13.size)
    have ha4 := ha3.below B4
    have hb4 := hb3.below B4
    clear B13 B4 ha3 hb3
    rw [List.append_nil] at hp
    have BP := heap_alloc_new w4 (.cells #[.pointer p] 30)
    have BW := (Below.refl w4.heap.size w4).alloc (Nat.le_refl _) (.cells #[.pointer p] 30)
    have B15 := B14.trans (BW.mono B14.size)
    have hp5 := hp.below BW
    have ha5 := ha4.below BW
    have hb5 := hb4.below BW
    clear hp ha4 hb4 BW B14
    go_wp2_with fail
    refine (zzroot_any _).mono ?_
    rintro e w6 ⟨rfl, B6⟩
    have B16 := B15.trans (B6.mono B15.size)
    have BP6 := keep B6 BP
    have hp6 := hp5.below B6
    have ha6 := ha5.below B6
    have hb6 := hb5.below B6
    clear hp5 ha5 hb5 BP B15 B6
    go_wp2_with fail
    refine (build_any none [] a2 c2 sb _ rfl hb6 (by simp; omega)).mono ?_
    rintro e w7 ⟨q, rfl, hq, B7⟩
    rw [List.append_nil] at hq
    have B17 := B16.trans (B7.mono B16.size)
    have BP7 := keep B7 BP6
    have hp7 := hp6.below B7
    have ha7 := ha6.below B7
    have hb7 := hb6.below B7
    clear hp6 ha6 hb6 BP6 B16 B7
    have BQ := heap_alloc_new w7 (.cells #[.pointer q] 30)
    have BW := (Below.refl w7.heap.size w7).alloc (Nat.le_refl _) (.cells #[.pointer q] 30)
    have B18 := B17.trans (BW.mono B17.size)
    have BP8 := keep BW BP7
    have hp8 := hp7.below BW
    have hq8 := hq.below BW
    have ha8 := ha7.below BW
    have hb8 := hb7.below BW
    have cP := cell_of_one BP8
    have lP := lt_of_block BP7
    clear hp7 hq ha7 hb7 BP7 B17 BW
    go_wp2_with fail
    refine (zzholds_any p q _ _ _ hp8 hq8).mono ?_
    rintro e w9 ⟨rfl, B9⟩
    have B19 := B18.trans (B9.mono B18.size)
    have BP9 := keep B9 BP8
    have BQ9 := keep B9 BQ
    have hp9 := hp8.below B9
    have hq9 := hq8.below B9
    have ha9 := ha8.below B9
    have hb9 := hb8.below B9
    clear hp8 hq8 ha8 hb8 BP8 BQ B18 B9 cP
    go_wp2_with fail
    refine (isPrefix_any a1 c1 sa a2 c2 sb _ ha9 hb9 hla' hlb').mono ?_
    rintro e w10 ⟨rfl, B10⟩
    have B20 := B19.trans (B10.mono B19.size)
    have BP10 := keep B10 BP9
    have BQ10 := keep B10 BQ9
    have hp10 := hp9.below B10
    have hq10 := hq9.below B10
    have ha10 := ha9.below B10
    have hb10 := hb9.below B10
    have cP := cell_of_one BP10
    have cQ := cell_of_one BQ10
    rw [holds_pref]
    have hbb : (prefB sa sb == prefB sa sb) = true := by simp
    clear hp9 hq9 ha9 hb9 BP9 BQ9 B19 B10
    go_wp2_with fail
    refine (zzholds_any q p _ _ _ hq10 hp10).mono ?_
    rintro e w11 ⟨rfl, B11⟩
    have B21 := B20.trans (B11.mono B20.size)
    have ha11 := ha10.below B11
    have hb11 := hb10.below B11
    clear hp10 hq10 ha10 hb10 BP10 BQ10 B20 B11 cP cQ
    go_wp2_with fail
    refine (isPrefix_any a2 c2 sb a1 c1 sa _ hb11 ha11 hlb' hla').mono ?_
    rintro e w12 ⟨rfl, B12⟩
    have B22 := B21.trans (B12.mono B21.size)
    rw [holds_pref]
    have hbb2 : (prefB sb sa == prefB sb sa) = true := by simp
    clear ha11 hb11 B21 B12
    go_wp2_with fail
    go_ret
    exact ⟨by rfl, B22⟩

end Go.Proofs.Qxb6603220a
