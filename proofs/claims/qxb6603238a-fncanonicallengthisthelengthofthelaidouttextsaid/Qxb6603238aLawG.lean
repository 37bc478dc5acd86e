import Derived.Test.Qxb6603238aLayC
namespace Go.Proofs.Qxb6603238a
open Go.RowKit
set_option linter.unusedVariables false

/-- layOutNumeral's text is as long as 'canon' says. -/
theorem lay_any (neg : Bool) (d : ByteArray) (e : Int) (hd : d.size ≤ 1048576) (h1 : -65536 ≤ e) (h2 : e ≤ 65536) (w : World) :
    Calls Try.prog 7 #[.bool neg, .string d, .int .i64 e] w fun r w' => ∃ n : Nat, (n : Int) = canon neg d.size e ∧ LayPost w n r w' := by
  by_cases hz : d.size = 0
  · obtain rfl := size_zero hz
    exact (lay_empty neg e w).mono fun r w' h => ⟨1, by simp [canon], h⟩
  · rcases Int.lt_or_le e 0 with he | he
    · obtain ⟨P, rfl⟩ : ∃ P : Nat, e = -(P : Int) := ⟨(-e).toNat, by omega⟩
      by_cases hc : d.size ≤ P
      · refine (lay_downA neg d P (P + 1 - d.size) hd (by omega) (by omega) (by omega) hc (by omega) (by omega) w).mono fun r w' h => ⟨_, ?_, h⟩
        cases neg <;> simp only [canon, Bool.false_eq_true, if_false, if_true] <;> (repeat' split) <;> omega
      · refine (lay_downB neg d P 0 hd (by omega) (by omega) (by omega) (by omega) (by omega) (by omega) w).mono fun r w' h => ⟨_, ?_, h⟩
        cases neg <;> simp only [canon, Bool.false_eq_true, if_false, if_true] <;> (repeat' split) <;> omega
    · obtain ⟨E, rfl⟩ : ∃ E : Nat, e = (E : Int) := ⟨e.toNat, by omega⟩
      refine (lay_up neg d E hd (by omega) (by omega) w).mono fun r w' h => ⟨_, ?_, h⟩
      cases neg <;> simp only [canon, Bool.false_eq_true, if_false, if_true] <;> (repeat' split) <;> omega

theorem walk3 (a0 : Bool) (a1 : ByteArray) (a2 : Int) (w1 : a1.size ≤ maxLen) (w : World) :
    Calls Try.prog 3 #[.bool a0, .string a1, .int .i64 a2] w fun e w' => e = .returned (.bool true) ∧ Below w.heap.size w w' := by
  by_cases hd : a1.size ≤ 1048576
  case neg =>
    go_enter Try.func3, Try.ntmps3
    go_wp2_with fail
    refine (bytes5_any a0 a1 a2 w1 _).mono ?_
    rw [decide_eq_false hd]
    rintro v w1 ⟨rfl, rfl⟩
    go_wp2
    go_ret
    exact ⟨rfl, Below.refl _ _⟩
  by_cases hhi : 65536 < a2
  · go_enter Try.func3, Try.ntmps3
    go_wp2_with fail
    refine (bytes5_any a0 a1 a2 w1 _).mono ?_
    rw [decide_eq_true hd]
    rintro v w1 ⟨rfl, rfl⟩
    go_wp2
    go_ret
    exact ⟨rfl, Below.refl _ _⟩
  by_cases hlo : a2 < -65536
  · go_enter Try.func3, Try.ntmps3
    go_wp2_with fail
    refine (bytes5_any a0 a1 a2 w1 _).mono ?_
    rw [decide_eq_true hd]
    rintro v w1 ⟨rfl, rfl⟩
    go_wp2
    go_ret
    exact ⟨rfl, Below.refl _ _⟩
  have hhi' : a2 ≤ 65536 := by omega
  have hlo' : -65536 ≤ a2 := by omega
  clear hhi hlo
  go_enter Try.func3, Try.ntmps3
  go_wp2_with fail
  refine (bytes5_any a0 a1 a2 w1 _).mono ?_
  rw [decide_eq_true hd]
  rintro v w1 ⟨rfl, rfl⟩
  go_wp2_with fail
  refine (zzlen_any a0 _ a2 hd (by omega) (by omega) _).mono ?_
  rintro v w2 ⟨rfl, hb2⟩
  generalize hC : canon a0 a1.size a2 = C
  go_wp2_with fail
  refine (lay_any a0 _ a2 hd hlo' hhi' _).mono ?_
  rintro v w3 ⟨n, hn, a, c, rfl, hb3⟩
  rw [hC] at hn
  subst hn
  clear hC
  go_wp2
  go_ret
  exact ⟨by simp, hb2.trans (hb3.mono hb2.size)⟩
end Go.Proofs.Qxb6603238a
