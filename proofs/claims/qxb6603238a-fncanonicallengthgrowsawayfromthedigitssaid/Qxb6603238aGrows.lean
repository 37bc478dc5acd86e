import Derived.Test.Qxb6603238aLen
namespace Go.Proofs.Qxb6603238a
open Go.RowKit

/-- The least length that the law asks for. -/
def least (neg : Bool) (L : Int) : Int := L + (if neg then 1 else 0)

theorem canon_up {neg : Bool} {L e : Int} (hL : 0 < L) (he : 0 ≤ e) : canon neg L (e + 1) = canon neg L e + 1 := by
  cases neg <;> simp only [canon, Bool.false_eq_true, if_false, if_true] <;> (repeat' split) <;> omega

theorem canon_least {neg : Bool} {L e : Int} (hL : 0 < L) (he : 0 ≤ e) : least neg L ≤ canon neg L e := by
  cases neg <;> simp only [canon, least, Bool.false_eq_true, if_false, if_true] <;> (repeat' split) <;> omega

theorem canon_least' {neg : Bool} {L e : Int} (hL : 0 < L) (he : e < 0) : least neg L + 1 ≤ canon neg L e := by
  cases neg <;> simp only [canon, least, Bool.false_eq_true, if_false, if_true] <;> (repeat' split) <;> omega

theorem canon_down {neg : Bool} {L e : Int} (hL : 0 < L) (he : e < 0) : canon neg L e ≤ canon neg L (e - 1) ∧ canon neg L (e - 1) ≤ canon neg L e + 1 := by
  cases neg <;> simp only [canon, Bool.false_eq_true, if_false, if_true] <;> (repeat' split) <;> omega

theorem canon_range {neg : Bool} {L e : Int} (hL : 0 ≤ L) (hL' : L ≤ 1048576) (h1 : -4611686018427387906 ≤ e) (h2 : e ≤ 4611686018427387906) : 0 ≤ canon neg L e ∧ canon neg L e ≤ 4611686018428436490 := by
  have hn : (if neg = true then (1 : Int) else 0) = 0 ∨ (if neg = true then (1 : Int) else 0) = 1 := by cases neg <;> simp
  simp only [canon]
  by_cases hz : L = 0
  · rw [if_pos hz]; omega
  · rw [if_neg hz]
    by_cases he : 0 ≤ e
    · rw [if_pos he]; omega
    · rw [if_neg he]
      by_cases hs : 0 < L + e
      · rw [if_pos hs]; omega
      · rw [if_neg hs]; omega

theorem walk4 (a0 : Bool) (a1 : ByteArray) (a2 : Int) (w1 : a1.size ≤ maxLen) (w : World) :
    Calls Try.prog 4 #[.bool a0, .string a1, .int .i64 a2] w fun e w' => e = .returned (.bool true) ∧ Below w.heap.size w w' := by
  by_cases hd : a1.size ≤ 1048576
  case neg =>
    go_enter Try.func4, Try.ntmps4
    go_wp2_with fail
    refine (bytes8_any a0 a1 a2 w1 _).mono ?_
    rw [decide_eq_false hd]
    rintro v w1 ⟨rfl, rfl⟩
    go_wp2
    go_ret
    exact ⟨rfl, Below.refl _ _⟩
  by_cases hhi : 4611686018427387904 < a2
  · go_enter Try.func4, Try.ntmps4
    go_wp2_with fail
    refine (bytes8_any a0 a1 a2 w1 _).mono ?_
    rw [decide_eq_true hd]
    rintro v w1 ⟨rfl, rfl⟩
    go_wp2
    go_ret
    exact ⟨rfl, Below.refl _ _⟩
  by_cases hlo : a2 < -4611686018427387904
  · go_enter Try.func4, Try.ntmps4
    go_wp2_with fail
    refine (bytes8_any a0 a1 a2 w1 _).mono ?_
    rw [decide_eq_true hd]
    rintro v w1 ⟨rfl, rfl⟩
    go_wp2
    go_ret
    exact ⟨rfl, Below.refl _ _⟩
  have hhi' : a2 ≤ 4611686018427387904 := by omega
  have hlo' : -4611686018427387904 ≤ a2 := by omega
  clear hhi hlo
  by_cases hz : a1.size = 0
  · obtain rfl := size_zero hz
    have hcan : ∀ e, canon a0 ((ByteArray.empty).size : Nat) e = 1 := by intro e; simp [canon]
    clear hz
    go_enter Try.func4, Try.ntmps4
    go_wp2_with fail
    refine (bytes8_any a0 _ a2 w1 _).mono ?_
    rw [decide_eq_true hd]
    rintro v w1 ⟨rfl, rfl⟩
    go_wp2_with fail
    refine (zzlen_any a0 _ a2 hd (by omega) (by omega) _).mono ?_
    rintro v w2 ⟨rfl, hb2⟩
    rw [hcan]
    go_wp2_with fail
    refine (zzlen_any a0 _ (a2 + 1) hd (by omega) (by omega) _).mono ?_
    rintro v w3 ⟨rfl, hb3⟩
    rw [hcan]
    go_wp2_with fail
    refine (zzlen_any a0 _ (a2 - 1) hd (by omega) (by omega) _).mono ?_
    rintro v w4 ⟨rfl, hb4⟩
    rw [hcan]
    go_wp2
    go_ret
    exact ⟨rfl, (hb2.trans (hb3.mono hb2.size)).trans (hb4.mono (Nat.le_trans hb2.size hb3.size))⟩
  have hL : (0 : Int) < a1.size := by omega
  have hl := list_nonempty hz
  have hrA := canon_range (neg := a0) (L := a1.size) (e := a2) (by omega) (by omega) (by omega) (by omega)
  have hrU := canon_range (neg := a0) (L := a1.size) (e := a2 + 1) (by omega) (by omega) (by omega) (by omega)
  have hrD := canon_range (neg := a0) (L := a1.size) (e := a2 - 1) (by omega) (by omega) (by omega) (by omega)
  rcases Int.lt_or_le a2 0 with he | he
  · have hle := canon_least' (neg := a0) hL he
    have hdn := canon_down (neg := a0) hL he
    generalize hA : canon a0 a1.size a2 = A at hle hdn hrA
    generalize hU : canon a0 a1.size (a2 + 1) = U at hrU
    generalize hD : canon a0 a1.size (a2 - 1) = D at hdn hrD
    obtain ⟨hd1, hd2⟩ := hdn
    obtain ⟨hA1, hA2⟩ := hrA
    obtain ⟨hU1, hU2⟩ := hrU
    obtain ⟨hD1, hD2⟩ := hrD
    clear hz
    cases a0
    · have hle' : (a1.size : Int) + 1 ≤ A := by simpa [least] using hle
      clear hle
      go_enter Try.func4, Try.ntmps4
      go_wp2_with fail
      refine (bytes8_any false _ a2 w1 _).mono ?_
      rw [decide_eq_true hd]
      rintro v w1 ⟨rfl, rfl⟩
      go_wp2_with fail
      refine (zzlen_any false _ a2 hd (by omega) (by omega) _).mono ?_
      rw [hA]
      rintro v w2 ⟨rfl, hb2⟩
      go_wp2_with fail
      refine (zzlen_any false _ (a2 + 1) hd (by omega) (by omega) _).mono ?_
      rw [hU]
      rintro v w3 ⟨rfl, hb3⟩
      go_wp2_with fail
      refine (zzlen_any false _ (a2 - 1) hd (by omega) (by omega) _).mono ?_
      rw [hD]
      rintro v w4 ⟨rfl, hb4⟩
      clear hA hU hD
      go_wp2
      go_ret
      exact ⟨by simp; try omega, (hb2.trans (hb3.mono hb2.size)).trans (hb4.mono (Nat.le_trans hb2.size hb3.size))⟩
    · have hle' : (a1.size : Int) + 1 + 1 ≤ A := by simpa [least] using hle
      clear hle
      go_enter Try.func4, Try.ntmps4
      go_wp2_with fail
      refine (bytes8_any true _ a2 w1 _).mono ?_
      rw [decide_eq_true hd]
      rintro v w1 ⟨rfl, rfl⟩
      go_wp2_with fail
      refine (zzlen_any true _ a2 hd (by omega) (by omega) _).mono ?_
      rw [hA]
      rintro v w2 ⟨rfl, hb2⟩
      go_wp2_with fail
      refine (zzlen_any true _ (a2 + 1) hd (by omega) (by omega) _).mono ?_
      rw [hU]
      rintro v w3 ⟨rfl, hb3⟩
      go_wp2_with fail
      refine (zzlen_any true _ (a2 - 1) hd (by omega) (by omega) _).mono ?_
      rw [hD]
      rintro v w4 ⟨rfl, hb4⟩
      clear hA hU hD
      go_wp2
      go_ret
      exact ⟨by simp; try omega, (hb2.trans (hb3.mono hb2.size)).trans (hb4.mono (Nat.le_trans hb2.size hb3.size))⟩
  · have hle := canon_least (neg := a0) hL he
    have hup := canon_up (neg := a0) hL he
    generalize hA : canon a0 a1.size a2 = A at hle hup hrA
    generalize hD : canon a0 a1.size (a2 - 1) = D at hrD
    obtain ⟨hA1, hA2⟩ := hrA
    obtain ⟨hD1, hD2⟩ := hrD
    clear hz hrU
    cases a0
    · have hle' : (a1.size : Int) ≤ A := by simpa [least] using hle
      clear hle
      go_enter Try.func4, Try.ntmps4
      go_wp2_with fail
      refine (bytes8_any false _ a2 w1 _).mono ?_
      rw [decide_eq_true hd]
      rintro v w1 ⟨rfl, rfl⟩
      go_wp2_with fail
      refine (zzlen_any false _ a2 hd (by omega) (by omega) _).mono ?_
      rw [hA]
      rintro v w2 ⟨rfl, hb2⟩
      go_wp2_with fail
      refine (zzlen_any false _ (a2 + 1) hd (by omega) (by omega) _).mono ?_
      rw [hup]
      rintro v w3 ⟨rfl, hb3⟩
      go_wp2_with fail
      refine (zzlen_any false _ (a2 - 1) hd (by omega) (by omega) _).mono ?_
      rw [hD]
      rintro v w4 ⟨rfl, hb4⟩
      clear hA hup hD
      go_wp2
      go_ret
      exact ⟨by simp; try omega, (hb2.trans (hb3.mono hb2.size)).trans (hb4.mono (Nat.le_trans hb2.size hb3.size))⟩
    · have hle' : (a1.size : Int) + 1 ≤ A := by simpa [least] using hle
      clear hle
      go_enter Try.func4, Try.ntmps4
      go_wp2_with fail
      refine (bytes8_any true _ a2 w1 _).mono ?_
      rw [decide_eq_true hd]
      rintro v w1 ⟨rfl, rfl⟩
      go_wp2_with fail
      refine (zzlen_any true _ a2 hd (by omega) (by omega) _).mono ?_
      rw [hA]
      rintro v w2 ⟨rfl, hb2⟩
      go_wp2_with fail
      refine (zzlen_any true _ (a2 + 1) hd (by omega) (by omega) _).mono ?_
      rw [hup]
      rintro v w3 ⟨rfl, hb3⟩
      go_wp2_with fail
      refine (zzlen_any true _ (a2 - 1) hd (by omega) (by omega) _).mono ?_
      rw [hD]
      rintro v w4 ⟨rfl, hb4⟩
      clear hA hup hD
      go_wp2
      go_ret
      exact ⟨by simp; try omega, (hb2.trans (hb3.mono hb2.size)).trans (hb4.mono (Nat.le_trans hb2.size hb3.size))⟩
end Go.Proofs.Qxb6603238a
