import Derived.Test.Qxb6603238aRows
import Derived.WalkKit
import Derived.Below
namespace Go.Proofs.Qxb6603238a
open Go.RowKit

/-- The length of the positional text of L digits (L > 0) times ten to the e, with a sign where neg. -/
def canon (neg : Bool) (L e : Int) : Int :=
  (if L = 0 then 1 else (if 0 ≤ e then L + e else if 0 < L + e then L + 1 else 2 - e) + (if neg then 1 else 0))

theorem size_zero {a : ByteArray} (h : a.size = 0) : a = ByteArray.empty := by
  cases a with | mk d => simp [ByteArray.size] at h; subst h; rfl

theorem list_nonempty {a : ByteArray} (h : ¬ a.size = 0) : a.toList.isEmpty = false := by
  have hl : a.toList = a.data.toList := ByteArray.toList_eq a
  rw [hl]
  cases a with | mk d => cases d with | mk l => cases l with
    | nil => exact absurd rfl h
    | cons _ _ => rfl

theorem canonical_any (neg : Bool) (d : ByteArray) (e : Int) (hd : d.size ≤ 1048576) (h1 : -4611686018427387906 ≤ e) (h2 : e ≤ 4611686018427387906) (w : World) :
    Calls Try.prog 9 #[.agg #[.bool neg, .string d, .int .i64 e]] w fun v w' => v = .returned (.int .i64 (canon neg d.size e)) ∧ Below w.heap.size w w' := by
  by_cases hz : d.size = 0
  · obtain rfl := size_zero hz
    have hcan : canon neg ((ByteArray.empty).size : Nat) e = 1 := by simp [canon]
    rw [hcan]
    go_enter Try.func9, Try.ntmps9
    go_wp2
    go_ret
    exact ⟨rfl, by exact (Below.refl _ _).alloc (Nat.le_refl _) _⟩
  · have hl : d.toList.isEmpty = false := list_nonempty hz
    have hpos : 0 < d.size := by omega
    have hz' : ¬ (d.size : Int) = 0 := by omega
    rcases Int.lt_or_le e 0 with he | he
    · rcases Int.lt_or_le 0 ((d.size : Int) + e) with hs | hs
      · have hcan : canon neg d.size e = d.size + 1 + (if neg then 1 else 0) := by simp only [canon]; rw [if_neg hz', if_neg (by omega), if_pos hs]
        rw [hcan]
        cases neg
        · go_enter Try.func9, Try.ntmps9
          go_wp2
          go_ret
          exact ⟨by simp, by exact (Below.refl _ _).alloc (Nat.le_refl _) _⟩
        · go_enter Try.func9, Try.ntmps9
          go_wp2
          go_ret
          exact ⟨by simp, by exact (Below.refl _ _).alloc (Nat.le_refl _) _⟩
      · have hcan : canon neg d.size e = 2 - e + (if neg then 1 else 0) := by simp only [canon]; rw [if_neg hz', if_neg (by omega), if_neg (by omega)]
        rw [hcan]
        cases neg
        · go_enter Try.func9, Try.ntmps9
          go_wp2
          go_ret
          exact ⟨by simp, by exact (Below.refl _ _).alloc (Nat.le_refl _) _⟩
        · go_enter Try.func9, Try.ntmps9
          go_wp2
          go_ret
          exact ⟨by simp, by exact (Below.refl _ _).alloc (Nat.le_refl _) _⟩
    · have hcan : canon neg d.size e = d.size + e + (if neg then 1 else 0) := by simp only [canon]; rw [if_neg hz', if_pos he]
      rw [hcan]
      cases neg
      · go_enter Try.func9, Try.ntmps9
        go_wp2
        go_ret
        exact ⟨by simp, by exact (Below.refl _ _).alloc (Nat.le_refl _) _⟩
      · go_enter Try.func9, Try.ntmps9
        go_wp2
        go_ret
        exact ⟨by simp, by exact (Below.refl _ _).alloc (Nat.le_refl _) _⟩

theorem zzlen_any (neg : Bool) (d : ByteArray) (e : Int) (hd : d.size ≤ 1048576) (h1 : -4611686018427387906 ≤ e) (h2 : e ≤ 4611686018427387906) (w : World) :
    Calls Try.prog 6 #[.bool neg, .string d, .int .i64 e] w fun v w' => v = .returned (.int .i64 (canon neg d.size e)) ∧ Below w.heap.size w w' := by
  go_enter Try.func6, Try.ntmps6
  go_wp2_with fail
  refine (canonical_any neg d e hd h1 h2 _).mono ?_
  rintro v w1 ⟨rfl, hb⟩
  go_wp2
  go_ret
  exact ⟨rfl, hb⟩

theorem bytes8_any (neg : Bool) (d : ByteArray) (e : Int) (_hd : d.size ≤ maxLen) (w : World) :
    Calls Try.prog 8 #[.bool neg, .string d, .int .i64 e] w fun v w' => v = .returned (.bool (decide (d.size ≤ 1048576))) ∧ w' = w := by
  by_cases h : d.size ≤ 1048576
  · have hdd : decide (d.size ≤ 1048576) = true := decide_eq_true h
    rw [hdd]
    go_enter Try.func8, Try.ntmps8
    go_wp2
    go_ret
    simp
  · have hdd : decide (d.size ≤ 1048576) = false := decide_eq_false h
    rw [hdd]
    go_enter Try.func8, Try.ntmps8
    go_wp2
    go_ret
    simp

theorem bytes5_any (neg : Bool) (d : ByteArray) (e : Int) (_hd : d.size ≤ maxLen) (w : World) :
    Calls Try.prog 5 #[.bool neg, .string d, .int .i64 e] w fun v w' => v = .returned (.bool (decide (d.size ≤ 1048576))) ∧ w' = w := by
  by_cases h : d.size ≤ 1048576
  · have hdd : decide (d.size ≤ 1048576) = true := decide_eq_true h
    rw [hdd]
    go_enter Try.func5, Try.ntmps5
    go_wp2
    go_ret
    simp
  · have hdd : decide (d.size ≤ 1048576) = false := decide_eq_false h
    rw [hdd]
    go_enter Try.func5, Try.ntmps5
    go_wp2
    go_ret
    simp
end Go.Proofs.Qxb6603238a
