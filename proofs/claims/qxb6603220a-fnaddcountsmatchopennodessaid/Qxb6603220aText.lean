import Derived.Test.Qxb6603220aHolds
import Derived.Lib.AppendZerosOnto
import Derived.Laws.CopyOwn
import Derived.Lib.BufferWrite
namespace Go.Proofs.Qxb6603220a
open Go.RowKit
set_option linter.unusedVariables false

/-- Does the name open with a dot? -/
def dotB (n : ByteArray) : Bool := match n.data.toList with | [] => false | c :: _ => c == 46

def plainS : ByteArray := ⟨#[46, 112, 108, 97, 105, 110, 58]⟩

theorem dot_extract (n : ByteArray) (h : 0 < n.size) : ((n.extract 0 1).toList == [46]) = dotB n := by
  rw [ByteArray.toList_eq, ByteArray.data_extract]
  obtain ⟨⟨l⟩⟩ := n
  cases l with
  | nil => exact absurd h (by simp [ByteArray.size])
  | cons c l => simp [dotB]

theorem dot_empty (n : ByteArray) (h : ¬ 0 < n.size) : dotB n = false := by
  obtain ⟨⟨l⟩⟩ := n
  cases l with
  | nil => rfl
  | cons c l => exact absurd (show 0 < (c :: l).length by simp) h

theorem hasPrefix45 (n : ByteArray) (w : World) :
    Calls Try.prog 45 #[.string n, .string ⟨#[46]⟩] w fun e w' => e = .returned (.bool (dotB n)) ∧ w' = w := by
  by_cases h : 0 < n.size
  · have H : Hid (((n.extract 0 1).toList == [46]) = dotB n) := dot_extract n h
    go_enter Try.func45, Try.ntmps45
    go_wp2
    go_ret
    exact ⟨by rw [← H.out]; rfl, rfl⟩
  · have H : Hid (dotB n = false) := dot_empty n h
    go_enter Try.func45, Try.ntmps45
    go_wp2
    go_ret
    exact ⟨by rw [H.out]; rfl, rfl⟩

theorem hasPrefix44 (n : ByteArray) (w : World) :
    Calls Try.prog 44 #[.string n, .string ⟨#[46]⟩] w fun e w' => e = .returned (.bool (dotB n)) ∧ w' = w := by
  go_enter Try.func44, Try.ntmps44
  go_wp2_with fail
  refine (hasPrefix45 n _).mono ?_
  rintro e w' ⟨rfl, rfl⟩
  go_wp2
  go_ret
  exact ⟨rfl, rfl⟩

/-- What 'prefixOf' gives. -/
def preS (n : ByteArray) : ByteArray := if dotB n then plainS else ByteArray.empty

theorem prefixOf43 (n : ByteArray) (w : World) :
    Calls Try.prog 43 #[.string n] w fun e w' => e = .returned (.string (preS n)) ∧ w' = w := by
  by_cases hd : dotB n = true
  · have H : Hid (preS n = plainS) := if_pos hd
    go_enter Try.func43, Try.ntmps43
    go_wp2_with fail
    refine (hasPrefix44 n _).mono ?_
    rintro e w' ⟨rfl, rfl⟩
    go_wp2
    go_ret
    exact ⟨by rw [H.out]; rfl, rfl⟩
  · have hd' : dotB n = false := by simpa using hd
    have H : Hid (preS n = ByteArray.empty) := if_neg hd
    go_enter Try.func43, Try.ntmps43
    go_wp2_with fail
    refine (hasPrefix44 n _).mono ?_
    rintro e w' ⟨rfl, rfl⟩
    go_wp2
    go_ret
    exact ⟨by rw [H.out]; rfl, rfl⟩

end Go.Proofs.Qxb6603220a
