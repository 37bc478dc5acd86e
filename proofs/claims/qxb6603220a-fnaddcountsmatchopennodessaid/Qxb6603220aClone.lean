import Derived.Test.Qxb6603220aReads
import Derived.Deep.OwnRows
namespace Go.Proofs.Qxb6603220a
open Go.RowKit
set_option linter.unusedVariables false

theorem infoS : (Try.prog.info? 9).map (fun i => (i.zero, i.size, i.bytes)) = some (some (.string ByteArray.empty), 1, 16) := by kernel_rfl

theorem strs_of_row {w : World} {b t n : Nat} {f : Nat → Value} {ss : List ByteArray} (h : w.rowIs b t n f) (hn : n = ss.length) (hf : ∀ i, (hi : i < ss.length) → f i = .string ss[i]) : StrsAt w (some ⟨b, 0, none⟩) ss :=
  .inr ⟨b, 0, rfl, fun i hi => by rw [Nat.zero_add, h.cell (by omega), hf i hi]⟩

set_option maxHeartbeats 1000000 in
theorem clone_any (a : Option Addr) (ca : Nat) (ss : List ByteArray) (w : World) (ha : StrsAt w a ss) (hn : a = none → ss = []) (hl : ss.length < 2000000) :
    Calls Try.prog 10 #[.slice a ss.length ca] w fun e w' => ∃ a' c', e = .returned (.slice a' ss.length c') ∧ StrsAt w' a' ss ∧ (a' = none → ss = []) ∧ Below w.heap.size w w' := by
  cases a with
  | none =>
    obtain rfl := hn rfl
    have hq := fun w => Lib.run_eql_slice_nil (P := Try.prog) w 22 9 none 0 ca 0 0 Try.underlying22
    show Calls Try.prog 10 #[.slice none 0 ca] w _
    go_enter Try.func10, Try.ntmps10
    go_wp2
    go_ret
    exact ⟨none, ⟨0, rfl⟩, .inl rfl, Below.refl _ _⟩
  | some ad =>
    have hq := fun w => Lib.run_eql_slice_nil (P := Try.prog) w 22 9 (some ad) ss.length ca 0 0 Try.underlying22
    have hmk := run_make_row' (P := Try.prog) 22 9 (.string ByteArray.empty) 16 Try.underlying22 infoS rfl .i64 .i64 ss.length (by omega) (by omega)
    go_enter Try.func10, Try.ntmps10
    go_wp2
    go_loopw [4] (fun i wr => ∃ (k : Nat) (f : Nat → Value), k ≤ ss.length ∧ i = .int .i64 k ∧ wr.rowIs w.heap.size 9 ss.length f ∧ (∀ j, (hj : j < ss.length) → j < k → f j = .string ss[j]) ∧ Below w.heap.size w wr) (fun i _ => ss.length - (intOf i).toNat)
    case atStart => exact ⟨0, _, Nat.zero_le _, rfl, World.rowIs_made _ _ _ _, fun j _ h => absurd h (by omega), (Below.refl _ _).alloc (Nat.le_refl _) _⟩
    case round =>
      clear hmk hq
      obtain ⟨k, f, hk, rfl, hrow, hf, hbel⟩ := hrel
      by_cases hlt : k < ss.length
      · obtain ⟨b, off, had, hbl, hc⟩ := ha.lt k hlt
        obtain rfl : ad = ⟨b, off, none⟩ := by simpa using had
        clear had
        have ck : wr.cell? ⟨b, off + k, none⟩ = some (.string ss[k]) := (hbel.cell (p := ⟨b, off + k, none⟩) hbl).trans (hc k hlt)
        have c1 := hrow.cell hlt
        have f1 := hrow.frozen k
        have HF : Hid (∀ j, (hj : j < ss.length) → j < k → f j = .string ss[j]) := hf
        clear hf ha hc
        go_wp2
        go_roundw
        case rel => exact ⟨k + 1, _, by omega, by go_num, hrow.set k (.string ss[k]), fun j hj hjk => by
          by_cases hjk2 : j = k
          · subst hjk2; simp
          · rw [if_neg hjk2]; exact HF.out j hj (by omega), hbel.setCell (by simp) _⟩
        case measure => simp [intOf]; omega
      · have HF : Hid (∀ j, (hj : j < ss.length) → f j = .string ss[j]) := fun j hj => hf j hj (by omega)
        clear hf
        go_wp2
        go_ret
        exact ⟨some ⟨w.heap.size, 0, none⟩, ss.length, rfl, strs_of_row hrow rfl HF.out, fun h => by simp at h, hbel⟩

end Go.Proofs.Qxb6603220a
