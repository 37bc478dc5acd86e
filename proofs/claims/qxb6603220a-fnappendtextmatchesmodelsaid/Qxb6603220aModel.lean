import Derived.Test.Qxb6603220aBytesCmp
import Derived.Lib.AppendStr
namespace Go.Proofs.Qxb6603220a
open Go.RowKit
set_option linter.unusedVariables false

/-! ### zzB1CloneBytes -/
theorem bytes_of_row {w : World} {b t n : Nat} {f : Nat → Value} {ss : List UInt8} (h : w.rowIs b t n f) (hn : ss.length ≤ n) (hf : ∀ i, (hi : i < ss.length) → f i = .int .u8 (ss[i].toNat : Int)) : BytesAt w (some ⟨b, 0, none⟩) ss :=
  .inr ⟨b, 0, rfl, fun i hi => by rw [Nat.zero_add, h.cell (by omega), hf i hi]⟩

def ClonedBytes (w : World) (a : Option Addr) (ss : List UInt8) (e : Ending) (w' : World) : Prop :=
  ∃ a' c', e = .returned (.slice a' ss.length c') ∧ BytesAt w' a' ss ∧ (a' = none → ss = [] ∧ c' = 0) ∧ Below w.heap.size w w'

set_option maxHeartbeats 1000000 in
theorem cloneBytes_any (a : Option Addr) (ca : Nat) (ss : List UInt8) (w : World) (ha : BytesAt w a ss) (hn : a = none → ss = []) (hl : ss.length < 2000000) :
    Calls Try.prog 11 #[.slice a ss.length ca] w fun e w' => ClonedBytes w a ss e w' := by
  cases a with
  | none =>
    obtain rfl := hn rfl
    have hq := fun w => Lib.run_eql_slice_nil (P := Try.prog) w 23 5 none 0 ca 0 0 Try.underlying23
    show Calls Try.prog 11 #[.slice none 0 ca] w _
    go_enter Try.func11, Try.ntmps11
    go_wp2
    go_ret
    exact ⟨none, 0, rfl, .inl rfl, fun _ => ⟨rfl, rfl⟩, Below.refl _ _⟩
  | some ad =>
    have hq := fun w => Lib.run_eql_slice_nil (P := Try.prog) w 23 5 (some ad) ss.length ca 0 0 Try.underlying23
    have hmk := run_make_row' (P := Try.prog) 23 5 (.int .u8 0) 1 Try.underlying23 infoB rfl .i64 .i64 ss.length (by omega) (by omega)
    go_enter Try.func11, Try.ntmps11
    go_wp2
    go_loopw [4] (fun i wr => ∃ (k : Nat) (f : Nat → Value), k ≤ ss.length ∧ i = .int .i64 k ∧ wr.rowIs w.heap.size 5 ss.length f ∧ (∀ j, (hj : j < ss.length) → j < k → f j = .int .u8 (ss[j].toNat : Int)) ∧ Below w.heap.size w wr) (fun i _ => ss.length - (intOf i).toNat)
    case atStart => exact ⟨0, _, Nat.zero_le _, rfl, World.rowIs_made _ _ _ _, fun j _ h => absurd h (by omega), (Below.refl _ _).alloc (Nat.le_refl _) _⟩
    case round =>
      clear hmk hq
      obtain ⟨k, f, hk, rfl, hrow, hf, hbel⟩ := hrel
      by_cases hlt : k < ss.length
      · obtain ⟨b, off, had, hbl, hc⟩ := ha.lt k hlt
        obtain rfl : ad = ⟨b, off, none⟩ := by simpa using had
        clear had
        have ck : wr.cell? ⟨b, off + k, none⟩ = some (.int .u8 (ss[k].toNat : Int)) := (hbel.cell (p := ⟨b, off + k, none⟩) hbl).trans (hc k hlt)
        obtain ⟨n, hn⟩ : ∃ n, n = ss[k] := ⟨_, rfl⟩
        rw [← hn] at ck
        have c1 := hrow.cell hlt
        have f1 := hrow.frozen k
        have HF : Hid (∀ j, (hj : j < ss.length) → j < k → f j = .int .u8 (ss[j].toNat : Int)) := hf
        have HN : Hid (n = ss[k]) := hn
        clear hf ha hc hn
        go_wp2
        go_roundw
        case rel => exact ⟨k + 1, _, by omega, by go_num, hrow.set k (.int .u8 (n.toNat : Int)), fun j hj hjk => by
          by_cases hjk2 : j = k
          · subst hjk2; simp [HN.out]
          · rw [if_neg hjk2]; exact HF.out j hj (by omega), hbel.setCell (by simp) _⟩
        case measure => simp [intOf]; omega
      · have HF : Hid (∀ j, (hj : j < ss.length) → f j = .int .u8 (ss[j].toNat : Int)) := fun j hj => hf j hj (by omega)
        clear hf
        go_wp2
        go_ret
        exact ⟨some ⟨w.heap.size, 0, none⟩, ss.length, rfl, bytes_of_row hrow (Nat.le_refl _) HF.out, fun h => by simp at h, hbel⟩

/-! ### zzB1BytesEqual -/
theorem bytesEqual_same (a : Option Addr) (ca : Nat) (b : Option Addr) (cb : Nat) (s : List UInt8) (w : World) (ha : BytesAt w a s) (hb : BytesAt w b s) (hl : s.length < 200000000) :
    Calls Try.prog 16 #[.slice a s.length ca, .slice b s.length cb] w fun e w' => e = .returned (.bool true) ∧ Below w.heap.size w w' := by
  have hp : prefU s s = true := by have := prefU_append s []; simpa using this
  go_enter Try.func16, Try.ntmps16
  go_wp2_with fail
  refine (bytesPrefix_any a ca s b cb s _ ha hb hl hl).mono ?_
  rintro e w1 ⟨rfl, B1⟩
  rw [hp]
  go_wp2
  go_ret
  exact ⟨by rfl, B1⟩

end Go.Proofs.Qxb6603220a
