import Derived.Test.Qxb6603220aNested
import Derived.Test.Qxb6603220aClone
namespace Go.Proofs.Qxb6603220a
open Go.RowKit
set_option linter.unusedVariables false

/-! ### zzBytes_FnAddCountsMatchOpenNodes: it answers, and writes nothing -/
set_option maxHeartbeats 4000000 in
theorem bytes23_any (a : Option Addr) (ca : Nat) (rows : List NRow) (b : Option Addr) (lb cb : Nat) (w : World) (ha : NestedAt w a rows) (hla : rows.length ≤ 9223372036854775807) (hlb : lb ≤ 9223372036854775807) :
    Calls Try.prog 23 #[.slice a rows.length ca, .slice b lb cb] w fun e w' => SomeBool e ∧ w' = w := by
  by_cases g1 : (1048576 : Int) < (rows.length : Int)
  · go_enter Try.func23, Try.ntmps23
    go_wp2
    go_ret
    exact ⟨⟨_, rfl⟩, rfl⟩
  · go_enter Try.func23, Try.ntmps23
    go_wp2
    go_loop [5, 6] (fun c i => ∃ (k : Nat) (v : Int), k ≤ rows.length ∧ i = .int .i64 k ∧ c = .int .i64 v ∧ 0 ≤ v ∧ v ≤ 1048576) (fun _ i => rows.length - (intOf i).toNat)
    case atStart => exact ⟨0, (rows.length : Int), Nat.zero_le _, rfl, rfl, by omega, by omega⟩
    case round =>
      obtain ⟨k, v, hk, rfl, rfl, hv, hv2⟩ := hrel
      by_cases hlt : k < rows.length
      · obtain ⟨ba, oa, rfl, hla', hca⟩ := ha.lt k hlt
        obtain ⟨row, hrow⟩ : ∃ row, row = rows[k] := ⟨_, rfl⟩
        have ck : w.cell? ⟨ba, oa + k, none⟩ = some (.slice row.a row.ss.length row.cap) := by rw [hrow]; exact (hca k hlt).1
        have hst : IsStrs w row.a row.ss := by rw [hrow]; exact (hca k hlt).2
        obtain ⟨hst, _, hsl⟩ := hst
        obtain ⟨ra, rss, rcap⟩ := row
        simp only at ck hst hsl
        clear hca hrow ha
        by_cases hgt : (1048576 : Int) < (rss.length : Int)
        · go_wp2
          go_ret
          exact ⟨⟨_, rfl⟩, rfl⟩
        by_cases hgt2 : (1048576 : Int) < v + (rss.length : Int)
        · go_wp2
          go_ret
          exact ⟨⟨_, rfl⟩, rfl⟩
        go_wp2
        go_loop [5, 7] (fun c i => ∃ (k2 : Nat) (v2 : Int), k2 ≤ rss.length ∧ i = .int .i64 k2 ∧ c = .int .i64 v2 ∧ 0 ≤ v2 ∧ v2 ≤ 1048576) (fun _ i => rss.length - (intOf i).toNat)
        case atStart => exact ⟨0, v + (rss.length : Int), Nat.zero_le _, rfl, rfl, by omega, by omega⟩
        case round =>
          clear hgt2 hv hv2
          obtain ⟨k2, v2, hk2, rfl, rfl, hv, hv2⟩ := hrel
          by_cases hlt2 : k2 < rss.length
          · obtain ⟨bs, os, rfl, hls', hcs⟩ := hst.lt k2 hlt2
            have dk := hcs k2 hlt2
            obtain ⟨n, hn⟩ : ∃ n, n = rss[k2] := ⟨_, rfl⟩
            rw [← hn] at dk
            clear hcs hn hst
            by_cases hgt3 : (1048576 : Int) < (n.size : Int)
            · go_wp2
              go_ret
              exact ⟨⟨_, rfl⟩, rfl⟩
            by_cases hgt4 : (1048576 : Int) < v2 + (n.size : Int)
            · go_wp2
              go_ret
              exact ⟨⟨_, rfl⟩, rfl⟩
            go_wp2
            go_round
            case rel => exact ⟨k2 + 1, v2 + n.size, by omega, by go_num, by go_num, by omega, by omega⟩
            case measure => simp [intOf]; omega
          · go_wp2
            go_round
            case rel => exact ⟨k + 1, v2, by omega, by go_num, rfl, by omega, by omega⟩
            case measure => simp [intOf]; omega
      · clear ha g1 hla
        by_cases g1 : (1048576 : Int) < (lb : Int)
        · go_wp2
          go_ret
          exact ⟨⟨_, rfl⟩, rfl⟩
        by_cases g2 : (1048576 : Int) < v + (lb : Int)
        · go_wp2
          go_ret
          exact ⟨⟨_, rfl⟩, rfl⟩
        go_wp2
        go_ret
        exact ⟨⟨_, rfl⟩, rfl⟩

/-! ### zzB1CloneInts -/
theorem infoI : (Try.prog.info? 3).map (fun i => (i.zero, i.size, i.bytes)) = some (some (.int .i64 0), 1, 8) := by kernel_rfl

theorem ints_of_row {w : World} {b t n : Nat} {f : Nat → Value} {ss : List Int} (h : w.rowIs b t n f) (hn : ss.length ≤ n) (hf : ∀ i, (hi : i < ss.length) → f i = .int .i64 ss[i]) : IntsAt w (some ⟨b, 0, none⟩) ss :=
  .inr ⟨b, 0, rfl, fun i hi => by rw [Nat.zero_add, h.cell (by omega), hf i hi]⟩

def ClonedInts (w : World) (ss : List Int) (e : Ending) (w' : World) : Prop :=
  ∃ a' c', e = .returned (.slice a' ss.length c') ∧ IntsAt w' a' ss ∧ Below w.heap.size w w'

set_option maxHeartbeats 1000000 in
theorem cloneInts_any (a : Option Addr) (ca : Nat) (ss : List Int) (w : World) (ha : IntsAt w a ss) (hn : a = none → ss = []) (hl : ss.length < 2000000) :
    Calls Try.prog 26 #[.slice a ss.length ca] w fun e w' => ClonedInts w ss e w' := by
  cases a with
  | none =>
    obtain rfl := hn rfl
    have hq := fun w => Lib.run_eql_slice_nil (P := Try.prog) w 40 3 none 0 ca 0 0 Try.underlying40
    show Calls Try.prog 26 #[.slice none 0 ca] w _
    go_enter Try.func26, Try.ntmps26
    go_wp2
    go_ret
    exact ⟨none, 0, rfl, .inl rfl, Below.refl _ _⟩
  | some ad =>
    have hq := fun w => Lib.run_eql_slice_nil (P := Try.prog) w 40 3 (some ad) ss.length ca 0 0 Try.underlying40
    have hmk := run_make_row' (P := Try.prog) 40 3 (.int .i64 0) 8 Try.underlying40 infoI rfl .i64 .i64 ss.length (by omega) (by omega)
    go_enter Try.func26, Try.ntmps26
    go_wp2
    go_loopw [4] (fun i wr => ∃ (k : Nat) (f : Nat → Value), k ≤ ss.length ∧ i = .int .i64 k ∧ wr.rowIs w.heap.size 3 ss.length f ∧ (∀ j, (hj : j < ss.length) → j < k → f j = .int .i64 ss[j]) ∧ Below w.heap.size w wr) (fun i _ => ss.length - (intOf i).toNat)
    case atStart => exact ⟨0, _, Nat.zero_le _, rfl, World.rowIs_made _ _ _ _, fun j _ h => absurd h (by omega), (Below.refl _ _).alloc (Nat.le_refl _) _⟩
    case round =>
      clear hmk hq
      obtain ⟨k, f, hk, rfl, hrow, hf, hbel⟩ := hrel
      by_cases hlt : k < ss.length
      · obtain ⟨b, off, had, hbl, hc⟩ := ha.lt k hlt
        obtain rfl : ad = ⟨b, off, none⟩ := by simpa using had
        clear had
        have ck : wr.cell? ⟨b, off + k, none⟩ = some (.int .i64 ss[k]) := (hbel.cell (p := ⟨b, off + k, none⟩) hbl).trans (hc k hlt)
        obtain ⟨n, hn⟩ : ∃ n, n = ss[k] := ⟨_, rfl⟩
        rw [← hn] at ck
        have c1 := hrow.cell hlt
        have f1 := hrow.frozen k
        have HF : Hid (∀ j, (hj : j < ss.length) → j < k → f j = .int .i64 ss[j]) := hf
        have HN : Hid (n = ss[k]) := hn
        clear hf ha hc hn
        go_wp2
        go_roundw
        case rel => exact ⟨k + 1, _, by omega, by go_num, hrow.set k (.int .i64 n), fun j hj hjk => by
          by_cases hjk2 : j = k
          · subst hjk2; simp [HN.out]
          · rw [if_neg hjk2]; exact HF.out j hj (by omega), hbel.setCell (by simp) _⟩
        case measure => simp [intOf]; omega
      · have HF : Hid (∀ j, (hj : j < ss.length) → f j = .int .i64 ss[j]) := fun j hj => hf j hj (by omega)
        clear hf
        go_wp2
        go_ret
        exact ⟨some ⟨w.heap.size, 0, none⟩, ss.length, rfl, ints_of_row hrow (Nat.le_refl _) HF.out, hbel⟩

end Go.Proofs.Qxb6603220a
