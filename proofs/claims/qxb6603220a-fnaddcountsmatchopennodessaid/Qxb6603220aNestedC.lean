import Derived.Test.Qxb6603220aNestedB
namespace Go.Proofs.Qxb6603220a
open Go.RowKit
set_option linter.unusedVariables false

/-! ### zzB1CloneStrings, its capacity told -/
def Cloned2 (w : World) (ss : List ByteArray) (e : Ending) (w' : World) : Prop :=
  ∃ a' c', e = .returned (.slice a' ss.length c') ∧ StrsAt w' a' ss ∧ (a' = none → ss = []) ∧ ss.length ≤ c' ∧ Below w.heap.size w w'

set_option maxHeartbeats 1000000 in
theorem clone2_any (a : Option Addr) (ca : Nat) (ss : List ByteArray) (w : World) (ha : StrsAt w a ss) (hn : a = none → ss = []) (hl : ss.length < 2000000) :
    Calls Try.prog 10 #[.slice a ss.length ca] w fun e w' => Cloned2 w ss e w' := by
  cases a with
  | none =>
    obtain rfl := hn rfl
    have hq := fun w => Lib.run_eql_slice_nil (P := Try.prog) w 22 9 none 0 ca 0 0 Try.underlying22
    show Calls Try.prog 10 #[.slice none 0 ca] w _
    go_enter Try.func10, Try.ntmps10
    go_wp2
    go_ret
    exact ⟨none, 0, rfl, .inl rfl, (fun _ => rfl), Nat.le_refl _, Below.refl _ _⟩
  | some ad =>
    have hq := fun w => Lib.run_eql_slice_nil (P := Try.prog) w 22 9 (some ad) ss.length ca 0 0 Try.underlying22
    have hmk := run_make_row' (P := Try.prog) 22 9 (.string ByteArray.empty) 16 Try.underlying22 infoS rfl .i64 .i64 ss.length (by omega) (by omega)
    go_enter Try.func10, Try.ntmps10
    go_wp2
    go_loopw [4] (fun i wr => ∃ (k : Nat) (f : Nat → Value), k ≤ ss.length ∧ i = .int .i64 k ∧ wr.rowIs w.heap.size 9 ss.length f ∧ (∀ j, (hj : j < ss.length) → j < k → f j = .string ss[j]) ∧ Below w.heap.size w wr) (fun i _ => ss.length - (intOf i).toNat)
    case atStart => exact ⟨0, _, Nat.zero_le _, rfl, World.rowIs_made _ _ _ _, fun j _ h => absurd h (by omega), (Below.refl _ _).alloc (Nat.le_refl _) _⟩
    case round =>
      clear hmk hq
      obtain ⟨k, f, hk, rfl, hrow, hf, hbel⟩ := hrel
      by_cases hlt : k < ss.length
      · obtain ⟨b, off, had, hbl, hc⟩ := ha.lt k hlt
        obtain rfl : ad = ⟨b, off, none⟩ := by simpa using had
        clear had
        have ck : wr.cell? ⟨b, off + k, none⟩ = some (.string ss[k]) := (hbel.cell (p := ⟨b, off + k, none⟩) hbl).trans (hc k hlt)
        have c1 := hrow.cell hlt
        have f1 := hrow.frozen k
        have HF : Hid (∀ j, (hj : j < ss.length) → j < k → f j = .string ss[j]) := hf
        clear hf ha hc
        go_wp2
        go_roundw
        case rel => exact ⟨k + 1, _, by omega, by go_num, hrow.set k (.string ss[k]), fun j hj hjk => by
          by_cases hjk2 : j = k
          · subst hjk2; simp
          · rw [if_neg hjk2]; exact HF.out j hj (by omega), hbel.setCell (by simp) _⟩
        case measure => simp [intOf]; omega
      · have HF : Hid (∀ j, (hj : j < ss.length) → f j = .string ss[j]) := fun j hj => hf j hj (by omega)
        clear hf
        go_wp2
        go_ret
        exact ⟨some ⟨w.heap.size, 0, none⟩, ss.length, rfl, strs_of_row hrow rfl HF.out, (fun h => by simp at h), Nat.le_refl _, hbel⟩

/-! ### zzB1CloneNested -/
theorem infoSS : (Try.prog.info? 22).map (fun i => (i.zero, i.size, i.bytes)) = some (some (.slice none 0 0), 1, 24) := by kernel_rfl

def isSlice : Value → Prop
  | .slice _ _ _ => True
  | _ => False

theorem StrsAt.setSlices {w : World} {N t n : Nat} {f : Nat → Value} (hrow : w.rowIs N t n f) (hs : ∀ j, j < n → isSlice (f j)) {a : Option Addr} {ss : List ByteArray} (h : StrsAt w a ss) (i : Nat) (u : Value) : StrsAt (w.setCell ⟨N, i, none⟩ u) a ss := by
  rcases h with rfl | ⟨b, off, rfl, hc⟩
  · exact .inl rfl
  · refine .inr ⟨b, off, rfl, fun j hj => ?_⟩
    have h1 := hc j hj
    rw [World.cell?_setCell_other]
    · exact h1
    · intro e
      simp at e
      obtain ⟨rfl, rfl⟩ := e
      obtain ⟨cs, h2, h3, h4⟩ := hrow
      rw [cell_block h2] at h1
      have hlt : off + j < n := by
        rcases Nat.lt_or_ge (off + j) cs.size with h5 | h5
        · omega
        · rw [Array.getElem?_eq_none h5] at h1; cases h1
      rw [h4 _ hlt] at h1
      have h6 := hs _ hlt
      simp at h1
      rw [h1] at h6
      exact h6

def ClonedNested (w : World) (rows : List NRow) (e : Ending) (w' : World) : Prop :=
  ∃ a' c' rows', e = .returned (.slice a' rows.length c') ∧ rows'.length = rows.length ∧ NestedAt w' a' rows' ∧ pathsOf rows' = pathsOf rows ∧ (∀ i, (h : i < rows'.length) → rows'[i].ss.length ≤ rows'[i].cap) ∧ Below w.heap.size w w'

set_option maxHeartbeats 4000000 in
theorem cloneNested_any (a : Option Addr) (ca : Nat) (rows : List NRow) (w : World) (ha : NestedAt w a rows) (hn : a = none → rows = []) (hl : rows.length < 2000000) (hrl : ∀ i, (h : i < rows.length) → rows[i].ss.length < 2000000) :
    Calls Try.prog 25 #[.slice a rows.length ca] w fun e w' => ClonedNested w rows e w' := by
  cases a with
  | none =>
    obtain rfl := hn rfl
    have hq := fun w => Lib.run_eql_slice_nil (P := Try.prog) w 39 22 none 0 ca 0 0 Try.underlying39
    show Calls Try.prog 25 #[.slice none 0 ca] w _
    clear hrl
    go_enter Try.func25, Try.ntmps25
    go_wp2_with fail
    go_ret
    exact ⟨none, 0, [], rfl, rfl, .inl rfl, rfl, (fun i h => absurd h (by simp)), Below.refl _ _⟩
  | some ad =>
    have hq := fun w => Lib.run_eql_slice_nil (P := Try.prog) w 39 22 (some ad) rows.length ca 0 0 Try.underlying39
    have hmk := run_make_row' (P := Try.prog) 39 22 (.slice none 0 0) 24 Try.underlying39 infoSS rfl .i64 .i64 rows.length (by omega) (by omega)
    have HRL : Hid (∀ i, (h : i < rows.length) → rows[i].ss.length < 2000000) := hrl
    clear hrl
    go_enter Try.func25, Try.ntmps25
    go_wp2_with fail
    go_loopw [4] (fun i wr => ∃ (k : Nat) (f : Nat → Value) (rs : List NRow), k ≤ rows.length ∧ i = .int .i64 k ∧ wr.rowIs w.heap.size 22 rows.length f ∧ (∀ j, j < rows.length → isSlice (f j)) ∧ rs.length = k ∧ rs.map NRow.ss = (rows.map NRow.ss).take k ∧ (∀ j, (hj : j < rs.length) → f j = .slice rs[j].a rs[j].ss.length rs[j].cap ∧ IsStrs wr rs[j].a rs[j].ss ∧ rs[j].ss.length ≤ rs[j].cap) ∧ Below w.heap.size w wr) (fun i _ => rows.length - (intOf i).toNat)
    case atStart => exact ⟨0, _, [], Nat.zero_le _, rfl, World.rowIs_made _ _ _ _, fun j _ => True.intro, rfl, rfl, fun j h => absurd h (by simp), (Below.refl _ _).alloc (Nat.le_refl _) _⟩
    case round =>
      clear hmk hq
      obtain ⟨k, f, rs, hk, rfl, hrow, hsl, hrs, hmap, hf, hbel⟩ := hrel
      have HF : Hid ((∀ j, j < rows.length → isSlice (f j)) ∧ rs.length = k ∧ rs.map NRow.ss = (rows.map NRow.ss).take k ∧ (∀ j, (hj : j < rs.length) → f j = .slice rs[j].a rs[j].ss.length rs[j].cap ∧ IsStrs wr rs[j].a rs[j].ss ∧ rs[j].ss.length ≤ rs[j].cap)) := ⟨hsl, hrs, hmap, hf⟩
      clear hsl hrs hmap hf
      by_cases hlt : k < rows.length
      · obtain ⟨b, off, had, hbl, hc⟩ := ha.lt k hlt
        obtain rfl : ad = ⟨b, off, none⟩ := by simpa using had
        clear had
        obtain ⟨row, hrowd⟩ : ∃ row, row = rows[k] := ⟨_, rfl⟩
        have ck : wr.cell? ⟨b, off + k, none⟩ = some (.slice row.a row.ss.length row.cap) := by rw [hrowd]; exact (hbel.cell (p := ⟨b, off + k, none⟩) hbl).trans (hc k hlt).1
        have hst : IsStrs wr row.a row.ss := by rw [hrowd]; exact ((hc k hlt).2).below hbel
        have hrl : row.ss.length < 2000000 := by rw [hrowd]; exact HRL.out k hlt
        have HR : Hid (row = rows[k]) := hrowd
        clear ha hc hrowd
        go_wp2_with fail
        refine (clone2_any row.a row.cap row.ss _ hst.1 hst.2.1 hrl).mono ?_
        rintro e w1 ⟨a', c', rfl, hst', hnil', hcap', B1⟩
        have hrow1 := hrow.of_block (B1.block w.heap.size hrow.lt)
        have c1 := hrow1.cell hlt
        have f1 := hrow1.frozen k
        have B2 := hbel.trans (B1.mono hbel.size)
        have l1 := hrow1.lt
        clear ck
        go_wp2_with fail
        obtain ⟨q1, q2, q3, q4⟩ := HF.out
        go_roundw
        case rel =>
          refine ⟨k + 1, _, rs ++ [⟨a', row.ss, c'⟩], by omega, by go_num, hrow1.set k (.slice a' row.ss.length c'), ?_, by simp [q2], ?_, ?_, B2.setCell (by simp) _⟩
          · intro j hj
            by_cases e : j = k
            · rw [if_pos e]; exact True.intro
            · rw [if_neg e]; exact q1 j hj
          · rw [List.map_append, q3, List.take_succ_eq_append_getElem (by simpa using hlt), List.getElem_map, ← HR.out]
            rfl
          · intro j hj
            have hs1 : ∀ {a : Option Addr} {ss : List ByteArray}, IsStrs w1 a ss → IsStrs (w1.setCell ⟨w.heap.size, k, none⟩ (.slice a' row.ss.length c')) a ss := fun h => ⟨h.1.setSlices hrow1 q1 _ _, h.2⟩
            by_cases e : j < rs.length
            · rw [List.getElem_append_left e, if_neg (by omega)]
              exact ⟨(q4 j e).1, hs1 ((q4 j e).2.1.below B1), (q4 j e).2.2⟩
            · have ej : j = k := by rw [List.length_append] at hj; simp at hj; omega
              subst ej
              rw [if_pos rfl]
              have er : (rs ++ [(⟨a', row.ss, c'⟩ : NRow)])[j] = ⟨a', row.ss, c'⟩ := by
                rw [List.getElem_append_right (by omega)]
                simp
              rw [er]
              exact ⟨rfl, hs1 ⟨hst', hnil', by show row.ss.length ≤ _; omega⟩, hcap'⟩
        case measure => simp [intOf]; omega
      · go_wp2_with fail
        obtain ⟨q1, q2, q3, q4⟩ := HF.out
        go_ret
        refine ⟨some ⟨w.heap.size, 0, none⟩, rows.length, rs, rfl, by omega, ?_, ?_, (fun i h => (q4 i h).2.2), hbel⟩
        · refine .inr ⟨w.heap.size, 0, rfl, fun i hi => ?_⟩
          rw [Nat.zero_add, hrow.cell (by omega)]
          exact ⟨by rw [(q4 i hi).1], (q4 i hi).2.1⟩
        · unfold pathsOf
          rw [q3, List.take_of_length_le (by simp; omega)]

end Go.Proofs.Qxb6603220a
