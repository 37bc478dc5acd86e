import Derived.Test.Qxb6603220aScript
namespace Go.Proofs.Qxb6603220a
open Go.RowKit
set_option linter.unusedVariables false

/-- One row of a [][]string: its address, its strings, its capacity. -/
structure NRow where
  a : Option Addr
  ss : List ByteArray
  cap : Nat

def NestedAt (w : World) (a : Option Addr) (rows : List NRow) : Prop :=
  rows = [] ∨ ∃ b off, a = some ⟨b, off, none⟩ ∧ ∀ i, (h : i < rows.length) → w.cell? ⟨b, off + i, none⟩ = some (.slice rows[i].a rows[i].ss.length rows[i].cap) ∧ IsStrs w rows[i].a rows[i].ss

def IsNested (w : World) (a : Option Addr) (rows : List NRow) : Prop := NestedAt w a rows ∧ (a = none → rows = []) ∧ rows.length ≤ 9223372036854775807

theorem NestedAt.lt {w : World} {a : Option Addr} {rows : List NRow} (h : NestedAt w a rows) (k : Nat) (hk : k < rows.length) :
    ∃ b off, a = some ⟨b, off, none⟩ ∧ b < w.heap.size ∧ ∀ i, (h : i < rows.length) → w.cell? ⟨b, off + i, none⟩ = some (.slice rows[i].a rows[i].ss.length rows[i].cap) ∧ IsStrs w rows[i].a rows[i].ss := by
  rcases h with rfl | ⟨b, off, rfl, hc⟩
  · simp at hk
  · refine ⟨b, off, rfl, ?_, hc⟩
    have h1 := (hc k hk).1
    unfold World.cell? at h1
    rcases Nat.lt_or_ge b w.heap.size with h | h
    · exact h
    · rw [Array.getElem?_eq_none h] at h1; cases h1

theorem IsStrs.below {w w' : World} {a : Option Addr} {ss : List ByteArray} (h : IsStrs w a ss) (hb : Below w.heap.size w w') : IsStrs w' a ss := ⟨h.1.below hb, h.2⟩

theorem NestedAt.below {w w' : World} {a : Option Addr} {rows : List NRow} (h : NestedAt w a rows) (hb : Below w.heap.size w w') : NestedAt w' a rows := by
  rcases Nat.eq_zero_or_pos rows.length with h0 | h0
  · exact .inl (List.length_eq_zero_iff.1 h0)
  · obtain ⟨b, off, rfl, hlt, hc⟩ := h.lt 0 h0
    exact .inr ⟨b, off, rfl, fun i hi => ⟨by rw [hb.cell (p := ⟨b, off + i, none⟩) hlt]; exact (hc i hi).1, (hc i hi).2.below hb⟩⟩

def IntsAt (w : World) (a : Option Addr) (zs : List Int) : Prop :=
  zs = [] ∨ ∃ b off, a = some ⟨b, off, none⟩ ∧ ∀ i, (h : i < zs.length) → w.cell? ⟨b, off + i, none⟩ = some (.int .i64 zs[i])

def IsInts (w : World) (a : Option Addr) (zs : List Int) : Prop := IntsAt w a zs ∧ (a = none → zs = []) ∧ zs.length ≤ 9223372036854775807

theorem IntsAt.lt {w : World} {a : Option Addr} {zs : List Int} (h : IntsAt w a zs) (k : Nat) (hk : k < zs.length) :
    ∃ b off, a = some ⟨b, off, none⟩ ∧ b < w.heap.size ∧ ∀ i, (h : i < zs.length) → w.cell? ⟨b, off + i, none⟩ = some (.int .i64 zs[i]) := by
  rcases h with rfl | ⟨b, off, rfl, hc⟩
  · simp at hk
  · refine ⟨b, off, rfl, ?_, hc⟩
    have h1 := hc k hk
    unfold World.cell? at h1
    rcases Nat.lt_or_ge b w.heap.size with h | h
    · exact h
    · rw [Array.getElem?_eq_none h] at h1; cases h1

theorem IntsAt.below {w w' : World} {a : Option Addr} {zs : List Int} (h : IntsAt w a zs) (hb : Below w.heap.size w w') : IntsAt w' a zs := by
  rcases Nat.eq_zero_or_pos zs.length with h0 | h0
  · exact .inl (List.length_eq_zero_iff.1 h0)
  · obtain ⟨b, off, rfl, hlt, hc⟩ := h.lt 0 h0
    exact .inr ⟨b, off, rfl, fun i hi => by rw [hb.cell (p := ⟨b, off + i, none⟩) hlt]; exact hc i hi⟩

/-- The names of the rows. -/
def pathsOf (rows : List NRow) : List (List ByteArray) := rows.map NRow.ss

theorem pathsOf_getD (rows : List NRow) (i : Nat) (h : i < rows.length) : (pathsOf rows).getD i [] = rows[i].ss := by
  unfold pathsOf
  rw [List.getD_eq_getElem?_getD, List.getElem?_map, List.getElem?_eq_getElem h]
  rfl

theorem ints_getD (zs : List Int) (i : Nat) (h : i < zs.length) : zs.getD i 0 = zs[i] := by
  rw [List.getD_eq_getElem?_getD, List.getElem?_eq_getElem h]
  rfl

/-! ### zzB1SameNames -/
theorem sameNames_any (a : Option Addr) (ca : Nat) (sa : List ByteArray) (b : Option Addr) (cb : Nat) (sb : List ByteArray) (w : World) (ha : StrsAt w a sa) (hb : StrsAt w b sb) (hla : sa.length < 2000000) (hlb : sb.length < 2000000) :
    Calls Try.prog 37 #[.slice a sa.length ca, .slice b sb.length cb] w fun e w' => e = .returned (.bool (decide (sa = sb))) ∧ Below w.heap.size w w' := by
  by_cases hl : sa.length = sb.length
  · have hp : prefB sa sb = decide (sa = sb) := by
      unfold prefB
      rw [hl, List.take_length, decide_eq_decide]
      exact ⟨fun e => e.symm, fun e => e.symm⟩
    have hlb2 : ((sa.length : Int) == (sb.length : Int)) = true := beq_iff_eq.2 (by omega)
    have HP : Hid (prefB sa sb = decide (sa = sb)) := hp
    clear hl hp
    go_enter Try.func37, Try.ntmps37
    go_wp2_with fail
    refine (isPrefix_any a ca sa b cb sb _ ha hb hla hlb).mono ?_
    rintro e w1 ⟨rfl, B1⟩
    rw [HP.out]
    go_wp2
    go_ret
    exact ⟨by rfl, B1⟩
  · have hlb2 : ((sa.length : Int) == (sb.length : Int)) = false := beq_eq_false_iff_ne.2 (by omega)
    have HP : Hid (decide (sa = sb) = false) := decide_eq_false (by rintro rfl; exact hl rfl)
    clear hl
    go_enter Try.func37, Try.ntmps37
    go_wp2_with fail
    go_ret
    exact ⟨by rw [HP.out]; rfl, Below.refl _ _⟩

/-! ### zzB1OpenCount -/
set_option maxHeartbeats 1000000 in
theorem openCount_any (a : Option Addr) (ca : Nat) (rows : List NRow) (b : Option Addr) (cb : Nat) (zs : List Int) (upto : Nat) (q : Option Addr) (cq : Nat) (qs : List ByteArray) (w : World)
    (ha : NestedAt w a rows) (hb : IntsAt w b zs) (hq : StrsAt w q qs) (hql : qs.length < 2000000) (hrl : ∀ i, (h : i < rows.length) → rows[i].ss.length < 2000000) (hu1 : upto ≤ rows.length) (hu2 : upto ≤ zs.length) (hv : Valid (pathsOf rows) zs upto) (hu : upto ≤ 100000) :
    Calls Try.prog 30 #[.slice a rows.length ca, .slice b zs.length cb, .int .i64 (upto : Int), .slice q qs.length cq] w fun e w' => e = .returned (.int .i64 (S (pathsOf rows) zs (prefB qs) upto)) ∧ Below w.heap.size w w' := by
  have HV : Hid (Valid (pathsOf rows) zs upto) := hv
  have HRL : Hid (∀ i, (h : i < rows.length) → rows[i].ss.length < 2000000) := hrl
  clear hv hrl
  go_enter Try.func30, Try.ntmps30
  go_wp2
  go_loopw [9, 10] (fun m j wr => ∃ (k : Nat) (x : Int), k ≤ upto ∧ j = .int .i64 k ∧ m = .int .i64 x ∧ x = S (pathsOf rows) zs (prefB qs) k ∧ Below w.heap.size w wr) (fun _ j _ => upto - (intOf j).toNat)
  case atStart => exact ⟨0, 0, Nat.zero_le _, rfl, rfl, rfl, Below.refl _ _⟩
  case round =>
    obtain ⟨k, x, hk, rfl, rfl, hx, hbel⟩ := hrel
    have hx1 : 0 ≤ x := by rw [hx]; exact S_nonneg HV.out k hk _
    have hx2 : x ≤ k := by rw [hx]; exact S_bound HV.out _ k hk
    have HX : Hid (x = S (pathsOf rows) zs (prefB qs) k) := hx
    clear hx
    by_cases hlt : k < upto
    · obtain ⟨ba, oa, rfl, hla', hca⟩ := ha.lt k (by omega)
      obtain ⟨bb, ob, rfl, hlb', hcb⟩ := hb.lt k (by omega)
      have hkr : k < rows.length := by omega
      have hkz : k < zs.length := by omega
      have hkr2 : (k : Int) < (rows.length : Int) := by omega
      have hkz2 : (k : Int) < (zs.length : Int) := by omega
      obtain ⟨row, hrow⟩ : ∃ row, row = rows[k] := ⟨_, rfl⟩
      obtain ⟨z, hz⟩ : ∃ z, z = zs[k] := ⟨_, rfl⟩
      have ck : wr.cell? ⟨ba, oa + k, none⟩ = some (.slice row.a row.ss.length row.cap) := by rw [hrow]; exact (hbel.cell (p := ⟨ba, oa + k, none⟩) hla').trans (hca k hkr).1
      have dk : wr.cell? ⟨bb, ob + k, none⟩ = some (.int .i64 z) := by rw [hz]; exact (hbel.cell (p := ⟨bb, ob + k, none⟩) hlb').trans (hcb k hkz)
      have hst : StrsAt wr row.a row.ss := by rw [hrow]; exact ((hca k hkr).2.1).below hbel
      have hrl : row.ss.length < 2000000 := by rw [hrow]; exact HRL.out k hkr
      have hqr := hq.below hbel
      have HS : Hid (S (pathsOf rows) zs (prefB qs) (k + 1) = x + sel (prefB qs row.ss) z) := by
        show _ = _
        rw [S, ← HX.out, pathsOf_getD rows k hkr, ints_getD zs k hkz, hrow, hz]
      have hzb : z = 1 ∨ z = -1 := by rw [hz, ← ints_getD zs k hkz]; exact (HV.out k hlt).1
      have hz1 : -1 ≤ z := by omega
      have hz2 : z ≤ 1 := by omega
      clear hca hcb hz hrow hzb ha hb hq
      go_wp2_with fail
      refine (isPrefix_any q cq qs row.a row.cap row.ss _ hqr hst hql hrl).mono ?_
      rintro e w1 ⟨rfl, B1⟩
      have B2 := hbel.trans (B1.mono hbel.size)
      have dk1 := (B1.cell (p := ⟨bb, ob + k, none⟩) (Nat.lt_of_lt_of_le hlb' hbel.size)).trans dk
      clear ck dk hst hqr
      cases hp : prefB qs row.ss with
      | true =>
        have HS2 : Hid (S (pathsOf rows) zs (prefB qs) (k + 1) = x + z) := by have := HS.out; rw [hp] at this; exact this
        clear HS hp
        go_wp2_with fail
        go_roundw
        case rel => exact ⟨k + 1, x + z, by omega, by go_num, rfl, HS2.out.symm, B2⟩
        case measure => simp [intOf]; omega
      | false =>
        have HS2 : Hid (S (pathsOf rows) zs (prefB qs) (k + 1) = x) := by have := HS.out; rw [hp] at this; show _ = _; simpa [sel] using this
        clear HS hp
        go_wp2_with fail
        go_roundw
        case rel => exact ⟨k + 1, x, by omega, by go_num, rfl, HS2.out.symm, B2⟩
        case measure => simp [intOf]; omega
    · have hk' : k = upto := by omega
      go_wp2_with fail
      go_ret
      exact ⟨by rw [← hk', ← HX.out]; rfl, hbel⟩

end Go.Proofs.Qxb6603220a
