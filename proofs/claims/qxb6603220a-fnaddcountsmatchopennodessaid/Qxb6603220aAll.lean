import Derived.Test.Qxb6603220aAgree
namespace Go.Proofs.Qxb6603220a
open Go.RowKit
set_option linter.unusedVariables false

theorem StrsAt.take {w : World} {a : Option Addr} {ss : List ByteArray} (h : StrsAt w a ss) (t : Nat) : StrsAt w a (ss.take t) := by
  rcases h with rfl | ⟨b, off, rfl, hc⟩
  · exact .inl (by simp)
  · refine .inr ⟨b, off, rfl, fun i hi => ?_⟩
    rw [List.length_take] at hi
    rw [hc i (by omega), List.getElem_take]

theorem countAgrees_len {base c : Nat} {mc : Option Nat} {D : List ByteArray → Option (Nat × Option Nat)} (a : Option Addr) (ca : Nat) (rows : List NRow) (b : Option Addr) (cb : Nat) (zs : List Int) (upto : Nat) (q : Option Addr) (cq t : Nat) (qs : List ByteArray) (ht : qs.length = t) (w : World)
    (ha : NestedAt w a rows) (hb : IntsAt w b zs) (hq : StrsAt w q qs) (hql : qs.length < 900000) (H : Held w base c mc D rows zs upto) :
    Calls Try.prog 40 #[.pointer (some ⟨c, 0, none⟩), .slice a rows.length ca, .slice b zs.length cb, .int .i64 (upto : Int), .slice q t cq] w fun e w' => e = .returned (.bool true) ∧ Below w.heap.size w w' := by
  subst ht
  exact countAgrees_any a ca rows b cb zs upto q cq qs w ha hb hq hql H

set_option maxHeartbeats 4000000 in
theorem allAgree_any {base c : Nat} {mc : Option Nat} {D : List ByteArray → Option (Nat × Option Nat)} (a : Option Addr) (ca : Nat) (rows : List NRow) (b : Option Addr) (cb : Nat) (zs : List Int) (n upto : Nat) (w : World)
    (ha : NestedAt w a rows) (hb : IntsAt w b zs) (hn : n ≤ rows.length) (hn2 : n ≤ 100000) (hcap : ∀ i, (h : i < rows.length) → rows[i].ss.length ≤ rows[i].cap ∧ rows[i].ss.length < 900000) (H : Held w base c mc D rows zs upto) :
    Calls Try.prog 33 #[.pointer (some ⟨c, 0, none⟩), .slice a rows.length ca, .slice b zs.length cb, .int .i64 (n : Int), .int .i64 (upto : Int)] w fun e w' => e = .returned (.bool true) ∧ Below w.heap.size w w' := by
  have HC : Hid (∀ i, (h : i < rows.length) → rows[i].ss.length ≤ rows[i].cap ∧ rows[i].ss.length < 900000) := hcap
  clear hcap
  go_enter Try.func33, Try.ntmps33
  go_wp2_with fail
  go_loopw [11] (fun j wr => ∃ m : Nat, m ≤ n ∧ j = .int .i64 m ∧ Below w.heap.size w wr) (fun j _ => n - (intOf j).toNat)
  case atStart => exact ⟨0, Nat.zero_le _, rfl, Below.refl _ _⟩
  case round =>
    obtain ⟨m, hm, rfl, hbel⟩ := hrel
    by_cases hlt : m < n
    · obtain ⟨ba, oa, rfl, hla', hca⟩ := ha.lt m (by omega)
      have hmr : m < rows.length := by omega
      have hmr2 : (m : Int) < (rows.length : Int) := by omega
      obtain ⟨row, hrow⟩ : ∃ row, row = rows[m] := ⟨_, rfl⟩
      have hc0 : w.cell? ⟨ba, oa + m, none⟩ = some (.slice row.a row.ss.length row.cap) := by rw [hrow]; exact (hca m hmr).1
      have hs0 : IsStrs w row.a row.ss := by rw [hrow]; exact (hca m hmr).2
      have hcp : row.ss.length ≤ row.cap ∧ row.ss.length < 900000 := by rw [hrow]; exact HC.out m hmr
      obtain ⟨hcp1, hcp2⟩ := hcp
      obtain ⟨ra, rss, rcap⟩ := row
      simp only at hc0 hs0 hcp1 hcp2
      clear hca hrow
      go_wp2_with fail
      go_loopw [12] (fun k wr2 => ∃ t : Nat, t ≤ rss.length + 1 ∧ k = .int .i64 t ∧ Below w.heap.size w wr2) (fun k _ => rss.length + 1 - (intOf k).toNat)
      case atStart => exact ⟨0, Nat.zero_le _, rfl, hbel⟩
      case round =>
        clear hbel
        obtain ⟨t, ht, rfl, hbel⟩ := hrel
        have ck : wr.cell? ⟨ba, oa + m, none⟩ = some (.slice ra rss.length rcap) := (hbel.cell (p := ⟨ba, oa + m, none⟩) hla').trans hc0
        by_cases hlt2 : t ≤ rss.length
        · have htl : (t : Int) ≤ (rcap : Int) := by omega
          have HW : Hid (NestedAt wr (some ⟨ba, oa, none⟩) rows ∧ IntsAt wr b zs ∧ StrsAt wr ra (rss.take t) ∧ Held wr base c mc D rows zs upto) := ⟨ha.below hbel, hb.below hbel, (hs0.1.below hbel).take t, H.below hbel⟩
          go_wp2_with fail
          refine (countAgrees_len (some ⟨ba, oa, none⟩) ca rows b cb zs upto ra rcap t (rss.take t) (by rw [List.length_take]; omega) _ HW.out.1 HW.out.2.1 HW.out.2.2.1 (by rw [List.length_take]; omega) HW.out.2.2.2).mono ?_
          rintro e w1 ⟨rfl, B1⟩
          have B2 := hbel.trans (B1.mono hbel.size)
          clear ck HW B1
          go_wp2_with fail
          go_roundw
          case rel => exact ⟨t + 1, by omega, by go_num, B2⟩
          case measure => simp [intOf]; omega
        · go_wp2_with fail
          go_roundw
          case rel => exact ⟨m + 1, by omega, by go_num, hbel⟩
          case measure => simp [intOf]; omega
    · go_wp2_with fail
      go_ret
      exact ⟨by rfl, hbel⟩

theorem allAgree_int {base c : Nat} {mc : Option Nat} {D : List ByteArray → Option (Nat × Option Nat)} (a : Option Addr) (ca : Nat) (rows : List NRow) (b : Option Addr) (cb : Nat) (zs : List Int) (n upto : Nat) (u : Int) (hu : u = (upto : Int)) (lr : Nat) (hlr : rows.length = lr) (w : World)
    (ha : NestedAt w a rows) (hb : IntsAt w b zs) (hn : n ≤ rows.length) (hn2 : n ≤ 100000) (hcap : ∀ i, (h : i < rows.length) → rows[i].ss.length ≤ rows[i].cap ∧ rows[i].ss.length < 900000) (H : Held w base c mc D rows zs upto) :
    Calls Try.prog 33 #[.pointer (some ⟨c, 0, none⟩), .slice a lr ca, .slice b zs.length cb, .int .i64 (n : Int), .int .i64 u] w fun e w' => e = .returned (.bool true) ∧ Below w.heap.size w w' := by
  subst hu hlr
  exact allAgree_any a ca rows b cb zs n upto w ha hb hn hn2 hcap H

theorem openCount_int (a : Option Addr) (ca : Nat) (rows : List NRow) (b : Option Addr) (cb : Nat) (zs : List Int) (upto : Nat) (u : Int) (hu : u = (upto : Int)) (lr : Nat) (hlr : rows.length = lr) (q : Option Addr) (cq : Nat) (qs : List ByteArray) (w : World)
    (ha : NestedAt w a rows) (hb : IntsAt w b zs) (hq : StrsAt w q qs) (hql : qs.length < 2000000) (hrl : ∀ i, (h : i < rows.length) → rows[i].ss.length < 2000000) (hu1 : upto ≤ rows.length) (hu2 : upto ≤ zs.length) (hv : Valid (pathsOf rows) zs upto) (hsm : upto ≤ 100000) :
    Calls Try.prog 30 #[.slice a lr ca, .slice b zs.length cb, .int .i64 u, .slice q qs.length cq] w fun e w' => e = .returned (.int .i64 (S (pathsOf rows) zs (prefB qs) upto)) ∧ Below w.heap.size w w' := by
  subst hu hlr
  exact openCount_any a ca rows b cb zs upto q cq qs w ha hb hq hql hrl hu1 hu2 hv hsm

end Go.Proofs.Qxb6603220a
