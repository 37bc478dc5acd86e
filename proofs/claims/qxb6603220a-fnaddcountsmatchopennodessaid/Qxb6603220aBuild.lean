import Derived.Test.Qxb6603220aLeaf
namespace Go.Proofs.Qxb6603220a
open Go.RowKit

/-- Behind the address a lie the strings ss, a cell each (of no string nothing is asked of a). -/
def StrsAt (w : World) (a : Option Addr) (ss : List ByteArray) : Prop :=
  ss = [] ∨ ∃ b off, a = some ⟨b, off, none⟩ ∧ ∀ i, (h : i < ss.length) → w.cell? ⟨b, off + i, none⟩ = some (.string ss[i])

theorem StrsAt.lt {w : World} {a : Option Addr} {ss : List ByteArray} (h : StrsAt w a ss) (k : Nat) (hk : k < ss.length) :
    ∃ b off, a = some ⟨b, off, none⟩ ∧ b < w.heap.size ∧ ∀ i, (h : i < ss.length) → w.cell? ⟨b, off + i, none⟩ = some (.string ss[i]) := by
  rcases h with rfl | ⟨b, off, rfl, hc⟩
  · simp at hk
  · refine ⟨b, off, rfl, ?_, hc⟩
    have h1 := hc k hk
    unfold World.cell? at h1
    rcases Nat.lt_or_ge b w.heap.size with h | h
    · exact h
    · rw [Array.getElem?_eq_none h] at h1; cases h1

theorem StrsAt.below {w w' : World} (hb : Below w.heap.size w w') {a : Option Addr} {ss : List ByteArray} (h : StrsAt w a ss) : StrsAt w' a ss := by
  rcases Nat.eq_zero_or_pos ss.length with h0 | h0
  · exact .inl (List.length_eq_zero_iff.1 h0)
  · obtain ⟨b, off, rfl, hlt, hc⟩ := h.lt 0 h0
    exact .inr ⟨b, off, rfl, fun i hi => by rw [hb.cell (p := ⟨b, off + i, none⟩) hlt]; exact hc i hi⟩

theorem rev_take_succ (ss r : List ByteArray) (k : Nat) (h : k < ss.length) : (ss.take (k + 1)).reverse ++ r = ss[k] :: ((ss.take k).reverse ++ r) := by
  rw [List.take_succ_eq_append_getElem h, List.reverse_append]; rfl

/-- A store into a block that is no link's turns no path. -/
theorem PathR.setCell {w : World} {B : Nat} {c : Array Value} {t : TypeId} {f : Nat × Nat} (h0 : w.heap[B]? = some (.cells c t f)) (ht : t ≠ 62) (i : Nat) (u : Value) :
    ∀ {r : List ByteArray} {p : Option Addr}, PathR w p r → PathR (w.setCell ⟨B, i, none⟩ u) p r
  | [], _, h => h
  | _ :: _, _, ⟨b, hh, e, hc, hr⟩ => ⟨b, hh, e, by
      have hne : b ≠ B := by
        rintro rfl
        rw [h0] at hc
        simp at hc
        exact ht hc.2.1
      rw [Below.heap_setCell _ _ _ _ hne]; exact hc, PathR.setCell h0 ht i u hr⟩

theorem heap_alloc_at (w : World) (o : Obj) (n : Nat) (h : n = w.heap.size) : (w.alloc o).heap[n]? = some o := by
  subst h; exact heap_alloc_new w o

theorem block_drew {wr w1 : World} (hb : Below wr.drew.heap.size wr.drew w1) {k : Nat} {o : Obj} (h : wr.heap[k]? = some o) : w1.heap[k]? = some o :=
  (hb.block k (lt_of_block (w := wr) h)).trans h

set_option maxHeartbeats 1000000 in
theorem build_any (p : Option Addr) (r : List ByteArray) (a : Option Addr) (cap : Nat) (ss : List ByteArray) (w : World) (hp : PathR w p r) (hs : StrsAt w a ss) (hl : r.length + ss.length < 1000000) :
    Calls Try.prog 12 #[.agg #[.pointer p], .slice a ss.length cap] w fun e w' => ∃ q, e = .returned (.agg #[.pointer q]) ∧ PathR w' q (ss.reverse ++ r) ∧ Below w.heap.size w w' := by
  go_enter Try.func12, Try.ntmps12
  go_wp2
  go_loopw [5] (fun i wr => ∃ (k : Nat) (q : Option Addr), k ≤ ss.length ∧ i = .int .i64 k ∧ wr.heap[w.heap.size]? = some (.cells #[.pointer q] 30 (0, 0)) ∧ wr.heap[w.heap.size + 1]? = some (.cells #[.pointer none] 30 (0, 0)) ∧
      PathR wr q ((ss.take k).reverse ++ r) ∧ Below w.heap.size w wr) (fun i _ => ss.length - (intOf i).toNat)
  case atStart =>
    have hB : Below w.heap.size w ((w.alloc (.cells #[.pointer p] 30)).alloc (.cells #[.pointer none] 30)) := ((Below.refl _ _).alloc (Nat.le_refl _) _).alloc (by simp) _
    refine ⟨0, p, Nat.zero_le _, rfl, ?_, ?_, by simpa using hp.below hB, hB⟩
    · rw [Below.heap_alloc _ _ _ (by simp)]; exact heap_alloc_new _ _
    · exact heap_alloc_at _ _ _ (by simp)
  case round =>
    obtain ⟨k, q, hk, rfl, h0, h1, hq, hbel⟩ := hrel
    have l0 := lt_of_block h0
    have l1 := lt_of_block h1
    have c0 := cell_of_one h0
    have f0 := free_of_one h0
    have c1 := cell_of_one h1
    have f1 := free_of_one h1
    have hln : ((ss.take k).reverse ++ r).length < 1000000 := by simp; omega
    by_cases hlt : k < ss.length
    · obtain ⟨b, off, rfl, hbl, hc⟩ := hs.lt k hlt
      have hck : wr.cell? ⟨b, off + k, none⟩ = some (.string ss[k]) := (hbel.cell (p := ⟨b, off + k, none⟩) hbl).trans (hc k hlt)
      clear hc hs hp
      go_wp2
      go_region_with (go_at_call 34; refine (child_any q _ _ _ ?_ hln).mono ?_; exact hq.below ((Below.refl _ _).drew); rintro e w1 ⟨q', rfl, hq', hb⟩; have e0 := (hb.cell (p := ⟨w.heap.size, 0, none⟩) l0).trans c0; have g0 := (hb.frozen (p := ⟨w.heap.size, 0, none⟩) l0).trans f0)
      all_goals
        have hB0 := block_drew hb h0
        have hB1 := block_drew hb h1
        have R1 := one_setCell (u := .pointer q') hB0
        have R2 := (Below.heap_setCell w1 ⟨w.heap.size, 0, none⟩ (.pointer q') (w.heap.size + 1) (by simp)).trans hB1
        have R3 := hq'.setCell hB0 (by decide) 0 (.pointer q')
        have R4 := (hbel.drew.trans (hb.mono (B' := w.heap.size) (Nat.le_of_lt l0))).setCell (p := ⟨w.heap.size, 0, none⟩) (Nat.le_refl _) (.pointer q')
        rw [← rev_take_succ ss r k hlt] at R3
        clear hB0 hB1 hq' hq hb e0 g0 c0 f0 c1 f1 h0 h1
        go_wp2
        go_roundw
        case rel => exact ⟨k + 1, q', by omega, by go_num, R1, R2, R3, R4⟩
        case measure => simp [intOf]; omega
    · have hk' : k = ss.length := by omega
      subst hk'
      rw [List.take_length] at hq
      clear hs hp
      go_wp2
      have cN := cell_of_one (one_setCell (u := .pointer q) h1)
      refine bodyPost_ret (v := .agg #[.pointer q]) (by simp [results, Try.results12, go_sem, cN]) rfl ⟨_, rfl, ?_, ?_⟩
      · exact hq.setCell h1 (by decide) 0 _
      · exact hbel.setCell (by simp) _

end Go.Proofs.Qxb6603220a
