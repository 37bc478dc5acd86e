import Derived.Test.Qxb6603220aRows
import Derived.WalkKit
import Derived.WalkSpells
import Derived.WalkLawsBesides
import Derived.Deep.RegionWith
import Derived.Deep.LoopGhost
import Derived.Deep.QuietTactic
import Derived.BigQuiet
namespace Go.Proofs.Qxb6603220a
open Go.RowKit

/-- In the world w the link p leads to the names r, THE LAST NAME FIRST. -/
def PathR (w : World) : Option Addr → List ByteArray → Prop
  | p, [] => p = none
  | p, n :: r => ∃ b h, p = some ⟨b, 0, none⟩ ∧ w.heap[b]? = some (.cells #[.pointer h, .string n, .int .i64 ((r.length : Int) + 1)] 62 (0, 0)) ∧ PathR w h r

theorem PathR.kept {w w' : World} (hb : ∀ (k : Nat) o, w.heap[k]? = some o → w'.heap[k]? = some o) : ∀ {r : List ByteArray} {p : Option Addr}, PathR w p r → PathR w' p r
  | [], _, h => h
  | _ :: _, _, ⟨b, hh, e, hc, hr⟩ => ⟨b, hh, e, hb _ _ hc, PathR.kept hb hr⟩

theorem PathR.below {w w' : World} (hb : Below w.heap.size w w') {r : List ByteArray} {p : Option Addr} (h : PathR w p r) : PathR w' p r :=
  h.kept (fun k o hk => by
    have hlt : k < w.heap.size := by
      rcases Nat.lt_or_ge k w.heap.size with h | h
      · exact h
      · rw [Array.getElem?_eq_none h] at hk; cases hk
    rw [hb.block k hlt]; exact hk)

theorem cell_block {w : World} {b : Nat} {c : Array Value} {t : TypeId} {f : Nat × Nat} (h : w.heap[b]? = some (.cells c t f)) (i : Nat) : w.cell? ⟨b, i, none⟩ = c[i]? := by
  simp [World.cell?, h]

theorem isRoot_any (p : Option Addr) (w : World) :
    Calls Try.prog 42 #[.agg #[.pointer p]] w fun e w' => e = .returned (.bool p.isNone) ∧ Below w.heap.size w w' := by
  go_enter Try.func42, Try.ntmps42
  go_wp2
  go_ret
  exact ⟨by cases p <;> rfl, by exact (Below.refl _ _).alloc (Nat.le_refl _) _⟩

/-- All old cells, all old marks read as before. -/
theorem bcell {W w1 : World} (hb : Below W.heap.size W w1) : (∀ b o, b < W.heap.size → w1.cell? ⟨b, o, none⟩ = W.cell? ⟨b, o, none⟩) ∧ (∀ b o, b < W.heap.size → w1.frozen? ⟨b, o, none⟩ = W.frozen? ⟨b, o, none⟩) :=
  ⟨fun b o h => hb.cell (p := ⟨b, o, none⟩) h, fun b o h => hb.frozen (p := ⟨b, o, none⟩) h⟩

theorem depth_any (p : Option Addr) (r : List ByteArray) (w : World) (hp : PathR w p r) :
    Calls Try.prog 41 #[.agg #[.pointer p]] w fun e w' => e = .returned (.int .i64 r.length) ∧ Below w.heap.size w w' := by
  cases r with
  | nil =>
    obtain rfl : p = none := hp
    go_enter Try.func41, Try.ntmps41
    go_wp2_with fail
    refine (isRoot_any none _).mono ?_
    rintro e w1 ⟨rfl, hb⟩
    go_wp2
    go_ret
    exact ⟨rfl, ((Below.refl _ _).alloc (Nat.le_refl _) _).trans (hb.mono (by simp))⟩
  | cons n r =>
    obtain ⟨b, h, rfl, hc, hr⟩ := hp
    have hbl : b < w.heap.size := by
      rcases Nat.lt_or_ge b w.heap.size with h | h
      · exact h
      · rw [Array.getElem?_eq_none h] at hc; cases hc
    have c2 := cell_block hc 2
    simp at c2
    clear hr hc
    go_enter Try.func41, Try.ntmps41
    go_wp2_with fail
    refine (isRoot_any _ _).mono ?_
    rintro e w1 ⟨rfl, hb⟩
    obtain ⟨hc1, hf1⟩ := bcell hb
    have hz : w.heap.size < w1.heap.size := by have := hb.size; simp at this; omega
    go_wp2
    go_ret
    exact ⟨rfl, ((Below.refl _ _).alloc (Nat.le_refl _) _).trans (hb.mono (by simp))⟩

theorem new_of_set (w : World) (a : Addr) (v : Value) (o : Obj) : ((w.setCell a v).alloc o).heap[w.heap.size]? = some o := by
  have h : (w.setCell a v).heap.size = w.heap.size := by simp [World.setCell]
  rw [← h]; exact heap_alloc_new _ _

theorem zzroot_any (w : World) :
    Calls Try.prog 13 #[] w fun e w' => e = .returned (.agg #[.pointer none]) ∧ Below w.heap.size w w' := by
  go_enter Try.func13, Try.ntmps13
  go_wp2
  exact bodyPost_ret (v := .agg #[.pointer none]) (by simp [results, Try.results13, go_sem]) rfl ⟨rfl, (Below.refl _ _).alloc (Nat.le_refl _) _⟩

set_option maxHeartbeats 400000 in
theorem child_any (p : Option Addr) (r : List ByteArray) (n : ByteArray) (w : World) (hp : PathR w p r) (hl : r.length < 1000000) :
    Calls Try.prog 34 #[.agg #[.pointer p], .string n] w fun e w' => ∃ q, e = .returned (.agg #[.pointer q]) ∧ PathR w' q (n :: r) ∧ Below w.heap.size w w' := by
  have hwr : IntKind.i64.wrap ((r.length : Int) + 1) = (r.length : Int) + 1 := by rw [IntKind.wrap_i64]; omega
  go_enter Try.func34, Try.ntmps34
  go_wp2
  go_region_with (go_at_call 41; refine (depth_any p r _ ?_).mono ?_; exact hp.below ((((Below.refl _ _).alloc (Nat.le_refl _) _).alloc (by simp) _).drew); rintro e w1 ⟨rfl, hb⟩; obtain ⟨hc1, hf1⟩ := bcell hb; have hz : w.heap.size + 1 < w1.heap.size := by have := hb.size; simp at this; omega)
  all_goals
    go_wp2
    have hB : Below w.heap.size w ((w1.setCell ⟨w.heap.size + 1, 0, none⟩ (.pointer (some ⟨w1.heap.size, 0, none⟩))).alloc (.cells #[.pointer p, .string n, .int .i64 ((r.length : Int) + 1)] 62)) :=
      (((((Below.refl _ _).alloc (Nat.le_refl _) _).alloc (by simp) _).drew.trans (hb.mono (by simp; omega))).setCell (by simp) _).alloc (by simp [World.setCell]; omega) _
    refine bodyPost_ret (v := .agg #[.pointer (some ⟨w1.heap.size, 0, none⟩)]) (by simp [results, Try.results34, go_sem, hc1, hz]) rfl ⟨_, rfl, ⟨w1.heap.size, p, rfl, ?_, ?_⟩, ?_⟩
    · exact new_of_set _ _ _ _
    · exact hp.below hB
    · exact hB

end Go.Proofs.Qxb6603220a
