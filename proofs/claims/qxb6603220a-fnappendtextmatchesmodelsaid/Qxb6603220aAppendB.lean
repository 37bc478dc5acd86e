import Derived.Test.Qxb6603220aAppend
namespace Go.Proofs.Qxb6603220a
open Go.RowKit
set_option linter.unusedVariables false

/-- The text of a path (its names, the last first). -/
def fullR : List ByteArray → List UInt8
  | [] => [47]
  | n :: r => textR (n :: r)

theorem owns_at {w : World} {v : Value} {L : List UInt8} (h : w.ownsRow 0 5 1 v L.length (Lib.byteCells L)) (h0 : 0 < L.length) : ∃ a c, v = .slice a L.length c ∧ BytesAt w a L := by
  rcases h.2 with ⟨_, h1⟩ | ⟨g, cap, cur, rfl, _, hg, _, _, _, htake⟩
  · omega
  · refine ⟨_, cap, rfl, .inr ⟨g, 0, rfl, fun i hi => ?_⟩⟩
    rw [Nat.zero_add, cell_block hg i]
    have h2 : (cur.toList.take (L.length * 1))[i]? = (Lib.byteCells L)[i]? := by rw [htake]
    rw [List.getElem?_take_of_lt (by omega), Array.getElem?_toList] at h2
    rw [h2]
    unfold Lib.byteCells
    rw [List.getElem?_map, List.getElem?_eq_getElem hi]
    rfl

set_option maxHeartbeats 1000000 in
theorem appendText_root (v : Value) (B : List UInt8) (w : World) (hown : w.ownsRow 0 5 1 v B.length (Lib.byteCells B)) (hS : B.length < 100000000) :
    Calls Try.prog 35 #[.agg #[.pointer none], v] w fun e w' => TextPost w v B [47] e w' := by
  obtain ⟨i, hi, hz, hsize, hby⟩ := info_parts infoB
  go_enter Try.func35, Try.ntmps35
  go_wp2_with fail
  refine (isRoot_any none _).mono ?_
  rintro e w1 ⟨rfl, hb1⟩
  have B1 : Below w.heap.size w w1 := ((Below.refl _ _).alloc (Nat.le_refl _) _).trans (hb1.mono (by simp))
  have hown1 : w1.ownsRow 0 5 1 v B.length (Lib.byteCells B) := hown.kept (grownBy_below none B1) (by cases h : v.ownBlock <;> simp)
  clear hb1 hown
  go_wp2_with (at_builtin; refine wpList_append_own _ rfl _ _ 23 rfl 0 5 i (.int .u8 0) 1 1 Try.underlying23 hi hz hsize hby rfl (by decide) v B.length (Lib.byteCells B) rfl (hown1.alloc _) ⟨w1.heap.size, 0, none⟩ 1 1 [.int .u8 47] rfl rfl ?c1 ?c2 ?c3 ?c4 ?c5 ?_)
  case c1 =>
    intro j u hj
    match j, hj with
    | 0, hj => simp at hj; subst hj; simp [Addr.add]
  case c2 => intro u hu; simp at hu; subst hu; rfl
  case c3 => unfold maxLen; omega
  case c4 => omega
  case c5 => omega
  intro v' w2 hown2 hgr _
  have hown3 : w2.ownsRow 0 5 1 v' (B ++ [47]).length (Lib.byteCells (B ++ [47])) := by
    have e : Lib.byteCells (B ++ [47]) = Lib.byteCells B ++ [.int .u8 47] := by simp [Lib.byteCells]
    rw [e, List.length_append]; exact hown2
  have G : w.grownBy w2 v.ownBlock := grownBy_trans (grownBy_trans (grownBy_below v.ownBlock B1) (World.grownBy_alloc w1 _ none) (fun k hk => by cases hk)) hgr (fun k hk _ => hk)
  obtain ⟨a, c, hv, hat⟩ := owns_at hown3 (by simp)
  clear hown2 hgr hown1 hown3
  rw [List.length_append] at hv
  subst hv
  go_wp2_with fail
  go_ret
  exact ⟨a, c, rfl, hat, G⟩

theorem appendText_any (p : Option Addr) (r : List ByteArray) (v : Value) (B : List UInt8) (w : World) (hp : PathR w p r) (hown : w.ownsRow 0 5 1 v B.length (Lib.byteCells B)) (hS : B.length + (textR r).length < 100000000) :
    Calls Try.prog 35 #[.agg #[.pointer p], v] w fun e w' => TextPost w v B (fullR r) e w' := by
  cases r with
  | nil =>
    obtain rfl : p = none := hp
    exact appendText_root v B w hown (by omega)
  | cons n r => exact appendText_path p n r v B w hp hown hS

theorem zzAppendText_any (p : Option Addr) (r : List ByteArray) (v : Value) (B : List UInt8) (w : World) (hp : PathR w p r) (hown : w.ownsRow 0 5 1 v B.length (Lib.byteCells B)) (hS : B.length + (textR r).length < 100000000) :
    Calls Try.prog 14 #[.agg #[.pointer p], v] w fun e w' => TextPost w v B (fullR r) e w' := by
  have BW := (Below.refl w.heap.size w).alloc (Nat.le_refl _) (.cells #[.pointer p] 30)
  have hown1 : (w.alloc (.cells #[.pointer p] 30)).ownsRow 0 5 1 v B.length (Lib.byteCells B) := hown.alloc _
  go_enter Try.func14, Try.ntmps14
  go_wp2_with fail
  refine (appendText_any p r v B _ (hp.below BW) hown1 hS).mono ?_
  rintro e w1 ⟨a, c, rfl, hat, G⟩
  have G1 := grownBy_trans (grownBy_below v.ownBlock BW) G (fun k hk _ => hk)
  clear G BW hown1 hown hp
  go_wp2
  go_ret
  exact ⟨a, c, rfl, hat, G1⟩

end Go.Proofs.Qxb6603220a
