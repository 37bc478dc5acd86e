import Derived.Test.Qxb6603238aLen
import Derived.WalkSpells
import Derived.WalkLawsBesides
import Derived.Deep.RegionWith
import Derived.Deep.LoopGhost
import Derived.Deep.QuietTactic
import Derived.BigQuiet
import Derived.OwnWalk
import Derived.Deep.OwnRows
import Derived.Deep.DeepCutAuto
import Derived.Lib.AppendStr
namespace Go.Proofs.Qxb6603238a
open Go.RowKit
set_option linter.unusedVariables false

theorem infoB : (Try.prog.info? 5).map (fun i => (i.zero, i.size, i.bytes)) = some (some (.int .u8 0), 1, 1) := by kernel_rfl

/-- v is a slice of n bytes of the call's own (its row was made since w); all that was there at w is as it was. -/
def Own (w wr : World) (v : Value) (n : Nat) : Prop := ∃ xs : List Value, (∀ u ∈ xs, u.oneCell' = true) ∧ wr.ownsRow w.heap.size 5 1 v n xs ∧ Below w.heap.size w wr

theorem Own.below {w wr : World} {v : Value} {n : Nat} (h : Own w wr v n) : Below w.heap.size w wr := h.choose_spec.2.2

/-- A slice of the own that is not empty: where it lies. -/
theorem Own.at {w wr : World} {v : Value} {n : Nat} (h : Own w wr v n) (h0 : 0 < n) : ∃ (g c : Nat) (xs : List Value), v = .slice (some ⟨g, 0, none⟩) n c ∧ n ≤ c ∧ c ≤ maxLen ∧ g < wr.heap.size ∧ xs.length = n ∧ (∀ u ∈ xs, u.oneCell' = true) ∧ ∀ (j : Nat) u, xs[j]? = some u → wr.cell? ⟨g, j, none⟩ = some u := by
  obtain ⟨xs, h1, ⟨hl, h2⟩, h3⟩ := h
  rcases h2 with ⟨_, h4⟩ | ⟨g, cap, cur, rfl, hbase, hg, hn, hm, hcur, htake⟩
  · omega
  · refine ⟨g, cap, xs, rfl, hn, hm, ?_, by omega, h1, ?_⟩
    · rcases Nat.lt_or_ge g wr.heap.size with h | h
      · exact h
      · rw [Array.getElem?_eq_none h] at hg; cases hg
    · intro j u hj
      have hjn : j < xs.length := by
        rcases Nat.lt_or_ge j xs.length with h | h
        · exact h
        · rw [List.getElem?_eq_none h] at hj; cases hj
      rw [← htake, List.getElem?_take_of_lt (by omega), Array.getElem?_toList] at hj
      simp only [World.cell?, hg]
      exact hj

theorem Own.made {w w' : World} {v : Value} (h : w'.ownsRow w.heap.size 5 1 v 0 []) (hg : w.grownBy w' none) : Own w w' v 0 :=
  ⟨[], by simp, h, ⟨hg.os, hg.tape, hg.output, hg.size, fun k hk => hg.block k hk (by simp)⟩⟩

/-- 'out = append(out, c)', out the call's own. -/
theorem wpList_app1 {ops : Array Oper} {rest : List Oper} {o : Oper} {a : Act} {Q : Exit → Act → World → Prop} (hgd : o.guard = none) (s x : Operand)
    (ho : o.op = .call { callee := .builtin .append, args := #[s, x], argTypes := #[24, 24] }) (w0 wr : World) (v : Value) (n : Nat) (hs : a.eval s = v) (H : Own w0 wr v n) (z : Int)
    (hx : a.eval x = .slice (some ⟨wr.heap.size, 0, none⟩) 1 1) (hL : n < 200000000)
    (h : ∀ v' w', Own w0 w' v' (n + 1) → wpList Try.prog ops Q rest (a.put o.dst v') w') : wpList Try.prog ops Q (o :: rest) a (wr.alloc (.cells #[.int .u8 z] 5)) := by
  obtain ⟨i, hi, hz0, hsize, hby⟩ := info_parts infoB
  obtain ⟨xs, H1, H2, H3⟩ := H
  refine wpList_append_own _ hgd s x 24 ho w0.heap.size 5 i (.int .u8 0) 1 1 Try.underlying24 hi hz0 hsize hby rfl (by decide) v n xs hs (H2.alloc _) ⟨wr.heap.size, 0, none⟩ 1 1 [.int .u8 z] hx rfl ?_ ?_ ?_ ?_ ?_ ?_
  · intro j u hj
    match j, hj with
    | 0, hj => simp at hj; subst hj; simp [Addr.add]
  · intro u hu; simp at hu; subst hu; rfl
  · unfold maxLen; omega
  · omega
  · have := H3.size; simp; omega
  · intro v' w' h1 h2 _
    refine h v' w' ⟨_, ?_, h1, (H3.alloc H3.size _).grown h2 (Nat.le_trans H3.size (by simp)) (fun k hk => (H2.lt k hk).1)⟩
    intro u hu
    rcases List.mem_append.1 hu with hu | hu
    · exact H1 u hu
    · simp at hu; subst hu; rfl

/-- 'out = append(out, s...)', out the call's own, s a string. -/
theorem wpList_appS {ops : Array Oper} {rest : List Oper} {o : Oper} {a : Act} {Q : Exit → Act → World → Prop} (hgd : o.guard = none) (s x : Operand)
    (ho : o.op = .call { callee := .builtin .append, args := #[s, x], argTypes := #[24, 9] }) (w0 wr : World) (v : Value) (n : Nat) (hs : a.eval s = v) (H : Own w0 wr v n) (str : ByteArray)
    (hx : a.eval x = .string str) (hL : n + str.size < 200000000)
    (h : ∀ v' w', Own w0 w' v' (n + str.size) → wpList Try.prog ops Q rest (a.put o.dst v') w') : wpList Try.prog ops Q (o :: rest) a wr := by
  obtain ⟨i, hi, hz0, hsize, hby⟩ := info_parts infoB
  obtain ⟨xs, H1, H2, H3⟩ := H
  refine Lib.wpList_append_own_string _ hgd s x 24 9 ho w0.heap.size 5 i Try.underlying24 Try.underlying9 hi hz0 hsize hby v n xs hs H2 str hx (by unfold maxLen; omega) (by omega) H3.size ?_
  intro v' w' h1 h2 _
  refine h v' w' ⟨_, ?_, h1, H3.grown h2 H3.size (fun k hk => (H2.lt k hk).1)⟩
  intro u hu
  rcases List.mem_append.1 hu with hu | hu
  · exact H1 u hu
  · simp [Lib.strCells] at hu
    obtain ⟨c, _, rfl⟩ := hu
    rfl

/-- 'out = append(out, x...)', out the call's own, x a slice whose cells can be read. -/
theorem wpList_appSl {ops : Array Oper} {rest : List Oper} {o : Oper} {a : Act} {Q : Exit → Act → World → Prop} (hgd : o.guard = none) (s x : Operand)
    (ho : o.op = .call { callee := .builtin .append, args := #[s, x], argTypes := #[24, 24] }) (w0 wr : World) (v : Value) (n : Nat) (hs : a.eval s = v) (H : Own w0 wr v n) (ad : Addr) (m c : Nat) (news : List Value)
    (hx : a.eval x = .slice (some ad) m c) (hl : news.length = m) (hnews : ∀ j u, news[j]? = some u → wr.cell? (ad.add j) = some u) (h1 : ∀ u ∈ news, u.oneCell' = true) (hL : n + m < 200000000)
    (h : ∀ v' w', Own w0 w' v' (n + m) → wpList Try.prog ops Q rest (a.put o.dst v') w') : wpList Try.prog ops Q (o :: rest) a wr := by
  obtain ⟨i, hi, hz0, hsize, hby⟩ := info_parts infoB
  obtain ⟨xs, H1, H2, H3⟩ := H
  refine wpList_append_own _ hgd s x 24 ho w0.heap.size 5 i (.int .u8 0) 1 1 Try.underlying24 hi hz0 hsize hby rfl (by decide) v n xs hs H2 ad m c news hx (by omega) hnews h1 (by unfold maxLen; omega) (by omega) H3.size ?_
  intro v' w' h2 h3 _
  refine h v' w' ⟨_, ?_, h2, H3.grown h3 H3.size (fun k hk => (H2.lt k hk).1)⟩
  intro u hu
  rcases List.mem_append.1 hu with hu | hu
  · exact H1 u hu
  · exact h1 u hu

def LayPost (w : World) (n : Nat) (e : Ending) (w' : World) : Prop := ∃ a c, e = .returned (.slice a n c) ∧ Below w.heap.size w w'

theorem lay_empty (neg : Bool) (e : Int) (w : World) :
    Calls Try.prog 7 #[.bool neg, .string ByteArray.empty, .int .i64 e] w fun r w' => LayPost w 1 r w' := by
  go_enter Try.func7, Try.ntmps7
  go_wp2
  go_ret
  exact ⟨_, _, rfl, by exact (Below.refl _ _).alloc (Nat.le_refl _) _⟩

end Go.Proofs.Qxb6603238a
