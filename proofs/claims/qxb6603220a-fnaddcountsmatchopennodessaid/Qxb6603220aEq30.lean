import Derived.Test.Qxb6603220aBuild
import Derived.LaidEqlPtr
namespace Go.Proofs.Qxb6603220a
open Go.RowKit
theorem eq30_nil (w : World) : (Op.equalIn 10000 30 (.agg #[.pointer none]) (.agg #[.pointer none])).run Try.prog w = .ok true w := by kernel_rfl

theorem fields30 : (Try.prog.fieldsOf 30).toList.map (fun f => (f.name == "_", f.type, f.offset)) = [(false, 28, 0)] := by kernel_rfl

theorem part28 (a : Option Addr) (w : World) : (part 28 #[.pointer a] 0).run Try.prog w = .ok (.pointer a) w := by kernel_rfl

theorem eq30_step (a b : Option Addr) (w : World) (c : Bool) (h : ∀ d : Nat, (Op.equalIn (d + 1) 28 (.pointer a) (.pointer b)).run Try.prog w = .ok c w) : (Op.equalIn 10000 30 (.agg #[.pointer a]) (.agg #[.pointer b])).run Try.prog w = .ok c w := by
  rw [run_equalIn_struct w 9999 30 _ _ (by kernel_rfl) (by kernel_rfl)]
  have hf := fields30
  generalize (Try.prog.fieldsOf 30).toList = l at hf
  cases l with
  | nil => simp at hf
  | cons f l =>
    cases l with
    | cons g l => simp at hf
    | nil =>
    simp at hf
    obtain ⟨h1, h2, h3⟩ := hf
    simp only [Op.eqFields, ne_eq, h1, not_false_eq_true, if_true, h2, h3, Sem.run_bind, part28, Result.andThen_ok, h 9998]
    cases c <;> simp

theorem info62 : (Try.prog.info? 62).map (fun i => i.size) = some 3 := by kernel_rfl

theorem eq30_same (a : Addr) (w : World) : (Op.equalIn 10000 30 (.agg #[.pointer (some a)]) (.agg #[.pointer (some a)])).run Try.prog w = .ok true w := by
  obtain ⟨j, hte, hsz⟩ := Option.map_eq_some_iff.1 info62
  refine eq30_step _ _ w _ fun d => ?_
  simp [Op.equalIn, run_underlying Try.underlying28, sizeOf, typeInfo, hte, run_sameAddr_same]

theorem eq30_other {a b : Addr} {ca cb : Array Value} {ta tb : TypeId} (w : World) (hne : a ≠ b) (ha : w.heap[a.block]? = some (.cells ca ta (0, 0))) (hb : w.heap[b.block]? = some (.cells cb tb (0, 0))) :
    (Op.equalIn 10000 30 (.agg #[.pointer (some a)]) (.agg #[.pointer (some b)])).run Try.prog w = .ok false w := by
  obtain ⟨j, hte, hsz⟩ := Option.map_eq_some_iff.1 info62
  refine eq30_step _ _ w _ fun d => ?_
  simp [Op.equalIn, run_underlying Try.underlying28, sizeOf, typeInfo, hte, hsz, run_sameAddr_other w hne ha hb]

theorem eq28_other {a b : Addr} {ca cb : Array Value} {ta tb : TypeId} (w : World) (hne : a ≠ b) (ha : w.heap[a.block]? = some (.cells ca ta (0, 0))) (hb : w.heap[b.block]? = some (.cells cb tb (0, 0))) :
    (Op.equalIn 9999 28 (.pointer (some a)) (.pointer (some b))).run Try.prog w = .ok false w := by
  obtain ⟨j, hte, hsz⟩ := Option.map_eq_some_iff.1 info62
  have h : ∀ d : Nat, (Op.equalIn (d + 1) 28 (.pointer (some a)) (.pointer (some b))).run Try.prog w = .ok false w := fun d => by
    simp [Op.equalIn, run_underlying Try.underlying28, sizeOf, typeInfo, hte, hsz, run_sameAddr_other w hne ha hb]
  exact h 9998

theorem bytes_ne {n m : ByteArray} (h : n ≠ m) : (n.toList == m.toList) = false := by
  apply beq_eq_false_iff_ne.2
  intro e
  apply h
  rw [ByteArray.toList_eq, ByteArray.toList_eq] at e
  obtain ⟨⟨x⟩⟩ := n
  obtain ⟨⟨y⟩⟩ := m
  simp at e
  rw [e]
end Go.Proofs.Qxb6603220a
