import Derived.Test.Qxb6603220aScript
import Derived.MapKept
import Derived.ChangeMaps
namespace Go.Proofs.Qxb6603220a
open Go.ChangeMaps (setBlock)
set_option linter.unusedVariables false

/-! ### A map keyed by strings, its entries as a list -/
def look : List MapEntry → ByteArray → Option Value
  | [], _ => none
  | e :: es, n => match e.key with
    | .string s => if s = n then some e.val else look es n
    | _ => look es n

def KeysOk (es : List MapEntry) : Prop := ∃ ks : List ByteArray, es.map (·.key) = ks.map Value.string ∧ ks.Nodup

theorem KeysOk.nil : KeysOk [] := ⟨[], rfl, List.nodup_nil⟩

theorem KeysOk.cons {e : MapEntry} {es : List MapEntry} (h : KeysOk (e :: es)) : ∃ s, e.key = .string s ∧ KeysOk es ∧ look es s = none := by
  obtain ⟨ks, h1, h2⟩ := h
  cases ks with
  | nil => simp at h1
  | cons s ks =>
    simp only [List.map_cons, List.cons.injEq] at h1
    obtain ⟨h3, h4⟩ := h1
    rw [List.nodup_cons] at h2
    refine ⟨s, h3, ⟨ks, h4, h2.2⟩, ?_⟩
    have : ∀ (es : List MapEntry) (ks : List ByteArray), es.map (·.key) = ks.map Value.string → s ∉ ks → look es s = none := by
      intro es
      induction es with
      | nil => intro _ _ _; rfl
      | cons e es ih =>
        intro ks h5 h6
        cases ks with
        | nil => simp at h5
        | cons t ks =>
          simp only [List.map_cons, List.cons.injEq] at h5
          simp only [List.mem_cons, not_or] at h6
          simp only [look, h5.1]
          rw [if_neg (fun e => h6.1 e.symm)]
          exact ih ks h5.2 h6.2
    exact this es ks h4 h2.1

theorem bytes_beq (a b : ByteArray) : (a == b) = decide (a = b) := by
  rw [beq_toListBytes]
  by_cases h : a = b
  · subst h; simp
  · rw [bytes_ne h, decide_eq_false h]

theorem find_none {es : List MapEntry} (hk : KeysOk es) {n : ByteArray} (h : look es n = none) : ∀ i, Instr.findNow .string (.string n) es i = some none := by
  induction es with
  | nil => intro i; rfl
  | cons e es ih =>
    intro i
    obtain ⟨s, hs, hk2, _⟩ := hk.cons
    simp only [look, hs] at h
    split at h
    · cases h
    · rename_i hne
      simp only [Instr.findNow, hs, Instr.sameNow, bytes_beq]
      rw [decide_eq_false (fun e => hne e.symm)]
      exact ih hk2 h (i + 1)

theorem find_some {es : List MapEntry} (hk : KeysOk es) {n : ByteArray} {v : Value} (h : look es n = some v) : ∃ A e B, es = A ++ e :: B ∧ e.key = .string n ∧ e.val = v ∧ ∀ i, Instr.findNow .string (.string n) es i = some (some (i + A.length, v)) := by
  induction es with
  | nil => cases h
  | cons e es ih =>
    obtain ⟨s, hs, hk2, _⟩ := hk.cons
    simp only [look, hs] at h
    split at h
    · rename_i he
      subst he
      have hv : e.val = v := by simpa using h
      refine ⟨[], e, es, rfl, hs, hv, fun i => ?_⟩
      simp only [Instr.findNow, hs, Instr.sameNow, bytes_beq, decide_true, hv, List.length_nil, Nat.add_zero]
    · rename_i hne
      obtain ⟨A, e2, B, rfl, h1, h2, h3⟩ := ih hk2 h
      refine ⟨e :: A, e2, B, rfl, h1, h2, fun i => ?_⟩
      simp only [Instr.findNow, hs, Instr.sameNow, bytes_beq]
      rw [decide_eq_false (fun e => hne e.symm)]
      simp only
      rw [h3 (i + 1), List.length_cons]
      congr 3
      omega

theorem look_push (es : List MapEntry) (n : ByteArray) (v : Value) (c : Nat) (hk : KeysOk es) (h : look es n = none) (m : ByteArray) : look (es ++ [{ key := .string n, val := v, born := c }]) m = if m = n then some v else look es m := by
  induction es with
  | nil =>
    show (if n = m then some v else none) = if m = n then some v else none
    by_cases e : n = m
    · subst e; simp
    · rw [if_neg e, if_neg (fun h => e h.symm)]
  | cons e es ih =>
    obtain ⟨s, hs, hk2, _⟩ := hk.cons
    simp only [look, hs] at h
    split at h
    · cases h
    · rename_i hne
      have ih2 := ih hk2 h
      simp only [List.cons_append, look, hs]
      by_cases e1 : s = m
      · subst e1
        rw [if_pos rfl, if_neg hne, if_pos rfl]
      · rw [if_neg e1, ih2, if_neg e1]

theorem KeysOk.push {es : List MapEntry} (hk : KeysOk es) (n : ByteArray) (v : Value) (c : Nat) (h : look es n = none) : KeysOk (es ++ [{ key := .string n, val := v, born := c }]) := by
  obtain ⟨ks, h1, h2⟩ := hk
  refine ⟨ks ++ [n], by simp [h1], ?_⟩
  have hn : n ∉ ks := by
    intro hm
    have : ∀ (es : List MapEntry) (ks : List ByteArray), es.map (·.key) = ks.map Value.string → n ∈ ks → look es n ≠ none := by
      intro es
      induction es with
      | nil =>
        intro ks h3 h4
        cases ks with
        | nil => cases h4
        | cons t ks => simp at h3
      | cons e es ih =>
        intro ks h3 h4
        cases ks with
        | nil => cases h4
        | cons t ks =>
          simp only [List.map_cons, List.cons.injEq] at h3
          simp only [look, h3.1]
          by_cases e1 : t = n
          · rw [if_pos e1]; simp
          · rw [if_neg e1]
            exact ih ks h3.2 ((List.mem_cons.1 h4).resolve_left (fun h => e1 h.symm))
    exact this es ks h1 hm h
  rw [List.nodup_append]
  refine ⟨h2, by simp, ?_⟩
  intro a ha b hb
  simp at hb
  subst hb
  rintro rfl
  exact hn ha

theorem KeysOk.erase {A B : List MapEntry} {e : MapEntry} (hk : KeysOk (A ++ e :: B)) : KeysOk (A ++ B) := by
  obtain ⟨ks, h1, h2⟩ := hk
  rw [List.map_append, List.map_cons] at h1
  have hA : ∃ K1 K2, ks = K1 ++ K2 ∧ A.map (·.key) = K1.map Value.string ∧ e.key :: B.map (·.key) = K2.map Value.string := by
    refine ⟨ks.take A.length, ks.drop A.length, (List.take_append_drop _ _).symm, ?_, ?_⟩
    · rw [List.map_take, ← h1, List.take_left' (by simp)]
    · rw [List.map_drop, ← h1, List.drop_left' (by simp)]
  obtain ⟨K1, K2, rfl, h3, h4⟩ := hA
  cases K2 with
  | nil => simp at h4
  | cons k K2 =>
    simp only [List.map_cons, List.cons.injEq] at h4
    refine ⟨K1 ++ K2, by rw [List.map_append, List.map_append, h3, h4.2], ?_⟩
    exact h2.sublist (List.Sublist.append_left (List.sublist_cons_self _ _) _)

theorem look_erase {A B : List MapEntry} {e : MapEntry} {n : ByteArray} (hk : KeysOk (A ++ e :: B)) (he : e.key = .string n) (m : ByteArray) : look (A ++ B) m = if m = n then none else look (A ++ e :: B) m := by
  induction A with
  | nil =>
    obtain ⟨s, hs, hk2, hl⟩ := KeysOk.cons hk
    rw [he] at hs
    obtain rfl : n = s := by simpa using hs
    simp only [List.nil_append, look, he]
    by_cases e1 : m = n
    · subst e1; rw [if_pos rfl]; exact hl
    · rw [if_neg e1, if_neg (fun h => e1 h.symm)]
  | cons a A ih =>
    obtain ⟨s, hs, hk2, hl⟩ := KeysOk.cons hk
    have ih2 := ih hk2
    simp only [List.cons_append, look, hs]
    by_cases e1 : s = m
    · subst e1
      rw [if_pos rfl]
      have hne : s ≠ n := by
        rintro rfl
        have : look (A ++ e :: B) s ≠ none := by
          clear ih ih2 hl hk
          induction A with
          | nil => simp [look, he]
          | cons a A ih =>
            obtain ⟨t, ht, hk3, _⟩ := KeysOk.cons hk2
            simp only [List.cons_append, look, ht]
            split
            · simp
            · exact ih hk3
        exact this hl
      rw [if_neg hne, if_pos rfl]
    · rw [if_neg e1, if_neg e1]
      exact ih2

/-! ### What the map's operations do -/
theorem run_check (em : Bool) (n : ByteArray) (w : World) : (Instr.checkKey em 10000 9 (.string n)).run Try.prog w = .ok () w := by
  have h : ∀ d : Nat, (Instr.checkKey em (d + 1) 9 (.string n)).run Try.prog w = .ok () w := fun d => by
    simp [Instr.checkKey, run_underlying Try.underlying9]
  exact h 9999

theorem run_find {es : List MapEntry} {n : ByteArray} {r : Option (Nat × Value)} (h : Instr.findNow .string (.string n) es 0 = some r) (w : World) : (Instr.findKey 9 (.string n) es).run Try.prog w = .ok r w := by
  simp [Instr.findKey, run_underlying Try.underlying9, h]

theorem run_look_nil (n : ByteArray) (w : World) : (Instr.lookup 54 (.map none) (.string n) false).run Try.prog w = .ok (.pointer none) w := by
  have h1 := run_find (es := []) (n := n) (r := none) rfl w
  simp [Instr.lookup, run_underlying Try.underlying54, run_check, h1]

theorem run_look_map {w : World} {k : Nat} {es : List MapEntry} {c : Nat} (hb : w.heap[k]? = some (.map es.toArray c)) (hk : KeysOk es) (n : ByteArray) :
    (Instr.lookup 54 (.map (some k)) (.string n) false).run Try.prog w = .ok ((look es n).getD (.pointer none)) w := by
  cases hl : look es n with
  | none =>
    have h1 := run_find (find_none hk hl 0) w
    simp [Instr.lookup, run_underlying Try.underlying54, MapKept.run_getObj_map hb, run_check, h1]
  | some v =>
    obtain ⟨A, e, B, _, _, _, h2⟩ := find_some hk hl
    have h1 := run_find (h2 0) w
    simp [Instr.lookup, run_underlying Try.underlying54, MapKept.run_getObj_map hb, run_check, h1]

theorem run_update_new {w : World} {k : Nat} {es : List MapEntry} {c : Nat} (hb : w.heap[k]? = some (.map es.toArray c)) (hk : KeysOk es) (n : ByteArray) (hl : look es n = none) (v : Value) :
    (Instr.mapUpdate 54 (.map (some k)) (.string n) v).run Try.prog w = .ok () (setBlock w k (.map (es ++ [({ key := .string n, val := v, born := c } : MapEntry)]).toArray (c + 1))) := by
  have h1 := run_find (find_none hk hl 0) w
  simp [Instr.mapUpdate, run_underlying Try.underlying54, MapKept.run_getObj_map hb, run_check, h1, MapKept.run_setObj_map _ hb, Result.andThen, setBlock]

theorem run_delete {w : World} {k : Nat} {A B : List MapEntry} {e : MapEntry} {c : Nat} {n : ByteArray} (hb : w.heap[k]? = some (.map (A ++ e :: B).toArray c)) (v : Value) (h2 : Instr.findNow .string (.string n) (A ++ e :: B) 0 = some (some (A.length, v))) (ty : TypeId) :
    (Builtin.delete_ #[54, 9] ty #[.map (some k), .string n]).run Try.prog w = .ok (.tuple #[]) (setBlock w k (.map (A ++ B).toArray c)) := by
  have h1 := run_find h2 w
  have h3 : (A ++ e :: B).toArray.eraseIdxIfInBounds A.length = (A ++ B).toArray := by
    apply Array.ext'
    simp [Array.eraseIdxIfInBounds]
    rw [List.eraseIdx_append_of_length_le (Nat.le_refl _)]
    simp
  have hb' : w.heap[k]? = some (.map (A ++ e :: B).toArray c) := hb
  simp only [Builtin.delete_, List.getElem?_toArray, List.getElem?_cons_zero, List.getElem?_cons_succ, Sem.run_bind, run_underlying Try.underlying54, Result.andThen_ok, MapKept.run_getObj_map hb', run_check, h1, MapKept.run_setObj_map _ hb', h3]
  simp [setBlock]

end Go.Proofs.Qxb6603220a
