import Derived.Test.Qxb6603220aOpen
import Derived.Test.Qxb6603220aNested
import Derived.Deep.Slices
namespace Go.Proofs.Qxb6603220a
open Go.ChangeShapes Go.WideShapes Go.ChangeAt Go.RowKit

/-- A []int that came in, as the walks want it. -/
theorem open_isInts {H : Type} {enc : TypeId × Value → H} {W : World} {base : Nat} {a : Option Addr} {len cap : Nat} {x : DataW H × List MemPlace} {fuel : Nat}
    (hf : DataW.trod enc Try.prog W base (fun _ => true) true fuel 40 [.slice a len cap] = some x) : ∃ zs : List Int, zs.length = len ∧ IsInts W a zs := by
  rcases open_ints Try.underlying40 Try.underlying3 (by kernel_rfl) hf with ⟨hcs, _⟩ | ⟨ad, l, c, zs, hcs, _, hl, hm, hz, _, hcell, _⟩
  · simp at hcs
    obtain ⟨rfl, rfl, rfl⟩ := hcs
    exact ⟨[], rfl, .inl rfl, fun _ => rfl, by simp⟩
  · simp at hcs
    obtain ⟨rfl, rfl, rfl⟩ := hcs
    simp only [if_true] at hz
    unfold maxLen at hm
    have hlen : (zs.take len).length = len := by rw [List.length_take]; omega
    refine ⟨zs.take len, hlen, ?_, (fun h => by cases h), by omega⟩
    by_cases h0 : len = 0
    · left; rw [h0]; rfl
    · right
      obtain ⟨b, off, spot⟩ := ad
      have hspot : spot = none := by simpa [Addr.add] using World.cell?_spot (hcell 0 (by omega))
      subst hspot
      refine ⟨b, off, rfl, fun i hi => ?_⟩
      rw [hlen] at hi
      have h1 := hcell i (by omega)
      rw [Addr.add_lit] at h1
      rw [h1, List.getElem_take, List.getD_eq_getElem?_getD, List.getElem?_eq_getElem (by omega)]
      rfl

theorem choose_list {α : Type} {p : Nat → α → Prop} : ∀ n, (∀ i, i < n → ∃ r, p i r) → ∃ rows : List α, rows.length = n ∧ ∀ i, (h : i < rows.length) → p i rows[i]
  | 0, _ => ⟨[], rfl, fun i h => absurd h (by simp)⟩
  | n + 1, h => by
    obtain ⟨rows, h1, h2⟩ := choose_list n (fun i hi => h i (by omega))
    obtain ⟨r, hr⟩ := h n (by omega)
    refine ⟨rows ++ [r], by simp [h1], fun i hi => ?_⟩
    by_cases e : i < rows.length
    · rw [List.getElem_append_left e]; exact h2 i e
    · have ei : i = n := by rw [List.length_append] at hi; simp at hi; omega
      subst ei
      rw [List.getElem_append_right (by omega)]
      simpa using hr

/-- A [][]string that came in, as the walks want it. -/
theorem open_isNested {H : Type} {enc : TypeId × Value → H} {W : World} {base : Nat} {a : Option Addr} {len cap : Nat} {x : DataW H × List MemPlace} {fuel : Nat}
    (hf : DataW.trod enc Try.prog W base (fun _ => true) true fuel 39 [.slice a len cap] = some x) : ∃ rows : List NRow, rows.length = len ∧ IsNested W a rows := by
  rcases Go.Deep.open_slice1 Try.underlying39 (by kernel_rfl) hf with ⟨hcs, _⟩ | ⟨ad, l, c, m, n, V, D, Pl, hcs, _, hl, hm, hmm, _, hcell⟩
  · simp at hcs
    obtain ⟨rfl, rfl, rfl⟩ := hcs
    exact ⟨[], rfl, .inl rfl, fun _ => rfl, by simp⟩
  · simp at hcs
    obtain ⟨rfl, rfl, rfl⟩ := hcs
    simp only [if_true] at hmm
    unfold maxLen at hm
    have hrow : ∀ i, i < len → ∃ r : NRow, W.cell? (ad.add i) = some (.slice r.a r.ss.length r.cap) ∧ IsStrs W r.a r.ss := by
      intro i hi
      obtain ⟨h1, h2⟩ := hcell i (by omega)
      have hV : ∃ a' l' c', V i = .slice a' l' c' := by
        rcases open_strings Try.underlying22 Try.underlying9 (by kernel_rfl) h2 with ⟨hcs, _⟩ | ⟨ad2, l2, c2, _, hcs, _⟩
        · simp at hcs; exact ⟨_, _, _, hcs⟩
        · simp at hcs; exact ⟨_, _, _, hcs⟩
      obtain ⟨a', l', c', hV⟩ := hV
      rw [hV] at h1 h2
      obtain ⟨ss, h3, h4⟩ := open_isStrs h2
      subst h3
      exact ⟨⟨a', ss, c'⟩, h1, h4⟩
    obtain ⟨rows, hlen, hrows⟩ := choose_list len hrow
    refine ⟨rows, hlen, ?_, (fun h => by cases h), by omega⟩
    by_cases h0 : len = 0
    · left; exact List.length_eq_zero_iff.1 (by omega)
    · right
      obtain ⟨b, off, spot⟩ := ad
      have hspot : spot = none := by simpa [Addr.add] using World.cell?_spot (hcell 0 (by omega)).1
      subst hspot
      refine ⟨b, off, rfl, fun i hi => ?_⟩
      have h1 := hrows i hi
      rw [Addr.add_lit] at h1
      exact h1

end Go.Proofs.Qxb6603220a
