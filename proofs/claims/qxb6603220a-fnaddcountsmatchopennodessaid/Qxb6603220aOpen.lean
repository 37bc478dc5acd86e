import Derived.Test.Qxb6603220aLawA
import Derived.ProofKit
import Derived.OpenShut
import Derived.ShutString
import Derived.ChangeOld
namespace Go.Proofs.Qxb6603220a
open Go.ChangeShapes Go.WideShapes Go.ChangeAt Go.RowKit

theorem own : ownKnob Try.prog.godebug = none := by kernel_rfl
theorem laidOut : laidOutB Try.prog = true := by kernel_rfl

/-- A []string that came in, as the walks want it. -/
theorem open_isStrs {H : Type} {enc : TypeId × Value → H} {W : World} {base : Nat} {a : Option Addr} {len cap : Nat} {x : DataW H × List MemPlace} {fuel : Nat}
    (hf : DataW.trod enc Try.prog W base (fun _ => true) true fuel 22 [.slice a len cap] = some x) : ∃ ss : List ByteArray, ss.length = len ∧ IsStrs W a ss := by
  rcases open_strings Try.underlying22 Try.underlying9 (by kernel_rfl) hf with ⟨hcs, _⟩ | ⟨ad, l, c, ss, hcs, _, hl, hm, hz, _, hcell, _⟩
  · simp at hcs
    obtain ⟨rfl, rfl, rfl⟩ := hcs
    exact ⟨[], rfl, .inl rfl, fun _ => rfl, by simp⟩
  · simp at hcs
    obtain ⟨rfl, rfl, rfl⟩ := hcs
    simp only [if_true] at hz
    unfold maxLen at hm
    have hlen : (ss.take len).length = len := by rw [List.length_take]; omega
    refine ⟨ss.take len, hlen, ?_, (fun h => by cases h), by omega⟩
    by_cases h0 : len = 0
    · left; rw [h0]; rfl
    · right
      obtain ⟨b, off, spot⟩ := ad
      have hspot : spot = none := by simpa [Addr.add] using World.cell?_spot (hcell 0 (by omega))
      subst hspot
      refine ⟨b, off, rfl, fun i hi => ?_⟩
      rw [hlen] at hi
      have h1 := hcell i (by omega)
      rw [Addr.add_lit] at h1
      rw [h1, List.getElem_take, List.getD_eq_getElem?_getD, List.getElem?_eq_getElem (by omega)]
      rfl

end Go.Proofs.Qxb6603220a
