import Derived.Test.Qxb6603220aOpen
import Derived.Test.Qxb6603220aLawD
namespace Go.Proofs.Qxb6603220a
open Go.ChangeShapes Go.WideShapes Go.ChangeAt Go.RowKit

/-- A []byte that came in, as the walks want it. -/
theorem open_isBytes {H : Type} {enc : TypeId × Value → H} {W : World} {base : Nat} {a : Option Addr} {len cap : Nat} {x : DataW H × List MemPlace} {fuel : Nat}
    (hf : DataW.trod enc Try.prog W base (fun _ => true) true fuel 23 [.slice a len cap] = some x) : ∃ ss : List UInt8, ss.length = len ∧ IsBytes W a ss := by
  rcases open_ints Try.underlying23 Try.underlying5 (by kernel_rfl) hf with ⟨hcs, _⟩ | ⟨ad, l, c, zs, hcs, _, hl, hm, hz, _, hcell, hwz⟩
  · simp at hcs
    obtain ⟨rfl, rfl, rfl⟩ := hcs
    exact ⟨[], rfl, .inl rfl, fun _ => rfl, by simp⟩
  · simp at hcs
    obtain ⟨rfl, rfl, rfl⟩ := hcs
    simp only [if_true] at hz
    unfold maxLen at hm
    have hlen : ((zs.take len).map fun z => UInt8.ofNat z.toNat).length = len := by rw [List.length_map, List.length_take]; omega
    refine ⟨(zs.take len).map fun z => UInt8.ofNat z.toNat, hlen, ?_, (fun h => by cases h), by omega⟩
    by_cases h0 : len = 0
    · left; rw [h0]; rfl
    · right
      obtain ⟨b, off, spot⟩ := ad
      have hspot : spot = none := by simpa [Addr.add] using World.cell?_spot (hcell 0 (by omega))
      subst hspot
      refine ⟨b, off, rfl, fun i hi => ?_⟩
      rw [hlen] at hi
      have h1 := hcell i (by omega)
      rw [Addr.add_lit] at h1
      have hiz : i < zs.length := by omega
      rw [List.getD_eq_getElem?_getD, List.getElem?_eq_getElem hiz, Option.getD_some] at h1
      rw [h1, List.getElem_map, List.getElem_take]
      have hw := bounds_u8 (hwz zs[i] (List.getElem_mem hiz))
      have e : ((UInt8.ofNat zs[i].toNat).toNat : Int) = zs[i] := by
        rw [UInt8.toNat_ofNat']
        omega
      rw [e]

end Go.Proofs.Qxb6603220a
