import Derived.Test.Qxb6603220aMap
import Derived.Deep.DeepCutAuto
namespace Go.Proofs.Qxb6603220a
open Go.RowKit
open Go.ChangeMaps (setBlock)
set_option linter.unusedVariables false

/-- The counters in memory. 'D r = some (b, m)': the node of the path r (its names, the last first) lies in block b, its map is m; 'cnt r': its count. A child hangs in its holder's map just where its count is not 0. -/
structure Tri (w : World) (base : Nat) (D : List ByteArray → Option (Nat × Option Nat)) (cnt : List ByteArray → Int) : Prop where
  node : ∀ r b m, D r = some (b, m) → base ≤ b ∧ w.heap[b]? = some (.cells #[.int .i64 (cnt r), .map m] 56 (0, 0))
  noMap : ∀ r b, D r = some (b, none) → ∀ n, cnt (n :: r) = 0
  inMap : ∀ r b k, D r = some (b, some k) → base ≤ k ∧ ∃ es c, w.heap[k]? = some (.map es.toArray c) ∧ KeysOk es ∧ ∀ n, look es n = if cnt (n :: r) = 0 then none else (D (n :: r)).map (fun x => Value.pointer (some ⟨x.1, 0, none⟩))
  kid : ∀ r n, D r ≠ none → cnt (n :: r) ≠ 0 → D (n :: r) ≠ none
  injB : ∀ r r' b m m', D r = some (b, m) → D r' = some (b, m') → r = r'
  injM : ∀ r r' b b' k, D r = some (b, some k) → D r' = some (b', some k) → r = r'

def Mono (cnt : List ByteArray → Int) : Prop := ∀ q m, cnt q = 0 → cnt (m :: q) = 0

theorem Tri.kept {w w' : World} {base : Nat} {D : List ByteArray → Option (Nat × Option Nat)} {cnt : List ByteArray → Int} (h : Tri w base D cnt) (hb : ∀ (k : Nat) o, w.heap[k]? = some o → w'.heap[k]? = some o) : Tri w' base D cnt :=
  ⟨fun r b m hd => ⟨(h.node r b m hd).1, hb _ _ (h.node r b m hd).2⟩, h.noMap, fun r b k hd => by
    obtain ⟨h1, es, c, h2, h3⟩ := h.inMap r b k hd
    exact ⟨h1, es, c, hb _ _ h2, h3⟩, h.kid, h.injB, h.injM⟩

theorem Tri.below {w w' : World} {base : Nat} {D : List ByteArray → Option (Nat × Option Nat)} {cnt : List ByteArray → Int} (h : Tri w base D cnt) (hb : Below w.heap.size w w') : Tri w' base D cnt :=
  h.kept (fun k o hk => keep hb hk)

theorem Tri.has {w : World} {base : Nat} {D : List ByteArray → Option (Nat × Option Nat)} {cnt : List ByteArray → Int} (h : Tri w base D cnt) (hm : Mono cnt) (h0 : D [] ≠ none) : ∀ r, cnt r ≠ 0 → D r ≠ none
  | [], _ => h0
  | n :: r, hc => h.kid r n (h.has hm h0 r (fun e => hc (hm r n e))) hc

/-- Where 'at' finds the count of the path r. -/
def nodeOf (D : List ByteArray → Option (Nat × Option Nat)) (cnt : List ByteArray → Int) (r : List ByteArray) : Option Addr :=
  if r = [] ∨ cnt r ≠ 0 then (D r).map (fun x => ⟨x.1, 0, none⟩) else none

theorem Tri.lookup {w : World} {base : Nat} {D : List ByteArray → Option (Nat × Option Nat)} {cnt : List ByteArray → Int} (h : Tri w base D cnt) {r : List ByteArray} {b : Nat} {m : Option Nat} (hd : D r = some (b, m)) (n : ByteArray) :
    (Instr.lookup 54 (.map m) (.string n) false).run Try.prog w = .ok (.pointer (nodeOf D cnt (n :: r))) w := by
  have hne : D r ≠ none := by rw [hd]; simp
  cases m with
  | none =>
    have h0 := h.noMap r b hd n
    rw [run_look_nil]
    simp [nodeOf, h0]
  | some k =>
    obtain ⟨_, es, c, h2, h3, h4⟩ := h.inMap r b k hd
    rw [run_look_map h2 h3, h4 n]
    by_cases h0 : cnt (n :: r) = 0
    · simp [nodeOf, h0]
    · have hk := h.kid r n hne h0
      cases hD : D (n :: r) with
      | none => exact absurd hD hk
      | some x => simp [nodeOf, h0, hD]

theorem nodeOf_cases {w : World} {base : Nat} {D : List ByteArray → Option (Nat × Option Nat)} {cnt : List ByteArray → Int} (h : Tri w base D cnt) (hm : Mono cnt) (h0 : D [] ≠ none) (r : List ByteArray) :
    (nodeOf D cnt r = none ∧ r ≠ [] ∧ cnt r = 0) ∨ ∃ b m, D r = some (b, m) ∧ nodeOf D cnt r = some ⟨b, 0, none⟩ ∧ (r = [] ∨ cnt r ≠ 0) := by
  by_cases hr : r = [] ∨ cnt r ≠ 0
  · right
    have hne : D r ≠ none := by
      rcases hr with rfl | hr
      · exact h0
      · exact h.has hm h0 r hr
    cases hD : D r with
    | none => exact absurd hD hne
    | some x => exact ⟨x.1, x.2, rfl, by simp [nodeOf, hr, hD], hr⟩
  · left
    have hr1 : r ≠ [] := fun e => hr (.inl e)
    have hr2 : cnt r = 0 := by
      by_cases e : cnt r = 0
      · exact e
      · exact absurd (.inr e) hr
    exact ⟨if_neg hr, hr1, hr2⟩

set_option maxHeartbeats 1000000 in
theorem at_any {base : Nat} {D : List ByteArray → Option (Nat × Option Nat)} {cnt : List ByteArray → Int} {c : Nat} {mc : Option Nat} (h0 : D [] = some (c, mc)) (hm : Mono cnt) :
    ∀ (r : List ByteArray) (p : Option Addr) (w : World), PathR w p r → Tri w base D cnt →
      Calls Try.prog 39 #[.pointer (some ⟨c, 0, none⟩), .agg #[.pointer p]] w fun e w' => e = .returned (.pointer (nodeOf D cnt r)) ∧ Below w.heap.size w w' := by
  have hne : D [] ≠ none := by rw [h0]; simp
  intro r
  induction r with
  | nil =>
    intro p w hp ht
    obtain rfl : p = none := hp
    have hn : nodeOf D cnt [] = some ⟨c, 0, none⟩ := by simp [nodeOf, h0]
    rw [hn]
    clear hn h0 hne ht
    go_enter Try.func39, Try.ntmps39
    go_wp2_with fail
    refine (isRoot_any none _).mono ?_
    rintro e w1 ⟨rfl, hb1⟩
    have B1 : Below w.heap.size w w1 := ((Below.refl _ _).alloc (Nat.le_refl _) _).trans (hb1.mono (by simp))
    clear hb1
    go_wp2_with fail
    go_ret
    exact ⟨rfl, B1⟩
  | cons n r1 ih =>
    intro p w hp ht
    obtain ⟨x, hh, rfl, hx, hr1⟩ := hp
    have IH : Hid (∀ (p : Option Addr) (w : World), PathR w p r1 → Tri w base D cnt →
      Calls Try.prog 39 #[.pointer (some ⟨c, 0, none⟩), .agg #[.pointer p]] w fun e w' => e = .returned (.pointer (nodeOf D cnt r1)) ∧ Below w.heap.size w w') := ih
    clear ih
    have HT : Hid (Tri w base D cnt) := ht
    have HM : Hid (Mono cnt) := hm
    have H0 : Hid (D [] = some (c, mc)) := h0
    clear ht hm h0
    go_enter Try.func39, Try.ntmps39
    go_wp2_with fail
    refine (isRoot_any _ _).mono ?_
    rintro e w1 ⟨rfl, hb1⟩
    have K0 := keep hb1 (heap_alloc_new w (.cells #[.pointer (some ⟨x, 0, none⟩)] 30))
    have B1 : Below w.heap.size w w1 := ((Below.refl _ _).alloc (Nat.le_refl _) _).trans (hb1.mono (by simp))
    have x1 := keep B1 hx
    have hr2 := hr1.below B1
    have c0 := cell_of_one K0
    have x10 := cell_block x1 0
    simp at x10
    clear hb1 hx hr1
    go_wp2_with fail
    refine (IH.out hh _ hr2 (HT.out.below B1)).mono ?_
    rintro e w2 ⟨rfl, B2⟩
    have K2 := keep B2 K0
    have x2 := keep B2 x1
    have B12 := B1.trans (B2.mono B1.size)
    clear c0 x10 x1 K0 hr2 IH B1 B2
    rcases nodeOf_cases HT.out HM.out hne r1 with ⟨h1, h2, h3⟩ | ⟨b1, m1, h1, h2, h3⟩
    · have hres : nodeOf D cnt (n :: r1) = none := by
        have h4 := HM.out r1 n h3
        simp [nodeOf, h4]
      rw [h1]
      have HR : Hid (nodeOf D cnt (n :: r1) = none) := hres
      clear hres h1 h2 h3
      go_wp2_with fail
      go_ret
      exact ⟨by rw [HR.out]; rfl, B12⟩
    · rw [h2]
      have T2 := HT.out.below B12
      have hn1 := (T2.node r1 b1 m1 h1).2
      have hlk : ∀ nq : Nat, (Instr.lookup 54 (.map m1) (.string n) false).run Try.prog (w2.drewN nq) = .ok (.pointer (nodeOf D cnt (n :: r1))) (w2.drewN nq) := fun nq => (T2.kept (w' := w2.drewN nq) (fun k o hk => hk)).lookup h1 n
      have cK := cell_of_one K2
      have x21 := cell_block x2 1
      have nb1 := cell_block hn1 1
      simp at x21 nb1
      clear T2 h1 h2 h3 hn1 HT HM H0 hne
      obtain ⟨res, hres⟩ : ∃ res, res = nodeOf D cnt (n :: r1) := ⟨_, rfl⟩
      have HR : Hid (res = nodeOf D cnt (n :: r1)) := hres
      rw [← hres] at hlk
      clear hres
      go_wp2_with fail
      go_quiet (fail)
      go_wp2_with fail
      go_ret
      exact ⟨by rw [← HR.out]; rfl, below_drewN B12 _⟩

end Go.Proofs.Qxb6603220a
