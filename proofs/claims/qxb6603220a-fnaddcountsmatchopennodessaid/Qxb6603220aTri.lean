import Derived.Test.Qxb6603220aTree
namespace Go.Proofs.Qxb6603220a
open Go.RowKit
open Go.ChangeMaps (setBlock)
set_option linter.unusedVariables false

def notTree : Obj → Prop
  | .cells _ t _ => t ≠ 56
  | .map _ _ => False
  | _ => True

/-- What add leaves of what was there: below base all; of the rest all but nodes and maps. -/
structure Fr (base : Nat) (w w' : World) : Prop where
  below : Below base w w'
  kept : ∀ (k : Nat) o, w.heap[k]? = some o → notTree o → w'.heap[k]? = some o

theorem Fr.refl (base : Nat) (w : World) : Fr base w w := ⟨Below.refl _ _, fun _ _ h _ => h⟩
theorem Fr.trans {base : Nat} {a b c : World} (h : Fr base a b) (k : Fr base b c) : Fr base a c := ⟨h.below.trans k.below, fun i o hi hn => k.kept i o (h.kept i o hi hn) hn⟩
theorem Fr.of_below {base : Nat} {w w' : World} (h : Below w.heap.size w w') (hb : base ≤ w.heap.size) : Fr base w w' := ⟨h.mono hb, fun k o hk _ => keep h hk⟩

theorem PathR.fr {base : Nat} {w w' : World} (h : Fr base w w') : ∀ {r : List ByteArray} {p : Option Addr}, PathR w p r → PathR w' p r
  | [], _, hp => hp
  | _ :: _, _, ⟨b, hh, e, hc, hr⟩ => ⟨b, hh, e, h.kept _ _ hc (by simp [notTree]), PathR.fr h hr⟩

def upd (cnt : List ByteArray → Int) (r0 : List ByteArray) (x : Int) : List ByteArray → Int := fun q => if q = r0 then x else cnt q

theorem upd_same (cnt : List ByteArray → Int) (r0 : List ByteArray) (x : Int) : upd cnt r0 x r0 = x := if_pos rfl
theorem upd_other {cnt : List ByteArray → Int} {r0 q : List ByteArray} (x : Int) (h : q ≠ r0) : upd cnt r0 x q = cnt q := if_neg h

theorem bump_nil (cnt : List ByteArray → Int) (d : Int) : bump cnt [] d = upd cnt [] (cnt [] + d) := by
  funext q
  unfold bump upd
  by_cases h : q = []
  · subst h; rfl
  · rw [if_neg h, holdsB_gt (by cases q with | nil => exact absurd rfl h | cons a q => simp)]
    simp [sel]

theorem bump_upd (cnt : List ByteArray → Int) (r : List ByteArray) (n : ByteArray) (d : Int) : bump cnt (n :: r) d = upd (bump cnt r d) (n :: r) (bump cnt r d (n :: r) + d) := by
  funext q
  rw [bump_cons]
  unfold upd
  by_cases h : q = n :: r
  · subst h; simp
  · simp [h]

theorem bump_kid (cnt : List ByteArray → Int) (r : List ByteArray) (n : ByteArray) (d : Int) : bump cnt r d (n :: r) = cnt (n :: r) := by
  unfold bump; rw [holdsB_self_not]; simp [sel]

theorem bump_kid2 (cnt : List ByteArray → Int) (r : List ByteArray) (n m : ByteArray) (d : Int) : bump cnt r d (m :: n :: r) = cnt (m :: n :: r) := by
  unfold bump; rw [holdsB_gt (by simp; omega)]; simp [sel]

theorem cons_ne (n : ByteArray) (r : List ByteArray) : n :: r ≠ r := by
  intro h
  have := congrArg List.length h
  simp at this

section
variable {w w' : World} {base : Nat} {D : List ByteArray → Option (Nat × Option Nat)} {cnt : List ByteArray → Int}

theorem Tri.lt (h : Tri w base D cnt) {r : List ByteArray} {b : Nat} {m : Option Nat} (hd : D r = some (b, m)) : b < w.heap.size := lt_of_block (h.node r b m hd).2

theorem Tri.ltM (h : Tri w base D cnt) {r : List ByteArray} {b k : Nat} (hd : D r = some (b, some k)) : k < w.heap.size := by
  obtain ⟨_, es, c, h2, _⟩ := h.inMap r b k hd
  exact lt_of_block h2

/-- A node's block is no map's. -/
theorem Tri.apart (h : Tri w base D cnt) {r r' : List ByteArray} {b b' k : Nat} {m : Option Nat} (hd : D r = some (b, m)) (hd' : D r' = some (b', some k)) : b ≠ k := by
  rintro rfl
  obtain ⟨_, es, c, h2, _⟩ := h.inMap r' b' b hd'
  rw [(h.node r b m hd).2] at h2
  cases h2

/-- A count is stored, and what hangs where does not turn. -/
theorem Tri.store (h : Tri w base D cnt) {r0 : List ByteArray} {b0 : Nat} {m0 : Option Nat} (hd : D r0 = some (b0, m0)) (x : Int) (hx : r0 = [] ∨ (cnt r0 ≠ 0 ∧ x ≠ 0))
    (h0 : w'.heap[b0]? = some (.cells #[.int .i64 x, .map m0] 56 (0, 0))) (hk : ∀ (k : Nat) o, w.heap[k]? = some o → k ≠ b0 → w'.heap[k]? = some o) : Tri w' base D (upd cnt r0 x) := by
  have hz : ∀ n q, (upd cnt r0 x (n :: q) = 0) ↔ (cnt (n :: q) = 0) := by
    intro n q
    by_cases e : n :: q = r0
    · rcases hx with hx | ⟨hx1, hx2⟩
      · rw [hx] at e; cases e
      · rw [e, upd_same]; exact ⟨fun h => absurd h hx2, fun h => absurd h hx1⟩
    · rw [upd_other x e]
  refine ⟨fun r b m hr => ?_, fun r b hr n => (hz n r).2 (h.noMap r b hr n), fun r b k hr => ?_, fun r n hr hc => h.kid r n hr (fun e => hc ((hz n r).2 e)), h.injB, h.injM⟩
  · by_cases e : r = r0
    · subst e
      rw [hd] at hr
      simp at hr
      obtain ⟨rfl, rfl⟩ := hr
      rw [upd_same]
      exact ⟨(h.node r b0 m0 hd).1, h0⟩
    · rw [upd_other x e]
      have hb : b ≠ b0 := fun eb => e (h.injB r r0 b0 m m0 (eb ▸ hr) hd)
      exact ⟨(h.node r b m hr).1, hk _ _ (h.node r b m hr).2 hb⟩
  · obtain ⟨h1, es, c, h2, h3, h4⟩ := h.inMap r b k hr
    refine ⟨h1, es, c, hk _ _ h2 (fun e => h.apart hd hr e.symm), h3, fun n => ?_⟩
    rw [h4 n]
    by_cases e : cnt (n :: r) = 0
    · rw [if_pos e, if_pos ((hz n r).2 e)]
    · rw [if_neg e, if_neg (fun e2 => e ((hz n r).1 e2))]

/-- A child's count comes to 0, and it is dropped from its holder's map. -/
theorem Tri.drop (h : Tri w base D cnt) {r1 : List ByteArray} {n : ByteArray} {bh kh ba : Nat} {ma : Option Nat} (hd1 : D r1 = some (bh, some kh)) (hda : D (n :: r1) = some (ba, ma))
    (h0 : w'.heap[ba]? = some (.cells #[.int .i64 0, .map ma] 56 (0, 0))) {es es' : List MapEntry} {c c' : Nat} (he : w.heap[kh]? = some (.map es.toArray c)) (he' : w'.heap[kh]? = some (.map es'.toArray c')) (hko : KeysOk es')
    (hl : ∀ m, look es' m = if m = n then none else look es m) (hk : ∀ (k : Nat) o, w.heap[k]? = some o → k ≠ ba → k ≠ kh → w'.heap[k]? = some o) : Tri w' base D (upd cnt (n :: r1) 0) := by
  have hz : ∀ m q, m :: q ≠ n :: r1 → upd cnt (n :: r1) 0 (m :: q) = cnt (m :: q) := fun m q e => upd_other 0 e
  refine ⟨fun r b m hr => ?_, fun r b hr m => ?_, fun r b k hr => ?_, fun r m hr hc => ?_, h.injB, h.injM⟩
  · by_cases e : r = n :: r1
    · subst e
      rw [hda] at hr
      simp at hr
      obtain ⟨rfl, rfl⟩ := hr
      rw [upd_same]
      exact ⟨(h.node _ ba ma hda).1, h0⟩
    · rw [upd_other 0 e]
      have hb : b ≠ ba := fun eb => e (h.injB r (n :: r1) ba m ma (eb ▸ hr) hda)
      exact ⟨(h.node r b m hr).1, hk _ _ (h.node r b m hr).2 hb (h.apart hr hd1)⟩
  · by_cases e : m :: r = n :: r1
    · rw [e, upd_same]
    · rw [hz m r e]; exact h.noMap r b hr m
  · obtain ⟨h1, es2, c2, h2, h3, h4⟩ := h.inMap r b k hr
    by_cases e : r = r1
    · subst e
      rw [hd1] at hr
      simp at hr
      obtain ⟨rfl, rfl⟩ := hr
      rw [he] at h2
      simp at h2
      obtain ⟨rfl, rfl⟩ := h2
      refine ⟨h1, es', c', he', hko, fun m => ?_⟩
      rw [hl m]
      by_cases em : m = n
      · subst em
        rw [if_pos rfl, upd_same, if_pos rfl]
      · rw [if_neg em, h4 m, hz m r (by intro e; injection e with e1 _; exact em e1)]
    · have hkk : k ≠ kh := fun ek => e (h.injM r r1 b bh kh (ek ▸ hr) hd1)
      refine ⟨h1, es2, c2, hk _ _ h2 (fun e => h.apart hda hr e.symm) hkk, h3, fun m => ?_⟩
      rw [h4 m, hz m r (by intro e2; injection e2 with _ e3; exact e e3)]
  · by_cases e : m :: r = n :: r1
    · rw [e, upd_same] at hc; exact absurd rfl hc
    · rw [hz m r e] at hc; exact h.kid r m hr hc

def updD (D : List ByteArray → Option (Nat × Option Nat)) (n : ByteArray) (r1 : List ByteArray) (bn bh kh : Nat) : List ByteArray → Option (Nat × Option Nat) :=
  fun q => if q = n :: r1 then some (bn, none) else if q = r1 then some (bh, some kh) else D q

/-- A new child hangs in its holder's map. -/
theorem Tri.hang (h : Tri w base D cnt) {r1 : List ByteArray} {n : ByteArray} {bh bn kh : Nat} {mh : Option Nat} (hd1 : D r1 = some (bh, mh)) (hbase : base ≤ w.heap.size)
    (hc0 : cnt (n :: r1) = 0) (hkids : ∀ m, cnt (m :: n :: r1) = 0) (x : Int) (hx : x ≠ 0)
    (hbn : w.heap.size ≤ bn) (hkh : mh = some kh ∨ (mh = none ∧ w.heap.size ≤ kh))
    (h0 : w'.heap[bn]? = some (.cells #[.int .i64 x, .map none] 56 (0, 0))) (hbh : w'.heap[bh]? = some (.cells #[.int .i64 (cnt r1), .map (some kh)] 56 (0, 0)))
    {es' : List MapEntry} {c' : Nat} (he' : w'.heap[kh]? = some (.map es'.toArray c')) (hko : KeysOk es')
    (hl : ∀ m, look es' m = if m = n then some (.pointer (some ⟨bn, 0, none⟩)) else if cnt (m :: r1) = 0 then none else (D (m :: r1)).map (fun x => Value.pointer (some ⟨x.1, 0, none⟩)))
    (hk : ∀ (k : Nat) o, w.heap[k]? = some o → k ≠ bh → some k ≠ mh → w'.heap[k]? = some o) : Tri w' base (updD D n r1 bn bh kh) (upd cnt (n :: r1) x) := by
  have hne1 : D r1 ≠ none := by rw [hd1]; simp
  have hz : ∀ q, q ≠ n :: r1 → upd cnt (n :: r1) x q = cnt q := fun q e => upd_other x e
  have hD1 : updD D n r1 bn bh kh (n :: r1) = some (bn, none) := if_pos rfl
  have hD2 : updD D n r1 bn bh kh r1 = some (bh, some kh) := by unfold updD; rw [if_neg (fun e => cons_ne n r1 e.symm), if_pos rfl]
  have hD3 : ∀ q, q ≠ n :: r1 → q ≠ r1 → updD D n r1 bn bh kh q = D q := fun q e1 e2 => by unfold updD; rw [if_neg e1, if_neg e2]
  have hfst : ∀ q, q ≠ n :: r1 → (updD D n r1 bn bh kh q).map (fun x => Value.pointer (some ⟨x.1, 0, none⟩)) = (D q).map (fun x => Value.pointer (some ⟨x.1, 0, none⟩)) := by
    intro q e
    by_cases e2 : q = r1
    · subst e2; rw [hD2, hd1]; rfl
    · rw [hD3 q e e2]
  have hkb : base ≤ kh := by
    rcases hkh with rfl | ⟨_, h2⟩
    · exact (h.inMap r1 bh kh hd1).1
    · omega
  -- what D had of any other path stays where it was
  have hoth : ∀ q b m, q ≠ r1 → D q = some (b, m) → b ≠ bh ∧ some b ≠ mh := by
    intro q b m e hq
    refine ⟨fun eb => e (h.injB q r1 bh m mh (eb ▸ hq) hd1), fun eb => ?_⟩
    subst eb
    exact h.apart hq hd1 rfl
  refine ⟨fun r b m hr => ?_, fun r b hr m => ?_, fun r b k hr => ?_, fun r m hr hc => ?_, fun r r' b m m' hr hr' => ?_, fun r r' b b' k hr hr' => ?_⟩
  · by_cases e : r = n :: r1
    · subst e
      rw [hD1] at hr
      simp at hr
      obtain ⟨rfl, rfl⟩ := hr
      rw [upd_same]
      exact ⟨by omega, h0⟩
    · rw [hz r e]
      by_cases e2 : r = r1
      · subst e2
        rw [hD2] at hr
        simp at hr
        obtain ⟨rfl, rfl⟩ := hr
        exact ⟨(h.node r bh mh hd1).1, hbh⟩
      · rw [hD3 r e e2] at hr
        obtain ⟨g1, g2⟩ := hoth r b m e2 hr
        exact ⟨(h.node r b m hr).1, hk _ _ (h.node r b m hr).2 g1 g2⟩
  · by_cases e : r = n :: r1
    · subst e
      rw [hz _ (cons_ne _ _)]
      exact hkids m
    · by_cases e2 : r = r1
      · subst e2; rw [hD2] at hr; simp at hr
      · rw [hD3 r e e2] at hr
        rw [hz _ (by intro e3; injection e3 with _ e4; exact e2 e4)]
        exact h.noMap r b hr m
  · by_cases e : r = n :: r1
    · subst e; rw [hD1] at hr; simp at hr
    · by_cases e2 : r = r1
      · subst e2
        rw [hD2] at hr
        simp at hr
        obtain ⟨rfl, rfl⟩ := hr
        refine ⟨hkb, es', c', he', hko, fun m => ?_⟩
        rw [hl m]
        by_cases em : m = n
        · subst em
          rw [if_pos rfl, upd_same, if_neg hx, hD1]
          rfl
        · have e3 : m :: r ≠ n :: r := by intro e4; injection e4 with e5 _; exact em e5
          rw [if_neg em, hz _ e3, hfst _ e3]
      · rw [hD3 r e e2] at hr
        obtain ⟨h1, es, c, h2, h3, h4⟩ := h.inMap r b k hr
        have g1 : k ≠ bh := fun e => h.apart hd1 hr e.symm
        have g2 : some k ≠ mh := by
          intro ek
          subst ek
          exact e2 (h.injM r r1 b bh k hr hd1)
        refine ⟨h1, es, c, hk _ _ h2 g1 g2, h3, fun m => ?_⟩
        have e3 : m :: r ≠ n :: r1 := by intro e4; injection e4 with _ e5; exact e2 e5
        rw [h4 m, hz _ e3, hfst _ e3]
  · by_cases e : m :: r = n :: r1
    · rw [e, hD1]; simp
    · rw [hz _ e] at hc
      by_cases e2 : m :: r = r1
      · rw [e2, hD2]; simp
      · rw [hD3 _ e e2]
        by_cases e3 : r = n :: r1
        · subst e3; exact absurd (hkids m) hc
        · by_cases e4 : r = r1
          · subst e4; exact h.kid r m hne1 hc
          · rw [hD3 r e3 e4] at hr; exact h.kid r m hr hc
  · have hsz : ∀ q b m, D q = some (b, m) → b ≠ bn := fun q b m hq => by have := h.lt hq; omega
    by_cases e : r = n :: r1
    · by_cases e' : r' = n :: r1
      · rw [e, e']
      · subst e
        rw [hD1] at hr
        simp at hr
        by_cases e2 : r' = r1
        · subst e2
          rw [hD2] at hr'
          simp at hr'
          exact absurd (hr'.1.trans hr.1.symm) (hsz _ _ _ hd1)
        · rw [hD3 r' e' e2] at hr'
          exact absurd hr.1.symm (hsz _ _ _ hr')
    · by_cases e' : r' = n :: r1
      · subst e'
        rw [hD1] at hr'
        simp at hr'
        by_cases e2 : r = r1
        · subst e2
          rw [hD2] at hr
          simp at hr
          exact absurd (hr.1.trans hr'.1.symm) (hsz _ _ _ hd1)
        · rw [hD3 r e e2] at hr
          exact absurd hr'.1.symm (hsz _ _ _ hr)
      · by_cases e2 : r = r1
        · by_cases e2' : r' = r1
          · rw [e2, e2']
          · subst e2
            rw [hD2] at hr
            simp at hr
            rw [hD3 r' e' e2'] at hr'
            exact h.injB r r' b mh m' (hr.1 ▸ hd1) hr'
        · by_cases e2' : r' = r1
          · subst e2'
            rw [hD2] at hr'
            simp at hr'
            rw [hD3 r e e2] at hr
            exact h.injB r r' b m mh hr (hr'.1 ▸ hd1)
          · rw [hD3 r e e2] at hr
            rw [hD3 r' e' e2'] at hr'
            exact h.injB r r' b m m' hr hr'
  · have hkk : ∀ q b k, q ≠ r1 → D q = some (b, some k) → k ≠ kh := by
      intro q b k eq hq ek
      subst ek
      rcases hkh with rfl | ⟨_, h2⟩
      · exact eq (h.injM q r1 b bh k hq hd1)
      · have := h.ltM hq; omega
    by_cases e : r = n :: r1
    · subst e; rw [hD1] at hr; simp at hr
    · by_cases e' : r' = n :: r1
      · subst e'; rw [hD1] at hr'; simp at hr'
      · by_cases e2 : r = r1
        · by_cases e2' : r' = r1
          · rw [e2, e2']
          · subst e2
            rw [hD2] at hr
            simp at hr
            rw [hD3 r' e' e2'] at hr'
            exact absurd hr.2.symm (hkk r' b' k e2' hr')
        · by_cases e2' : r' = r1
          · subst e2'
            rw [hD2] at hr'
            simp at hr'
            rw [hD3 r e e2] at hr
            exact absurd hr'.2.symm (hkk r b k e2 hr)
          · rw [hD3 r e e2] at hr
            rw [hD3 r' e' e2'] at hr'
            exact h.injM r r' b b' k hr hr'

end
end Go.Proofs.Qxb6603220a
