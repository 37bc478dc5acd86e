import Derived.Test.Qxb6603220aTri
import Derived.Test.Qxb6603220aZeros
namespace Go.Proofs.Qxb6603220a
open Go.RowKit
open Go.ChangeMaps (setBlock)
set_option linter.unusedVariables false

def AddPost (base : Nat) (cnt : List ByteArray → Int) (c : Nat) (r : List ByteArray) (d : Int) (w : World) (e : Ending) (w' : World) : Prop :=
  ∃ b m mc' D', e = .returned (.pointer (some ⟨b, 0, none⟩)) ∧ D' r = some (b, m) ∧ D' [] = some (c, mc') ∧ Tri w' base D' (bump cnt r d) ∧ Fr base w w'

theorem two_set {w : World} {b : Nat} {u v x : Value} {t : TypeId} (h : w.heap[b]? = some (.cells #[u, v] t (0, 0))) : (w.setCell ⟨b, 0, none⟩ x).heap[b]? = some (.cells #[x, v] t (0, 0)) := by
  have := set_block (l := [u, v]) h 0 x
  simpa using this

theorem two_set1 {w : World} {b : Nat} {u v x : Value} {t : TypeId} (h : w.heap[b]? = some (.cells #[u, v] t (0, 0))) : (w.setCell ⟨b, 1, none⟩ x).heap[b]? = some (.cells #[u, x] t (0, 0)) := by
  have := set_block (l := [u, v]) h 1 x
  simpa using this

theorem set_kept {w : World} {b i : Nat} {x : Value} : ∀ (k : Nat) o, w.heap[k]? = some o → k ≠ b → (w.setCell ⟨b, i, none⟩ x).heap[k]? = some o :=
  fun k o hk hne => (Below.heap_setCell w ⟨b, i, none⟩ x k hne).trans hk

theorem fr_set {base : Nat} {w : World} {b i : Nat} {x : Value} {c : Array Value} (hb : base ≤ b) (h : w.heap[b]? = some (.cells c 56 (0, 0))) : Fr base w (w.setCell ⟨b, i, none⟩ x) :=
  ⟨(Below.refl _ _).setCell hb _, fun k o hk hn => set_kept k o hk (by
    rintro rfl
    rw [h] at hk
    cases hk
    exact hn rfl)⟩

theorem fr_setBlock {base : Nat} {w : World} {k : Nat} {es : Array MapEntry} {c : Nat} (hb : base ≤ k) (h : w.heap[k]? = some (.map es c)) (o : Obj) : Fr base w (setBlock w k o) := by
  have hoth := fun {i : Nat} (hi : i ≠ k) => Go.ChangeMaps.heap_setBlock_other h o hi
  refine ⟨⟨rfl, rfl, rfl, by simp [setBlock], fun i hi => hoth (by omega)⟩, fun i o' hi hn => ?_⟩
  rw [hoth ?_]
  · exact hi
  · rintro rfl
    rw [h] at hi
    cases hi
    exact hn

set_option maxHeartbeats 2000000 in
theorem add_root {base : Nat} {D : List ByteArray → Option (Nat × Option Nat)} {cnt : List ByteArray → Int} {c : Nat} {mc : Option Nat} (h0 : D [] = some (c, mc)) (d : Int) (hd : d = 1 ∨ d = -1) (hbd : ∀ q, -1000 ≤ cnt q ∧ cnt q ≤ 1000)
    (w : World) (ht : Tri w base D cnt) (hbase : base ≤ w.heap.size) :
    Calls Try.prog 38 #[.pointer (some ⟨c, 0, none⟩), .agg #[.pointer none], .int .i64 d] w fun e w' => AddPost base cnt c [] d w e w' := by
  obtain ⟨x, hx⟩ : ∃ x, x = cnt [] := ⟨_, rfl⟩
  have hxb := hbd []
  rw [← hx] at hxb
  have hdb : -1 ≤ d ∧ d ≤ 1 := by omega
  obtain ⟨hxb1, hxb2⟩ := hxb
  obtain ⟨hdb1, hdb2⟩ := hdb
  have HT : Hid (Tri w base D cnt) := ht
  have H0 : Hid (D [] = some (c, mc)) := h0
  have HX : Hid (x = cnt []) := hx
  clear ht h0 hd hbd hx
  go_enter Try.func38, Try.ntmps38
  go_wp2_with fail
  refine (isRoot_any none _).mono ?_
  rintro e w1 ⟨rfl, hb1⟩
  have B1 : Below w.heap.size w w1 := ((Below.refl _ _).alloc (Nat.le_refl _) _).trans (hb1.mono (by simp))
  have T1 := HT.out.below B1
  obtain ⟨hcb, hn⟩ := T1.node [] c mc H0.out
  rw [← HX.out] at hn
  have HT1 : Hid (Tri w1 base D cnt) := T1
  have n0 := cell_block hn 0
  simp at n0
  have f0 := free_at hn 0
  clear T1 hb1 HT
  go_wp2_with fail
  go_ret
  refine ⟨c, mc, mc, D, rfl, H0.out, H0.out, ?_, (Fr.of_below B1 hbase).trans (fr_set hcb hn)⟩
  rw [bump_nil, ← HX.out]
  exact HT1.out.store H0.out (x + d) (.inl rfl) (two_set hn) set_kept

theorem nodeOf_cons0 {D : List ByteArray → Option (Nat × Option Nat)} {cnt : List ByteArray → Int} {n : ByteArray} {r : List ByteArray} (h : cnt (n :: r) = 0) : nodeOf D cnt (n :: r) = none := by
  simp [nodeOf, h]

theorem nodeOf_cons1 {D : List ByteArray → Option (Nat × Option Nat)} {cnt : List ByteArray → Int} {n : ByteArray} {r : List ByteArray} {b : Nat} {m : Option Nat} (h : cnt (n :: r) ≠ 0) (hd : D (n :: r) = some (b, m)) : nodeOf D cnt (n :: r) = some ⟨b, 0, none⟩ := by
  simp [nodeOf, h, hd]

/-- What the walk of add knows behind its call of itself. -/
structure Behind (base : Nat) (cnt : List ByteArray → Int) (c : Nat) (r1 : List ByteArray) (d : Int) (w w2 : World) (bh : Nat) (mh mc : Option Nat) (D1 : List ByteArray → Option (Nat × Option Nat)) : Prop where
  hold : D1 r1 = some (bh, mh)
  root : D1 [] = some (c, mc)
  tri : Tri w2 base D1 (bump cnt r1 d)
  fr : Fr base w w2

/-- The child is there, and its count does not come to 0. -/
theorem post_store {base : Nat} {cnt : List ByteArray → Int} {c : Nat} {r1 : List ByteArray} {d : Int} {w w2 : World} {bh : Nat} {mh mc : Option Nat} {D1 : List ByteArray → Option (Nat × Option Nat)} (H : Behind base cnt c r1 d w w2 bh mh mc D1)
    {n : ByteArray} {ba : Nat} {ma : Option Nat} (ha : D1 (n :: r1) = some (ba, ma)) (x : Int) (hx : x = bump cnt r1 d (n :: r1)) (h1 : x ≠ 0) (h2 : x + d ≠ 0) (e : Ending) (he : e = .returned (.pointer (some ⟨ba, 0, none⟩))) :
    AddPost base cnt c (n :: r1) d w e (w2.setCell ⟨ba, 0, none⟩ (.int .i64 (x + d))) := by
  obtain ⟨hb, hn⟩ := H.tri.node _ ba ma ha
  refine ⟨ba, ma, mc, D1, he, ha, H.root, ?_, H.fr.trans (fr_set hb hn)⟩
  rw [bump_upd, ← hx]
  exact H.tri.store ha (x + d) (.inr ⟨by rw [← hx]; exact h1, h2⟩) (two_set hn) set_kept

/-- The child is there, its count comes to 0, and it is dropped. -/
theorem post_drop {base : Nat} {cnt : List ByteArray → Int} {c : Nat} {r1 : List ByteArray} {d : Int} {w w2 : World} {bh kh : Nat} {mc : Option Nat} {D1 : List ByteArray → Option (Nat × Option Nat)} (H : Behind base cnt c r1 d w w2 bh (some kh) mc D1)
    {n : ByteArray} {ba : Nat} {ma : Option Nat} (ha : D1 (n :: r1) = some (ba, ma)) (hx : bump cnt r1 d (n :: r1) + d = 0) {A B : List MapEntry} {en : MapEntry} {cl : Nat} (hes : w2.heap[kh]? = some (.map (A ++ en :: B).toArray cl)) (hko : KeysOk (A ++ en :: B)) (hkey : en.key = .string n) (e : Ending) (he : e = .returned (.pointer (some ⟨ba, 0, none⟩))) :
    AddPost base cnt c (n :: r1) d w e (setBlock (w2.setCell ⟨ba, 0, none⟩ (.int .i64 0)) kh (.map (A ++ B).toArray cl)) := by
  obtain ⟨hb, hn⟩ := H.tri.node _ ba ma ha
  obtain ⟨hkb, _⟩ := H.tri.inMap _ _ _ H.hold
  have hne : ba ≠ kh := H.tri.apart ha H.hold
  have h3 : (w2.setCell ⟨ba, 0, none⟩ (.int .i64 0)).heap[kh]? = some (.map (A ++ en :: B).toArray cl) := set_kept kh _ hes (fun e => hne e.symm)
  refine ⟨ba, ma, mc, D1, he, ha, H.root, ?_, H.fr.trans ((fr_set hb hn).trans (fr_setBlock hkb h3 _))⟩
  rw [bump_upd, hx]
  refine H.tri.drop H.hold ha ?_ hes (Go.ChangeMaps.heap_setBlock_same h3 _) hko.erase (fun m => look_erase hko hkey m) ?_
  · rw [Go.ChangeMaps.heap_setBlock_other h3 _ hne]
    exact two_set hn
  · intro k o hk h4 h5
    rw [Go.ChangeMaps.heap_setBlock_other h3 _ h5]
    exact set_kept k o hk h4

/-- A new child, its holder's map at hand (in wx): kh. -/
structure Ready (w2 wx : World) (base bh kh : Nat) (mh : Option Nat) (x1 : Int) (es : List MapEntry) (cl : Nat) : Prop where
  fr : Fr base w2 wx
  new : wx.heap[w2.heap.size]? = some (.cells #[.int .i64 0, .map none] 56 (0, 0))
  holder : wx.heap[bh]? = some (.cells #[.int .i64 x1, .map (some kh)] 56 (0, 0))
  map : wx.heap[kh]? = some (.map es.toArray cl)
  which : mh = some kh ∨ (mh = none ∧ w2.heap.size ≤ kh)
  old : ∀ (k : Nat) o, w2.heap[k]? = some o → k ≠ bh → some k ≠ mh → wx.heap[k]? = some o

theorem post_hang {base : Nat} {cnt : List ByteArray → Int} {c : Nat} {r1 : List ByteArray} {d : Int} {w w2 wx : World} {bh kh : Nat} {mh mc : Option Nat} {D1 : List ByteArray → Option (Nat × Option Nat)} (H : Behind base cnt c r1 d w w2 bh mh mc D1) (hbase : base ≤ w2.heap.size) (hd : d ≠ 0)
    {n : ByteArray} (h0 : cnt (n :: r1) = 0) (hm : Mono cnt) {es : List MapEntry} {cl : Nat} (R : Ready w2 wx base bh kh mh (bump cnt r1 d r1) es cl) (hko : KeysOk es)
    (hl : ∀ m, look es m = if bump cnt r1 d (m :: r1) = 0 then none else (D1 (m :: r1)).map (fun x => Value.pointer (some ⟨x.1, 0, none⟩))) (e : Ending) (he : e = .returned (.pointer (some ⟨w2.heap.size, 0, none⟩))) :
    AddPost base cnt c (n :: r1) d w e ((setBlock wx kh (.map (es ++ [({ key := .string n, val := .pointer (some ⟨w2.heap.size, 0, none⟩), born := cl } : MapEntry)]).toArray (cl + 1))).setCell ⟨w2.heap.size, 0, none⟩ (.int .i64 d)) := by
  have hx0 : bump cnt r1 d (n :: r1) = 0 := by rw [bump_kid]; exact h0
  have hln : look es n = none := by rw [hl n, if_pos hx0]
  have hkb : base ≤ kh := by
    rcases R.which with h | ⟨_, h⟩
    · exact (H.tri.inMap _ _ _ (h ▸ H.hold)).1
    · omega
  have hnk : w2.heap.size ≠ kh := by
    intro e
    have h1 := R.new
    rw [e, R.map] at h1
    cases h1
  have hbk : bh ≠ kh := by
    intro e
    have h1 := R.holder
    rw [e, R.map] at h1
    cases h1
  have hbh : bh < w2.heap.size := H.tri.lt H.hold
  let W1 := setBlock wx kh (.map (es ++ [({ key := .string n, val := .pointer (some ⟨w2.heap.size, 0, none⟩), born := cl } : MapEntry)]).toArray (cl + 1))
  have g1 : W1.heap[w2.heap.size]? = some (.cells #[.int .i64 0, .map none] 56 (0, 0)) := (Go.ChangeMaps.heap_setBlock_other R.map _ hnk).trans R.new
  have g2 : W1.heap[kh]? = some (.map (es ++ [({ key := .string n, val := .pointer (some ⟨w2.heap.size, 0, none⟩), born := cl } : MapEntry)]).toArray (cl + 1)) := Go.ChangeMaps.heap_setBlock_same R.map _
  have g3 : W1.heap[bh]? = some (.cells #[.int .i64 (bump cnt r1 d r1), .map (some kh)] 56 (0, 0)) := (Go.ChangeMaps.heap_setBlock_other R.map _ hbk).trans R.holder
  have hD0 : ∃ mc', updD D1 n r1 w2.heap.size bh kh [] = some (c, mc') := by
    unfold updD
    rw [if_neg (by simp)]
    by_cases er : [] = r1
    · rw [if_pos er]
      have := H.root
      rw [er, H.hold] at this
      simp at this
      exact ⟨some kh, by rw [this.1]⟩
    · rw [if_neg er]; exact ⟨mc, H.root⟩
  obtain ⟨mc', hD0⟩ := hD0
  refine ⟨w2.heap.size, none, mc', updD D1 n r1 w2.heap.size bh kh, he, if_pos rfl, hD0, ?_, H.fr.trans (R.fr.trans ((fr_setBlock hkb R.map _).trans (fr_set hbase g1)))⟩
  rw [bump_upd, hx0, Int.zero_add]
  refine H.tri.hang H.hold hbase hx0 (fun m => by rw [bump_kid2]; exact hm _ m h0) d hd (Nat.le_refl _) R.which (two_set g1) ((Below.heap_setCell W1 ⟨w2.heap.size, 0, none⟩ (.int .i64 d) bh (Nat.ne_of_lt hbh)).trans g3)
    ((Below.heap_setCell W1 ⟨w2.heap.size, 0, none⟩ (.int .i64 d) kh (fun e => hnk e.symm)).trans g2) (hko.push n _ cl hln) (fun m => ?_) ?_
  · rw [look_push es n _ cl hko hln m, hl m]
  · intro k o hk h4 h5
    have h6 := R.old k o hk h4 h5
    have h7 : k ≠ kh := by
      rcases R.which with h | ⟨_, h⟩
      · rintro rfl; exact h5 h.symm
      · have := lt_of_block hk; omega
    have h8 : k ≠ w2.heap.size := by have := lt_of_block hk; omega
    exact (Below.heap_setCell W1 ⟨w2.heap.size, 0, none⟩ _ k h8).trans ((Go.ChangeMaps.heap_setBlock_other R.map _ h7).trans h6)

end Go.Proofs.Qxb6603220a
