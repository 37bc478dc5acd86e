import Derived.Test.Qxb6603220aBuild
import Derived.Test.Qxb6603220aEq30
import Derived.Deep.DeepCutAuto
namespace Go.Proofs.Qxb6603220a
open Go.RowKit

/-! ### The plain law: one path (its names, the last first) holds another -/
def holdsB (rp rq : List ByteArray) : Bool := decide (rq.drop (rq.length - rp.length) = rp)

theorem holdsB_gt {rp rq : List ByteArray} (h : rq.length < rp.length) : holdsB rp rq = false := by
  unfold holdsB
  apply decide_eq_false
  intro e
  have := congrArg List.length e
  simp at this
  omega

theorem holdsB_pop {rp r : List ByteArray} (n : ByteArray) (h : rp.length ≤ r.length) : holdsB rp (n :: r) = holdsB rp r := by
  unfold holdsB
  have e : (n :: r).length - rp.length = (r.length - rp.length) + 1 := by simp; omega
  rw [e, List.drop_succ_cons]

theorem holdsB_eq {a b : List ByteArray} (h : a.length = b.length) : holdsB a b = decide (b = a) := by
  unfold holdsB
  rw [h, Nat.sub_self, List.drop_zero]

/-- A link leads to one list of names alone. -/
theorem PathR.inj {w : World} : ∀ {a b : List ByteArray} {p : Option Addr}, PathR w p a → PathR w p b → a = b
  | [], [], _, _, _ => rfl
  | [], _ :: _, _, h, ⟨_, _, e, _⟩ => by cases (show _ = none from h); cases e
  | _ :: _, [], _, ⟨_, _, e, _⟩, h => by cases (show _ = none from h); cases e
  | n :: a, m :: b, p, ⟨b1, h1, e1, c1, r1⟩, ⟨b2, h2, e2, c2, r2⟩ => by
    rw [e1] at e2
    simp at e2
    subst e2
    rw [c1] at c2
    simp at c2
    obtain ⟨rfl, rfl, _⟩ := c2
    rw [PathR.inj r1 r2]

theorem two_boxes (w : World) (u v : Value) : ((w.alloc (.cells #[u] 30)).alloc (.cells #[v] 30)).heap[w.heap.size]? = some (.cells #[u] 30 (0, 0)) ∧ ((w.alloc (.cells #[u] 30)).alloc (.cells #[v] 30)).heap[w.heap.size + 1]? = some (.cells #[v] 30 (0, 0)) ∧ Below w.heap.size w ((w.alloc (.cells #[u] 30)).alloc (.cells #[v] 30)) := by
  refine ⟨?_, heap_alloc_at _ _ _ (by simp), ((Below.refl _ _).alloc (Nat.le_refl _) _).alloc (by simp) _⟩
  rw [Below.heap_alloc _ _ _ (by simp)]; exact heap_alloc_new _ _

/-- What lay in a block lies there behind a call. -/
theorem keep {W w1 : World} (hb : Below W.heap.size W w1) {k : Nat} {o : Obj} (h : W.heap[k]? = some o) : w1.heap[k]? = some o :=
  (hb.block k (lt_of_block h)).trans h

/-- The two boxes of 'holds': the two links; all that was there before the call is as it was. -/
def Box2 (w wx : World) (p q : Option Addr) : Prop :=
  wx.heap[w.heap.size]? = some (.cells #[.pointer p] 30 (0, 0)) ∧ wx.heap[w.heap.size + 1]? = some (.cells #[.pointer q] 30 (0, 0)) ∧ Below w.heap.size w wx

theorem Box2.step {w wx w' : World} {p q : Option Addr} (h : Box2 w wx p q) (hb : Below wx.heap.size wx w') : Box2 w w' p q :=
  ⟨keep hb h.1, keep hb h.2.1, h.2.2.trans (hb.mono (Nat.le_of_lt (lt_of_block h.1)))⟩

theorem Box2.drew {w wx : World} {p q : Option Addr} (h : Box2 w wx p q) : Box2 w wx.drew p q := ⟨h.1, h.2.1, h.2.2.drew⟩

theorem Box2.drewN {w wx : World} {p q : Option Addr} (h : Box2 w wx p q) (n : Nat) : Box2 w (wx.drewN n) p q := ⟨h.1, h.2.1, below_drewN h.2.2 n⟩

theorem Box2.facts {w wx : World} {p q : Option Addr} (h : Box2 w wx p q) :
    wx.cell? ⟨w.heap.size, 0, none⟩ = some (.pointer p) ∧ wx.frozen? ⟨w.heap.size, 0, none⟩ = false ∧ wx.cell? ⟨w.heap.size + 1, 0, none⟩ = some (.pointer q) ∧ wx.frozen? ⟨w.heap.size + 1, 0, none⟩ = false :=
  ⟨cell_of_one h.1, free_of_one h.1, cell_of_one h.2.1, free_of_one h.2.1⟩

theorem Box2.setq {w wx : World} {p q : Option Addr} (h : Box2 w wx p q) (u : Option Addr) : Box2 w (wx.setCell ⟨w.heap.size + 1, 0, none⟩ (.pointer u)) p u :=
  ⟨(Below.heap_setCell _ _ _ _ (by simp)).trans h.1, one_setCell h.2.1, h.2.2.setCell (by simp) _⟩

theorem Box2.setp {w wx : World} {p q : Option Addr} (h : Box2 w wx p q) (u : Option Addr) : Box2 w (wx.setCell ⟨w.heap.size, 0, none⟩ (.pointer u)) u q :=
  ⟨one_setCell h.1, (Below.heap_setCell _ _ _ _ (by simp)).trans h.2.1, h.2.2.setCell (by simp) _⟩

set_option maxHeartbeats 1000000 in
theorem holds_any (p q : Option Addr) (rp rq : List ByteArray) (w : World) (hp : PathR w p rp) (hq : PathR w q rq) :
    Calls Try.prog 36 #[.agg #[.pointer p], .agg #[.pointer q]] w fun e w' => e = .returned (.bool (holdsB rp rq)) ∧ Below w.heap.size w w' := by
  have hB : Box2 w ((w.alloc (.cells #[.pointer p] 30)).alloc (.cells #[.pointer q] 30)) p q := two_boxes w (.pointer p) (.pointer q)
  go_enter Try.func36, Try.ntmps36
  go_upto_region 1 with fail
  go_cut [9] (fun s wx => s = .bool (decide (rq.length < rp.length)) ∧ Box2 w wx p q)
  case first =>
    go_region_with (first
      | (go_at_call_of 41 (Value.agg #[Value.pointer p]); refine (depth_any p rp _ ?_).mono ?_; exact hp.below hB.2.2.drew; rintro e w1 ⟨rfl, hb1⟩; have C1 := hB.drew.step hb1; obtain ⟨e0, -, e1, -⟩ := C1.facts)
      | (go_at_call_of 41 (Value.agg #[Value.pointer q]); refine (depth_any q rq _ ?_).mono ?_; exact hq.below C1.2.2; rintro e w2 ⟨rfl, hb2⟩; have C2 := C1.step hb2))
    all_goals
      go_wp2_with fail
      go_meet
      case rel => exact ⟨rfl, C2⟩
  case rest =>
    obtain ⟨hs, hw⟩ := hcut
    by_cases hgt : rq.length < rp.length
    · rw [decide_eq_true hgt] at hs
      subst hs
      go_wp2
      go_ret
      exact ⟨by rw [holdsB_gt hgt]; rfl, hw.2.2⟩
    · rw [decide_eq_false hgt] at hs
      subst hs
      go_wp2
      go_loopg [] rq.length (fun k wr => ∃ (q' : Option Addr) (r : List ByteArray), Box2 w wr p q' ∧ PathR w q' r ∧ rp.length ≤ r.length ∧ r.length ≤ rq.length ∧ holdsB rp rq = holdsB rp r ∧ k = r.length)
      case atStart => exact ⟨q, rq, hw, hq, by omega, by omega, rfl, rfl⟩
      case round =>
        obtain ⟨q', r, hw1, hr, hle, hle2, hh, hkr⟩ := hrel
        have HH : Hid (holdsB rp rq = holdsB rp r) := hh
        have HK : Hid (gk = r.length) := hkr
        clear hw hgt hh hkr hB hq
        obtain ⟨e0, f0, e1, f1⟩ := hw1.facts
        go_upto_region 3 with fail
        go_cut [14] (fun s wx => s = .bool (decide (rp.length < r.length)) ∧ Box2 w wx p q')
        case first =>
          go_region_with (first
            | (go_at_call_of 41 (Value.agg #[Value.pointer q']); refine (depth_any q' r _ ?_).mono ?_; exact hr.below hw1.2.2.drew; rintro e w1 ⟨rfl, hb1⟩; have C1 := hw1.drew.step hb1; obtain ⟨g0, -, g1, -⟩ := C1.facts)
            | (go_at_call_of 41 (Value.agg #[Value.pointer p]); refine (depth_any p rp _ ?_).mono ?_; exact hp.below C1.2.2; rintro e w2 ⟨rfl, hb2⟩; have C2 := C1.step hb2))
          all_goals
            go_wp2_with fail
            go_meet
            case rel => exact ⟨rfl, C2⟩
        case rest =>
          obtain ⟨hs, hw2⟩ := hcut
          clear e0 f0 e1 f1 hw1
          obtain ⟨e0, f0, e1, f1⟩ := hw2.facts
          by_cases hlt : rp.length < r.length
          · rw [decide_eq_true hlt] at hs
            subst hs
            cases r with
            | nil => simp at hlt
            | cons n r1 =>
              obtain ⟨b, h, rfl, hc, hr1⟩ := hr
              have cb := (hw2.2.2.cell (p := ⟨b, 0, none⟩) (lt_of_block hc)).trans (cell_block hc 0)
              simp at cb
              clear hc
              go_wp2
              go_roundg r1.length
              case measure => rw [HK.out]; simp
              case rel => exact ⟨h, r1, hw2.setq h, hr1, by simp at hlt; omega, by simp at hle2; omega, HH.out.trans (holdsB_pop n (by simp at hlt; omega)), rfl⟩
          · rw [decide_eq_false hlt] at hs
            subst hs
            have hleq : rp.length = r.length := by omega
            have HH2 : Hid (holdsB rp rq = decide (r = rp)) := HH.out.trans (holdsB_eq hleq)
            have HL : Hid (rp.length = r.length) := hleq
            clear hleq HH HK
            go_wp2
            clear e0 f0 e1 f1
            go_loopg [] rp.length (fun k wr => ∃ (p' q' : Option Addr) (a b : List ByteArray), Box2 w wr p' q' ∧ PathR w p' a ∧ PathR w q' b ∧ a.length = b.length ∧ decide (r = rp) = decide (b = a) ∧ k = a.length)
            case atStart => exact ⟨p, q', rp, r, hw2, hp, hr, HL.out, rfl, rfl⟩
            case round =>
              obtain ⟨p1, q1, a, b, hw3, ha, hb, hab, hd, hka⟩ := hrel
              have HD : Hid (holdsB rp rq = decide (b = a)) := HH2.out.trans hd
              have HD2 : Hid (decide (r = rp) = decide (b = a)) := hd
              have HK : Hid (gk = a.length) := hka
              have HAB : Hid (a.length = b.length) := hab
              clear hd hka hab hw2 HH2 hr hp hlt hle hle2 HL
              obtain ⟨e0, f0, e1, f1⟩ := hw3.facts
              cases a with
              | nil =>
                cases b with
                | cons m b1 => exact absurd HAB.out (by simp)
                | nil =>
                  obtain rfl : p1 = none := ha
                  obtain rfl : q1 = none := hb
                  have hq30 := eq30_nil
                  go_wp2
                  go_ret
                  exact ⟨by rw [HD.out]; rfl, hw3.2.2⟩
              | cons n a1 =>
                cases b with
                | nil => exact absurd HAB.out (by simp)
                | cons m b1 =>
                  obtain ⟨x, hx, rfl, cx, rx⟩ := ha
                  obtain ⟨y, hy, rfl, cy, ry⟩ := hb
                  by_cases hxy : x = y
                  · subst hxy
                    have hab : m :: b1 = n :: a1 := PathR.inj ⟨x, hy, rfl, cy, ry⟩ ⟨x, hx, rfl, cx, rx⟩
                    have HD3 : Hid (holdsB rp rq = true) := HD.out.trans (decide_eq_true hab)
                    clear hab cx rx cy ry
                    have hq30 := eq30_same ⟨x, 0, none⟩
                    go_wp2
                    go_ret
                    exact ⟨by rw [HD3.out]; rfl, hw3.2.2⟩
                  · have cx' := (hw3.2.2.block x (lt_of_block cx)).trans cx
                    have cy' := (hw3.2.2.block y (lt_of_block cy)).trans cy
                    have hq28 := eq28_other (a := ⟨x, 0, none⟩) (b := ⟨y, 0, none⟩) wr (by simp) cx' cy'
                    have x0 := cell_block cx' 0
                    have x1 := cell_block cx' 1
                    have y0 := cell_block cy' 0
                    have y1 := cell_block cy' 1
                    simp at x0 x1 y0 y1
                    have lx := lt_of_block cx
                    have ly := lt_of_block cy
                    clear cx cy cx' cy' hxy
                    by_cases hnm : n = m
                    · subst hnm
                      go_wp2
                      go_quiet (fail)
                      go_wp2
                      have z1 : ∀ n u, ((wr.drewN n).setCell ⟨w.heap.size, 0, none⟩ u).cell? ⟨y, 0, none⟩ = some (.pointer hy) := fun n u => (World.cell?_setCell_other _ _ _ _ (by simp)).trans y0
                      have z2 : ∀ n u, ((wr.drewN n).setCell ⟨w.heap.size + 1, 0, none⟩ u).cell? ⟨x, 0, none⟩ = some (.pointer hx) := fun n u => (World.cell?_setCell_other _ _ _ _ (by simp)).trans x0
                      go_region
                      all_goals
                        go_wp2
                        go_roundg a1.length
                        case measure => rw [HK.out]; simp
                        case rel => exact ⟨hx, hy, a1, b1, ((hw3.drewN (nq + 1)).setp hx).setq hy, rx, ry, by simpa using HAB.out, by rw [HD2.out]; simp, rfl⟩
                    · have hnm' : (n.toList == m.toList) = false := bytes_ne hnm
                      have HD3 : Hid (holdsB rp rq = false) := HD.out.trans (decide_eq_false (by intro h; injection h with h1 _; exact hnm h1.symm))
                      clear hnm
                      go_wp2
                      go_quiet (fail)
                      go_wp2
                      go_ret
                      exact ⟨by rw [HD3.out]; rfl, below_drewN hw3.2.2 _⟩

theorem zzholds_any (p q : Option Addr) (rp rq : List ByteArray) (w : World) (hp : PathR w p rp) (hq : PathR w q rq) :
    Calls Try.prog 18 #[.agg #[.pointer p], .agg #[.pointer q]] w fun e w' => e = .returned (.bool (holdsB rp rq)) ∧ Below w.heap.size w w' := by
  have hB : Box2 w ((w.alloc (.cells #[.pointer p] 30)).alloc (.cells #[.pointer q] 30)) p q := two_boxes w (.pointer p) (.pointer q)
  go_enter Try.func18, Try.ntmps18
  go_wp2_with fail
  refine (holds_any p q rp rq _ ?_ ?_).mono ?_
  · exact hp.below hB.2.2
  · exact hq.below hB.2.2
  rintro e w1 ⟨rfl, hb⟩
  go_wp2
  go_ret
  exact ⟨rfl, (hB.step hb).2.2⟩

end Go.Proofs.Qxb6603220a
