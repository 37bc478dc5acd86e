import Derived.Test.Qxb6603220aValid
import Derived.LaidEqlPtr
namespace Go.Proofs.Qxb6603220a
open Go.RowKit
set_option linter.unusedVariables false

theorem info56 : (Try.prog.info? 56).map (fun i => i.size) = some 2 := by kernel_rfl

theorem eq45_same (a : Addr) (w : World) : (binOp .eql 45 (.pointer (some a)) (.pointer (some a))).run Try.prog w = .ok (.bool true) w := by
  obtain ⟨j, hte, _⟩ := Option.map_eq_some_iff.1 info56
  exact run_eql_ptr_same w a Try.underlying45 hte

theorem neq45_same (a : Addr) (w : World) : (binOp .neq 45 (.pointer (some a)) (.pointer (some a))).run Try.prog w = .ok (.bool false) w := by
  obtain ⟨j, hte, _⟩ := Option.map_eq_some_iff.1 info56
  have h : ∀ d : Nat, (Op.equalIn (d + 1) 45 (.pointer (some a)) (.pointer (some a))).run Try.prog w = .ok true w := fun d => by
    simp [Op.equalIn, run_underlying Try.underlying45, sizeOf, typeInfo, hte, run_sameAddr_same]
  simp only [binOp]
  simp [Op.equal, Op.maxDepth, h 9999]

/-- All that the checks of one state are told: the counters at c hold the counts after 'upto' steps of the script. -/
structure Held (w : World) (base c : Nat) (mc : Option Nat) (D : List ByteArray → Option (Nat × Option Nat)) (rows : List NRow) (zs : List Int) (upto : Nat) : Prop where
  root : D [] = some (c, mc)
  tri : Tri w base D (cntS (pathsOf rows) zs upto)
  valid : Valid (pathsOf rows) zs upto
  small : upto ≤ 100000
  le1 : upto ≤ rows.length
  le2 : upto ≤ zs.length
  rl : ∀ i, (h : i < rows.length) → rows[i].ss.length < 2000000

theorem Held.below {w w' : World} {base c : Nat} {mc : Option Nat} {D : List ByteArray → Option (Nat × Option Nat)} {rows : List NRow} {zs : List Int} {upto : Nat} (h : Held w base c mc D rows zs upto) (hb : Below w.heap.size w w') : Held w' base c mc D rows zs upto :=
  ⟨h.root, h.tri.below hb, h.valid, h.small, h.le1, h.le2, h.rl⟩

theorem Held.mono {w : World} {base c : Nat} {mc : Option Nat} {D : List ByteArray → Option (Nat × Option Nat)} {rows : List NRow} {zs : List Int} {upto : Nat} (h : Held w base c mc D rows zs upto) : Mono (cntS (pathsOf rows) zs upto) :=
  fun q m e => cntS_mono h.valid (Nat.le_refl _) q m e

set_option maxHeartbeats 4000000 in
theorem countAgrees_any {base c : Nat} {mc : Option Nat} {D : List ByteArray → Option (Nat × Option Nat)} (a : Option Addr) (ca : Nat) (rows : List NRow) (b : Option Addr) (cb : Nat) (zs : List Int) (upto : Nat) (q : Option Addr) (cq : Nat) (qs : List ByteArray) (w : World)
    (ha : NestedAt w a rows) (hb : IntsAt w b zs) (hq : StrsAt w q qs) (hql : qs.length < 900000) (H : Held w base c mc D rows zs upto) :
    Calls Try.prog 40 #[.pointer (some ⟨c, 0, none⟩), .slice a rows.length ca, .slice b zs.length cb, .int .i64 (upto : Int), .slice q qs.length cq] w fun e w' => e = .returned (.bool true) ∧ Below w.heap.size w w' := by
  obtain ⟨x, hx⟩ : ∃ x, x = S (pathsOf rows) zs (prefB qs) upto := ⟨_, rfl⟩
  have hxc : cntS (pathsOf rows) zs upto qs.reverse = x := by rw [cntS_open, hx]
  have hq45 := eq45_same
  go_enter Try.func40, Try.ntmps40
  go_wp2_with fail
  refine (openCount_any a ca rows b cb zs upto q cq qs _ ha hb hq (by omega) H.rl H.le1 H.le2 H.valid H.small).mono ?_
  rintro e w1 ⟨rfl, B1⟩
  rw [← hx]
  have H1 := H.below B1
  have hq1 := hq.below B1
  have HX : Hid (cntS (pathsOf rows) zs upto qs.reverse = x) := hxc
  clear hx hxc ha hb hq H
  go_wp2_with fail
  refine (zzroot_any _).mono ?_
  rintro e w2 ⟨rfl, B2⟩
  replace H1 := H1.below B2
  replace hq1 := hq1.below B2
  have B12 := B1.trans (B2.mono B1.size)
  clear B1 B2
  go_wp2_with fail
  refine (build_any none [] q cq qs _ rfl hq1 (by simp; omega)).mono ?_
  rintro e w3 ⟨p, rfl, hp, B3⟩
  rw [List.append_nil] at hp
  replace H1 := H1.below B3
  have B13 := B12.trans (B3.mono B12.size)
  clear B12 B3 hq1
  go_wp2_with fail
  refine (zzat_any H1.root H1.mono qs.reverse p _ hp H1.tri).mono ?_
  rintro e w4 ⟨rfl, B4⟩
  replace H1 := H1.below B4
  have B14 := B13.trans (B4.mono B13.size)
  clear B13 B4 hp
  have hne : D [] ≠ none := by rw [H1.root]; simp
  rcases nodeOf_cases H1.tri H1.mono hne qs.reverse with ⟨h1, h2, h3⟩ | ⟨b1, m1, h1, h2, h3⟩
  · rw [h1]
    have hx0 : x = 0 := by rw [← HX.out]; exact h3
    subst hx0
    have hl0 : ((qs.length : Int) == 0) = false := beq_eq_false_iff_ne.2 (by
      intro e
      apply h2
      have : qs = [] := List.length_eq_zero_iff.1 (by omega)
      rw [this]; rfl)
    clear h1 h2 h3 hne H1
    go_wp2_with fail
    go_ret
    exact ⟨by rfl, B14⟩
  · rw [h2]
    have hnode := (H1.tri.node _ b1 m1 h1).2
    rw [HX.out] at hnode
    have hxx : (x == x) = true := by simp
    by_cases hq0 : qs = []
    · subst hq0
      have hb1 : b1 = c := by
        have h4 := H1.root
        simp at h1
        rw [h1] at h4
        simp at h4
        exact h4.1
      subst hb1
      clear h1 h2 h3 hne H1
      go_wp2_with fail
      refine (countOf_any hnode).mono ?_
      rintro e w5 ⟨rfl, rfl⟩
      go_wp2_with fail
      go_ret
      exact ⟨by rfl, B14⟩
    · have hl0 : ((qs.length : Int) == 0) = false := beq_eq_false_iff_ne.2 (by
        intro e
        exact hq0 (List.length_eq_zero_iff.1 (by omega)))
      have hx0 : (x == 0) = false := by
        apply beq_eq_false_iff_ne.2
        rcases h3 with h3 | h3
        · exact absurd (by simpa using h3) hq0
        · rw [← HX.out]; exact h3
      clear h1 h2 h3 hne H1 hq0
      go_wp2_with fail
      refine (countOf_any hnode).mono ?_
      rintro e w5 ⟨rfl, rfl⟩
      go_wp2_with fail
      go_ret
      exact ⟨by rfl, B14⟩

end Go.Proofs.Qxb6603220a
