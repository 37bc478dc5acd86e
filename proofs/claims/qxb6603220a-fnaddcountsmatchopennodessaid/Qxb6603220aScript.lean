import Derived.Test.Qxb6603220aLawA
namespace Go.Proofs.Qxb6603220a
set_option linter.unusedVariables false

/-! ### The plain laws on a script: P the paths, D the deltas -/
def sel : Bool → Int → Int
  | true, d => d
  | false, _ => 0

/-- The sum of the first i deltas whose path lies in C. -/
def S (P : List (List ByteArray)) (D : List Int) (C : List ByteArray → Bool) : Nat → Int
  | 0 => 0
  | i + 1 => S P D C i + sel (C (P.getD i [])) (D.getD i 0)

theorem S_congr {P : List (List ByteArray)} {D : List Int} {C C' : List ByteArray → Bool} (h : ∀ s, C s = C' s) : ∀ i, S P D C i = S P D C' i
  | 0 => rfl
  | i + 1 => by rw [S, S, S_congr h i, h]

theorem S_split (P : List (List ByteArray)) (D : List Int) (C E : List ByteArray → Bool) : ∀ i, S P D C i = S P D (fun s => C s && E s) i + S P D (fun s => C s && !E s) i
  | 0 => rfl
  | i + 1 => by
    have ih := S_split P D C E i
    simp only [S]
    rw [ih]
    generalize C (P.getD i []) = x
    generalize E (P.getD i []) = y
    cases x <;> cases y <;> simp [sel] <;> omega

/-- Each of the first n deltas is 1 or -1, and each -1 ends a node of its very path. -/
def Valid (P : List (List ByteArray)) (D : List Int) (n : Nat) : Prop :=
  ∀ i, i < n → (D.getD i 0 = 1 ∨ D.getD i 0 = -1) ∧ (D.getD i 0 = -1 → 0 < S P D (fun s => decide (s = P.getD i [])) i)

theorem Valid.le {P : List (List ByteArray)} {D : List Int} {n m : Nat} (h : Valid P D n) (hm : m ≤ n) : Valid P D m := fun i hi => h i (by omega)

theorem S_nonneg {P : List (List ByteArray)} {D : List Int} {n : Nat} (hv : Valid P D n) : ∀ i, i ≤ n → ∀ C, 0 ≤ S P D C i
  | 0, _, _ => Int.le_refl _
  | i + 1, hi, C => by
    have ih := S_nonneg hv i (by omega)
    rw [S]
    have h0 := ih C
    obtain ⟨h1, h2⟩ := hv i (by omega)
    cases hC : C (P.getD i []) with
    | false => simp [sel]; exact h0
    | true =>
      simp only [sel]
      rcases h1 with h1 | h1
      · omega
      · have h3 := h2 h1
        have h4 := S_split P D C (fun s => decide (s = P.getD i [])) i
        have h5 : S P D (fun s => C s && decide (s = P.getD i [])) i = S P D (fun s => decide (s = P.getD i [])) i := by
          refine S_congr (fun s => ?_) i
          by_cases e : s = P.getD i []
          · rw [e, hC]; rfl
          · rw [decide_eq_false e, Bool.and_false]
        have h6 := ih (fun s => C s && !decide (s = P.getD i []))
        omega

theorem S_bound {P : List (List ByteArray)} {D : List Int} {n : Nat} (hv : Valid P D n) (C : List ByteArray → Bool) : ∀ i, i ≤ n → S P D C i ≤ i
  | 0, _ => Int.le_refl _
  | i + 1, hi => by
    have ih := S_bound hv C i (by omega)
    rw [S]
    obtain ⟨h1, _⟩ := hv i (by omega)
    cases C (P.getD i [])
    · simp only [sel]; omega
    · simp only [sel]; rcases h1 with h1 | h1 <;> omega

/-- The nodes that are open at, or inside, the path whose names are r (the last first) after i steps. -/
def cntS (P : List (List ByteArray)) (D : List Int) (i : Nat) (r : List ByteArray) : Int := S P D (fun s => holdsB r s.reverse) i

theorem holdsB_tail {m : ByteArray} {r x : List ByteArray} (h : holdsB (m :: r) x = true) : holdsB r x = true := by
  have h1 : x.drop (x.length - (m :: r).length) = m :: r := by simpa [holdsB] using h
  have hl : (m :: r).length ≤ x.length := by
    have := congrArg List.length h1
    simp at this
    simp
    omega
  have e : x.length - r.length = (x.length - (m :: r).length) + 1 := by simp at hl ⊢; omega
  apply decide_eq_true
  rw [e, ← List.drop_drop, h1]
  rfl

theorem cntS_mono {P : List (List ByteArray)} {D : List Int} {n i : Nat} (hv : Valid P D n) (hi : i ≤ n) (r : List ByteArray) (m : ByteArray) (h : cntS P D i r = 0) : cntS P D i (m :: r) = 0 := by
  have h1 := S_split P D (fun s => holdsB r s.reverse) (fun s => holdsB (m :: r) s.reverse) i
  have h2 : S P D (fun s => holdsB r s.reverse && holdsB (m :: r) s.reverse) i = cntS P D i (m :: r) := by
    refine S_congr (fun s => ?_) i
    cases hh : holdsB (m :: r) s.reverse with
    | false => simp
    | true => simp [holdsB_tail hh]
  have h3 := S_nonneg hv i hi (fun s => holdsB r s.reverse && !holdsB (m :: r) s.reverse)
  have h4 := S_nonneg hv i hi (fun s => holdsB (m :: r) s.reverse)
  unfold cntS at h h2 ⊢
  omega

theorem cntS_bounds {P : List (List ByteArray)} {D : List Int} {n i : Nat} (hv : Valid P D n) (hi : i ≤ n) (r : List ByteArray) : 0 ≤ cntS P D i r ∧ cntS P D i r ≤ i :=
  ⟨S_nonneg hv i hi _, S_bound hv _ i hi⟩

/-- One step more. -/
def bump (cnt : List ByteArray → Int) (r : List ByteArray) (d : Int) : List ByteArray → Int := fun q => cnt q + sel (holdsB q r) d

theorem cntS_succ (P : List (List ByteArray)) (D : List Int) (i : Nat) : cntS P D (i + 1) = bump (cntS P D i) (P.getD i []).reverse (D.getD i 0) := rfl

theorem cntS_open (P : List (List ByteArray)) (D : List Int) (i : Nat) (q : List ByteArray) : cntS P D i q.reverse = S P D (fun s => prefB q s) i :=
  S_congr (fun s => holds_pref q s) i

theorem holdsB_cons (q r : List ByteArray) (n : ByteArray) : holdsB q (n :: r) = (decide (q = n :: r) || holdsB q r) := by
  by_cases h1 : q.length ≤ r.length
  · rw [holdsB_pop n h1]
    have : q ≠ n :: r := by rintro rfl; simp at h1; omega
    simp [this]
  · rw [holdsB_gt (rp := q) (rq := r) (by omega), Bool.or_false]
    by_cases h2 : q.length = r.length + 1
    · rw [holdsB_eq (by simpa using h2)]
      rw [decide_eq_decide]
      exact ⟨fun e => e.symm, fun e => e.symm⟩
    · rw [holdsB_gt (by simp; omega)]
      symm
      apply decide_eq_false
      rintro rfl
      simp at h2

theorem holdsB_self_not (r : List ByteArray) (n : ByteArray) : holdsB (n :: r) r = false := holdsB_gt (by simp)

theorem bump_cons (cnt : List ByteArray → Int) (r : List ByteArray) (n : ByteArray) (d : Int) (q : List ByteArray) : bump cnt (n :: r) d q = bump cnt r d q + (if q = n :: r then d else 0) := by
  unfold bump
  rw [holdsB_cons]
  by_cases h : q = n :: r
  · subst h
    simp [holdsB_self_not, sel]
  · simp [h]

theorem holdsB_self (r : List ByteArray) : holdsB r r = true := by
  apply decide_eq_true
  simp

end Go.Proofs.Qxb6603220a
