import Derived.Test.Qxb6603220aText
namespace Go.Proofs.Qxb6603220a
open Go.RowKit
set_option linter.unusedVariables false

theorem infoB : (Try.prog.info? 5).map (fun i => (i.zero, i.size, i.bytes)) = some (some (.int .u8 0), 1, 1) := by kernel_rfl

theorem zeroCells_one (z : Value) (k : Nat) (h : z.cells = #[z]) : ∀ v ∈ (Builtin.zeroCells z.cells k).toList, v = z := by
  intro v hv
  rw [h] at hv
  simp [Builtin.zeroCells] at hv
  obtain ⟨j, _, hj⟩ := hv
  rw [Nat.mod_one] at hj
  exact hj.symm

theorem growBy_le (need : Nat) : ∀ (m c : Nat), Builtin.growBy need m c ≤ 2 ^ m * (c + 768)
  | 0, c => by simp [Builtin.growBy]
  | m + 1, c => by
    unfold Builtin.growBy
    split
    · have : 1 ≤ 2 ^ (m + 1) := Nat.one_le_two_pow
      calc c ≤ 1 * (c + 768) := by omega
        _ ≤ 2 ^ (m + 1) * (c + 768) := Nat.mul_le_mul_right _ this
    · refine Nat.le_trans (growBy_le need m _) ?_
      rw [Nat.pow_succ, Nat.mul_assoc]
      exact Nat.mul_le_mul_left _ (by omega)

theorem nextcap_le (need old : Nat) (h1 : old < need) (h2 : need ≤ 1073741824) : Builtin.nextslicecap need old * 1 ≤ 281474976710656 := by
  unfold Builtin.nextslicecap
  have := growBy_le need 4 old
  split
  · omega
  · split
    · omega
    · omega

/-- What 'append(b, make([]byte, k)...)' leaves. -/
def Zeroed (w : World) (v : Value) (n : Nat) (xs : List Value) (k : Nat) (ty : TypeId) : Prop :=
    ∃ (g cap : Nat) (cur : List Value) (w' : World), (Builtin.append_ #[23, 3] ty #[v, .int .i64 k]).run Try.prog w = .ok (.slice (some ⟨g, 0, none⟩) (n + k) cap) w' ∧
      w'.heap[g]? = some (.cells cur.toArray 5 (0, 0)) ∧ cur.length = cap ∧ n + k ≤ cap ∧ cap ≤ maxLen ∧ cur.take n = xs ∧ w.grownBy w' v.ownBlock ∧ (g < w.heap.size → v.ownBlock = some g)

/-- 'append(b, make([]byte, k)...)', b nil or a row of the call's own, k at least 1: a row of n + k bytes (and more room), whose first n are b's. -/
theorem run_append_zeros (w : World) (v : Value) (n : Nat) (xs : List Value) (hown : w.ownsRow 0 5 1 v n xs) (k : Nat) (h0 : 0 < k) (hb : n + k ≤ 1073741824) (ty : TypeId) : Zeroed w v n xs k ty := by
  obtain ⟨i, hi, hz, hsize, hby⟩ := info_parts infoB
  have hlx : xs.length = n := by simpa using hown.1
  have grow : ∀ (base : Option Addr) (sCap : Nat), v = .slice base n sCap → sCap < n + k → (Builtin.firstCells i.size n (.slice base n sCap)).run Try.prog w.drew = .ok xs.toArray w.drew → Zeroed w v n xs k ty := by
    intro base sCap hv hlt hold
    have hr := Lib.run_append_grow_zeros (P := Try.prog) w 23 3 ty 5 i (.int .u8 0) .i64 .i64 Try.underlying23 Try.underlying3 hi hz base n sCap xs hold k h0 (by omega) hlt (by omega) (by rw [hby]; omega) (by rw [hby]; exact nextcap_le _ _ hlt hb)
    have hge := grownCap_ge w (n + k) sCap 5
    have hone : (Value.int IntKind.u8 0).cells.size = 1 := rfl
    refine ⟨w.heap.size, _, (xs.toArray ++ Builtin.zeroCells (Value.int IntKind.u8 0).cells k ++ Builtin.zeroCells (Value.int IntKind.u8 0).cells (grownCap w (n + k) sCap 5 - (n + k))).toList, w.drew.alloc (.cells (xs.toArray ++ Builtin.zeroCells (Value.int IntKind.u8 0).cells k ++ Builtin.zeroCells (Value.int IntKind.u8 0).cells (grownCap w (n + k) sCap 5 - (n + k))) 5), by rw [hv]; exact hr, ?_, ?_, hge, grownCap_le_maxLen w (n + k) sCap 5 (by unfold maxLen; omega), ?_, ⟨rfl, rfl, rfl, by simp, fun j hj _ => Below.heap_alloc w.drew _ j hj⟩, fun h => absurd h (by simp)⟩
    · rw [Array.toArray_toList]
      exact heap_alloc_at w.drew _ _ rfl
    · rw [Array.length_toList, Array.size_append, Array.size_append, size_zeroCells, size_zeroCells, hone]
      simp only [List.size_toArray, hlx]
      omega
    · rw [Array.toList_append, Array.toList_append, List.append_assoc, ← hlx]
      exact List.take_left
  rcases hown.2 with ⟨rfl, rfl⟩ | ⟨g, cap, cur, rfl, hbg, hg, hnc, hcm, hcs, htake⟩
  · have hx : xs = [] := List.eq_nil_of_length_eq_zero hlx
    subst hx
    refine grow none 0 rfl (by omega) ?_
    simp [Builtin.firstCells]
  · simp only [Nat.mul_one] at hcs htake
    by_cases hroom : n + k ≤ cap
    · have hnew : (Builtin.zeroCells (Value.int IntKind.u8 0).cells k).toList.length = k := by rw [Array.length_toList, size_zeroCells]; simp [Value.cells]
      have hst := run_storeCells_at Try.prog g n 5 (Builtin.zeroCells (Value.int IntKind.u8 0).cells k).toList 0 cur w hg (by rw [hnew]; omega) (fun u hu => by rw [zeroCells_one _ _ rfl u hu]; rfl)
      simp only [Nat.add_zero] at hst
      have hw : IntKind.i64.wrap (k : Int) = k := by rw [IntKind.wrap_i64]; omega
      have hneg : ¬ ((k : Int) < 0) := by omega
      have hk : k ≠ 0 := by omega
      have h48 : ¬ (281474976710656 < (k : Int)) := by omega
      have hr : (Builtin.append_ #[23, 3] ty #[.slice (some ⟨g, 0, none⟩) n cap, .int .i64 k]).run Try.prog w = .ok (.slice (some ⟨g, 0, none⟩) (n + k) cap) (w.setRow g (cur.toList.take n ++ (Builtin.zeroCells (Value.int IntKind.u8 0).cells k).toList ++ cur.toList.drop (n + (Builtin.zeroCells (Value.int IntKind.u8 0).cells k).toList.length)).toArray) := by
        simp [Builtin.append_, run_underlying Try.underlying23, run_underlying Try.underlying3, sizeOf, typeInfo, zeroValue, hi, hz, hsize, hby, asInt, asIntOf, hw, hk, hneg, h48, hroom, Addr.add_lit, hst]
      refine ⟨g, cap, _, _, hr, setRow_heap w g cur _ 5 _ hg, ?_, hroom, hcm, ?_, ⟨rfl, rfl, rfl, by simp, fun k _ hk => setRow_other w g k _ (fun e => hk (by simp [Value.ownBlock, e]))⟩, fun _ => rfl⟩
      · rw [List.length_append, List.length_append, hnew, List.length_take, List.length_drop, Array.length_toList]
        omega
      · rw [htake, List.append_assoc, ← hlx]
        exact List.take_left
    · refine grow (some ⟨g, 0, none⟩) cap rfl (by omega) ?_
      refine run_firstCells_some (P := Try.prog) w.drew i.size n ⟨g, 0, none⟩ n cap xs (by rw [hsize]; omega) (fun j u hu => ?_)
      have hj : j < xs.length := (List.getElem?_eq_some_iff.1 hu).1
      rw [Addr.add_lit, Nat.zero_add]
      have hc := cell_block (w := w) hg j
      show w.cell? _ = _
      rw [hc, ← hu, ← htake, List.getElem?_take_of_lt (by omega), Array.getElem?_toList]

/-- 'copy(dst, s)' AS A LAW FOR THE WALK, s a string that fits, dst lying in row g from 'off' on (of an empty s nothing is asked of dst's address). -/
theorem wpList_copy_str {P : Program} {w : World} {ops : Array Oper} {rest : List Oper} {o : Oper} {a : Act} {Q : Exit → Act → World → Prop} (hgd : o.guard = none) (d s : Operand) (dT sT : TypeId)
    (ho : o.op = .call { callee := .builtin .copy, args := #[d, s], argTypes := #[dT, sT] }) (elem : TypeId) (hu : P.underlying dT = some (.slice elem)) (hsz : (P.info? elem).map (·.size) = some 1)
    (dp : Option Addr) (dLen dCap : Nat) (hd : a.eval d = .slice dp dLen dCap) (str : ByteArray) (hs : a.eval s = .string str)
    (g off : Nat) (cur : List Value) (t : TypeId) (hg : w.heap[g]? = some (.cells cur.toArray t (0, 0))) (hle : str.size ≤ dLen) (hpos : 0 < str.size → dp = some ⟨g, off, none⟩) (hfit : off + str.size ≤ cur.length)
    (h : ∀ w', Hid (w'.heap[g]? = some (.cells (splice cur off (Lib.byteCells str.data.toList)).toArray t (0, 0))) → w.grownBy w' (some g) → wpList P ops Q rest (a.put o.dst (goInt str.size)) w') :
    wpList P ops Q (o :: rest) a w := by
  have hbl : (Lib.byteCells str.data.toList).length = str.size := by rw [Lib.byteCells_length, Array.length_toList]; rfl
  refine wpList_plain hgd fun K hK => ?_
  by_cases h0 : str.size = 0
  · have hrun := Lib.run_copy_empty_string (P := P) w dT sT o.type elem dp dLen dCap str hu (by rw [hsz]; rfl) h0
    unfold Oper.wp
    simp [execOp, ho, resolve, invoke, builtin, hd, hs, hrun, Result.andThen]
    have hb0 : Lib.byteCells str.data.toList = [] := List.eq_nil_of_length_eq_zero (by omega)
    rw [hb0] at h
    rw [h0] at h
    exact hK _ _ (h w (show _ = _ by simpa [splice] using hg) ⟨rfl, rfl, rfl, Nat.le_refl _, fun _ _ _ => rfl⟩)
  · obtain rfl := hpos (by omega)
    have hrun := Lib.run_copy_row_string (P := P) w dT sT o.type elem g off dLen dCap str cur.toArray t hu hsz hg hle (by simpa using hfit)
    unfold Oper.wp
    simp [execOp, ho, resolve, invoke, builtin, hd, hs, hrun, Result.andThen]
    refine hK _ _ (h _ ?_ ⟨rfl, rfl, rfl, by simp [World.setRow], fun k _ hk => setRow_other w g k _ (fun e => hk (by rw [e]))⟩)
    show _ = _
    rw [setRow_heap w g _ _ t _ hg]
    simp [splice, hbl]

/-! ### The cells of the text, a round's step -/
theorem splice_mid {α : Type} (A M M' R : List α) (k : Nat) (hk : A.length = k) (h : M.length = M'.length) : splice (A ++ (M ++ R)) k M' = A ++ (M' ++ R) := by
  unfold splice
  have e : List.drop (k + M'.length) (A ++ (M ++ R)) = R := by
    rw [← hk, ← h, ← List.length_append, ← List.append_assoc, List.drop_left]
  rw [List.take_left' hk, e]

theorem bytes_len (s : ByteArray) : (Lib.byteCells s.data.toList).length = s.size := by rw [Lib.byteCells_length, Array.length_toList]; rfl

theorem round_cells (xs pre R : List Value) (nm pf : ByteArray) (n t : Nat) (hpre : pre.length = n + t + (1 + pf.size + nm.size)) (hx : pre.take n = xs) :
    ∃ pre', pre'.length = n + t ∧ pre'.take n = xs ∧
      (splice (splice (pre ++ R) (n + t + 1 + pf.size) (Lib.byteCells nm.data.toList)) (n + t + 1) (Lib.byteCells pf.data.toList)).set (n + t) (.int .u8 47) = pre' ++ ((.int .u8 47 :: (Lib.byteCells pf.data.toList ++ Lib.byteCells nm.data.toList)) ++ R) := by
  obtain ⟨A, B, rfl, hA⟩ : ∃ A B, pre = A ++ B ∧ A.length = n + t := ⟨pre.take (n + t), pre.drop (n + t), (List.take_append_drop _ _).symm, by rw [List.length_take]; omega⟩
  have hB : B.length = 1 + pf.size + nm.size := by rw [List.length_append] at hpre; omega
  obtain ⟨c, B1, rfl⟩ : ∃ c B1, B = c :: B1 := by
    cases B with
    | nil => simp at hB; omega
    | cons c B1 => exact ⟨c, B1, rfl⟩
  have hB1 : B1.length = pf.size + nm.size := by rw [List.length_cons] at hB; omega
  obtain ⟨P, M, rfl, hP⟩ : ∃ P M, B1 = P ++ M ∧ P.length = pf.size := ⟨B1.take pf.size, B1.drop pf.size, (List.take_append_drop _ _).symm, by rw [List.length_take]; omega⟩
  have hM : M.length = nm.size := by rw [List.length_append] at hB1; omega
  refine ⟨A, hA, ?_, ?_⟩
  · rw [List.take_append_of_le_length (by omega)] at hx
    exact hx
  · have e1 : A ++ c :: (P ++ M) ++ R = (A ++ [c] ++ P) ++ (M ++ R) := by simp
    rw [e1, splice_mid (A ++ [c] ++ P) M (Lib.byteCells nm.data.toList) R _ (by simp; omega) (by rw [bytes_len]; exact hM)]
    have e2 : (A ++ [c] ++ P) ++ (Lib.byteCells nm.data.toList ++ R) = (A ++ [c]) ++ (P ++ (Lib.byteCells nm.data.toList ++ R)) := by simp
    rw [e2, splice_mid (A ++ [c]) P (Lib.byteCells pf.data.toList) _ _ (by simp; omega) (by rw [bytes_len]; exact hP)]
    have e3 : (A ++ [c]) ++ (Lib.byteCells pf.data.toList ++ (Lib.byteCells nm.data.toList ++ R)) = A ++ (c :: (Lib.byteCells pf.data.toList ++ (Lib.byteCells nm.data.toList ++ R))) := by simp
    rw [e3, ← hA, List.set_append_right _ _ (Nat.le_refl _), Nat.sub_self]
    simp

theorem own_lt {w : World} {v : Value} {n : Nat} {xs : List Value} (h : w.ownsRow 0 5 1 v n xs) : ∀ k, v.ownBlock = some k → k < w.heap.size ∧ ∃ c, w.heap[k]? = some (.cells c 5 (0, 0)) := by
  intro k hk
  rcases h.2 with ⟨rfl, _⟩ | ⟨g, cap, cur, rfl, _, hg, _⟩
  · cases hk
  · simp [Value.ownBlock] at hk
    subst hk
    exact ⟨lt_of_block hg, cur, hg⟩

/-- What holds of w' but for the row of v: blocks of another element type are as they were. -/
theorem grown_other {w w' : World} {v : Value} {n : Nat} {xs : List Value} (hown : w.ownsRow 0 5 1 v n xs) (hg : w.grownBy w' v.ownBlock) {k : Nat} {c : Array Value} {t : TypeId} {f : Nat × Nat} (ht : t ≠ 5) (h : w.heap[k]? = some (.cells c t f)) :
    w'.heap[k]? = some (.cells c t f) := by
  rw [hg.block k (lt_of_block h) ?_]
  · exact h
  · intro e
    obtain ⟨_, c2, h2⟩ := own_lt hown k e.symm
    rw [h2] at h
    simp at h
    exact ht h.2.1.symm

theorem PathR.grown {w w' : World} {v : Value} {n : Nat} {xs : List Value} (hown : w.ownsRow 0 5 1 v n xs) (hg : w.grownBy w' v.ownBlock) : ∀ {r : List ByteArray} {p : Option Addr}, PathR w p r → PathR w' p r
  | [], _, h => h
  | _ :: _, _, ⟨b, hh, e, hc, hr⟩ => ⟨b, hh, e, grown_other hown hg (by decide) hc, PathR.grown hown hg hr⟩

theorem grownBy_trans {w w1 w2 : World} {row row2 : Option Nat} (h1 : w.grownBy w1 row) (h2 : w1.grownBy w2 row2) (hr : ∀ k, row2 = some k → k < w.heap.size → row = some k) : w.grownBy w2 row :=
  ⟨h2.os.trans h1.os, h2.tape.trans h1.tape, h2.output.trans h1.output, Nat.le_trans h1.size h2.size, fun k hk hne => (h2.block k (Nat.lt_of_lt_of_le hk h1.size) (fun e => hne (hr k e.symm hk).symm)).trans (h1.block k hk hne)⟩

theorem grownBy_below {w w1 : World} (row : Option Nat) (h : Below w.heap.size w w1) : w.grownBy w1 row := ⟨h.os, h.tape, h.output, h.size, fun k hk _ => h.block k hk⟩

theorem below_grown {w w1 : World} {B : Nat} {w0 : World} (h0 : Below B w0 w) {row : Option Nat} (h : w.grownBy w1 row) (hB : B ≤ w.heap.size) (hr : ∀ k, row = some k → B ≤ k) : Below B w0 w1 :=
  h0.grown h hB hr

theorem set_block {w : World} {g : Nat} {l : List Value} {t : TypeId} (h : w.heap[g]? = some (.cells l.toArray t (0, 0))) (i : Nat) (u : Value) : (w.setCell ⟨g, i, none⟩ u).heap[g]? = some (.cells (l.set i u).toArray t (0, 0)) := by
  have hlt := lt_of_block h
  simp only [World.setCell, Array.getElem?_modify, if_true, h, Option.map_some]
  simp

theorem cell_at {w : World} {g : Nat} {l : List Value} {t : TypeId} (h : w.heap[g]? = some (.cells l.toArray t (0, 0))) (i : Nat) (hi : i < l.length) : ∃ u, w.cell? ⟨g, i, none⟩ = some u := by
  refine ⟨l[i], ?_⟩
  rw [cell_block h i]
  simp [hi]

theorem free_at {w : World} {g : Nat} {c : Array Value} {t : TypeId} (h : w.heap[g]? = some (.cells c t (0, 0))) (i : Nat) : w.frozen? ⟨g, i, none⟩ = false := by
  simp [World.frozen?, h]

end Go.Proofs.Qxb6603220a
