import Derived.Test.Qxb6603220aModel
import Derived.Deep.DeepCutAuto
namespace Go.Proofs.Qxb6603220a
open Go.RowKit
set_option linter.unusedVariables false

/-- v is a slice of the call's own (its row was made since w) that holds the bytes L; all that was there at w is as it was. -/
def Own (w wr : World) (v : Value) (L : List UInt8) : Prop := wr.ownsRow w.heap.size 5 1 v L.length (Lib.byteCells L) ∧ Below w.heap.size w wr

theorem Own.below {w wr : World} {v : Value} {L : List UInt8} (h : Own w wr v L) : Below w.heap.size w wr := h.2

theorem Own.at {w wr : World} {v : Value} {L : List UInt8} (h : Own w wr v L) (h0 : 0 < L.length) : ∃ a c, v = .slice a L.length c ∧ BytesAt wr a L := by
  refine owns_at ?_ h0
  refine ⟨h.1.1, ?_⟩
  rcases h.1.2 with h1 | ⟨g, cap, cur, h1, _, h2⟩
  · exact .inl h1
  · exact .inr ⟨g, cap, cur, h1, Nat.zero_le _, h2⟩

theorem Own.grown {w wr w' : World} {v v' : Value} {L T : List UInt8} (h : Own w wr v L) (o : Obj) (hg : (wr.alloc o).grownBy w' v.ownBlock) (n : Nat) (hn : n = (L ++ T).length) (xs : List Value) (hx : xs = Lib.byteCells (L ++ T)) (h2 : w'.ownsRow w.heap.size 5 1 v' n xs) : Own w w' v' (L ++ T) := by
  subst hn hx
  exact ⟨h2, (h.2.alloc h.2.size o).grown hg (Nat.le_trans h.2.size (by simp)) (fun k hk => (h.1.lt k hk).1)⟩

theorem Own.grown0 {w wr w' : World} {v v' : Value} {L T : List UInt8} (h : Own w wr v L) (hg : wr.grownBy w' v.ownBlock) (n : Nat) (hn : n = (L ++ T).length) (xs : List Value) (hx : xs = Lib.byteCells (L ++ T)) (h2 : w'.ownsRow w.heap.size 5 1 v' n xs) : Own w w' v' (L ++ T) := by
  subst hn hx
  exact ⟨h2, h.2.grown hg h.2.size (fun k hk => (h.1.lt k hk).1)⟩

/-- 'out = append(out, c)', out the call's own. -/
theorem wpList_app1 {ops : Array Oper} {rest : List Oper} {o : Oper} {a : Act} {Q : Exit → Act → World → Prop} (hgd : o.guard = none) (s x : Operand)
    (ho : o.op = .call { callee := .builtin .append, args := #[s, x], argTypes := #[23, 23] }) (w0 wr : World) (v : Value) (L : List UInt8) (hs : a.eval s = v) (H : Own w0 wr v L) (c : UInt8) (z : Int) (hz : z = (c.toNat : Int))
    (hx : a.eval x = .slice (some ⟨wr.heap.size, 0, none⟩) 1 1) (hL : L.length < 200000000)
    (h : ∀ v' w', Own w0 w' v' (L ++ [c]) → wpList Try.prog ops Q rest (a.put o.dst v') w') : wpList Try.prog ops Q (o :: rest) a (wr.alloc (.cells #[.int .u8 z] 5)) := by
  obtain ⟨i, hi, hz0, hsize, hby⟩ := info_parts infoB
  refine wpList_append_own _ hgd s x 23 ho w0.heap.size 5 i (.int .u8 0) 1 1 Try.underlying23 hi hz0 hsize hby rfl (by decide) v L.length (Lib.byteCells L) hs (H.1.alloc _) ⟨wr.heap.size, 0, none⟩ 1 1 [.int .u8 z] hx rfl ?_ ?_ ?_ ?_ ?_ ?_
  · intro j u hj
    match j, hj with
    | 0, hj => simp at hj; subst hj; simp [Addr.add]
  · intro u hu; simp at hu; subst hu; rfl
  · unfold maxLen; omega
  · omega
  · have := H.2.size; simp; omega
  · intro v' w' h1 h2 _
    exact h v' w' (H.grown _ h2 _ (by simp) _ (by subst hz; simp [Lib.byteCells]) h1)

/-- 'out = append(out, s...)', out the call's own, s a string. -/
theorem wpList_appS {ops : Array Oper} {rest : List Oper} {o : Oper} {a : Act} {Q : Exit → Act → World → Prop} (hgd : o.guard = none) (s x : Operand)
    (ho : o.op = .call { callee := .builtin .append, args := #[s, x], argTypes := #[23, 9] }) (w0 wr : World) (v : Value) (L : List UInt8) (hs : a.eval s = v) (H : Own w0 wr v L) (str : ByteArray)
    (hx : a.eval x = .string str) (hL : L.length + str.size < 200000000)
    (h : ∀ v' w', Own w0 w' v' (L ++ str.data.toList) → wpList Try.prog ops Q rest (a.put o.dst v') w') : wpList Try.prog ops Q (o :: rest) a wr := by
  obtain ⟨i, hi, hz0, hsize, hby⟩ := info_parts infoB
  refine Lib.wpList_append_own_string _ hgd s x 23 9 ho w0.heap.size 5 i Try.underlying23 Try.underlying9 hi hz0 hsize hby v L.length (Lib.byteCells L) hs H.1 str hx (by unfold maxLen; omega) (by omega) H.2.size ?_
  intro v' w' h1 h2 _
  exact h v' w' (H.grown0 h2 _ (by rw [List.length_append, Array.length_toList]; rfl) _ (by simp [Lib.byteCells, Lib.strCells]) h1)

/-! ### The model's text -/
def modelT (ss : List ByteArray) : List UInt8 := (ss.map segL).flatten
def modelM : List ByteArray → List UInt8
  | [] => [47]
  | n :: ss => modelT (n :: ss)

theorem modelT_snoc (ss : List ByteArray) (k : Nat) (h : k < ss.length) : modelT (ss.take (k + 1)) = modelT (ss.take k) ++ segL ss[k] := by
  unfold modelT
  rw [List.take_succ_eq_append_getElem h, List.map_append, List.flatten_append]
  simp

theorem textR_model (ss : List ByteArray) : textR ss.reverse = modelT ss := by
  have h : ∀ r : List ByteArray, textR r = modelT r.reverse := by
    intro r
    induction r with
    | nil => rfl
    | cons n r ih => rw [textR, ih, List.reverse_cons]; simp [modelT]
  rw [h, List.reverse_reverse]

theorem fullR_model (ss : List ByteArray) : fullR ss.reverse = modelM ss := by
  cases ss with
  | nil => rfl
  | cons n ss =>
    have h := textR_model (n :: ss)
    show fullR (n :: ss).reverse = modelT (n :: ss)
    rw [← h]
    cases hr : (n :: ss).reverse with
    | nil => simp at hr
    | cons m r => rfl

theorem modelT_take_le (ss : List ByteArray) (k : Nat) : (modelT (ss.take k)).length ≤ (modelT ss).length := by
  have h : modelT ss = modelT (ss.take k) ++ modelT (ss.drop k) := by
    unfold modelT
    rw [← List.flatten_append, ← List.map_append, List.take_append_drop]
  rw [h, List.length_append]
  omega

theorem take_snoc (s : ByteArray) (k : Nat) (h : k < s.size) : s.data.toList.take (k + 1) = s.data.toList.take k ++ [s[k]] := by
  rw [List.take_succ_eq_append_getElem (by simpa using h)]; rfl

theorem dot_idx (n : ByteArray) (h : 0 < n.size) : dotB n = ((n[0].toNat : Int) == 46) := by
  obtain ⟨⟨l⟩⟩ := n
  cases l with
  | nil => exact absurd h (by simp [ByteArray.size])
  | cons c l =>
    show (c == 46) = ((c.toNat : Int) == 46)
    rw [Bool.eq_iff_iff, beq_iff_eq, beq_iff_eq]
    constructor
    · rintro rfl; rfl
    · intro e; exact UInt8.toNat_inj.1 (by have : c.toNat = 46 := by omega
                                           rw [this]; rfl)

def ModelPost (w : World) (L : List UInt8) (e : Ending) (w' : World) : Prop :=
  ∃ a' c', e = .returned (.slice a' L.length c') ∧ BytesAt w' a' L ∧ Below w.heap.size w w'

set_option maxHeartbeats 4000000 in
theorem modelText_any (a : Option Addr) (ca : Nat) (B : List UInt8) (s : Option Addr) (cs : Nat) (ss : List ByteArray) (w : World) (ha : BytesAt w a B) (hs : StrsAt w s ss) (hB : B.length ≤ 10000000) (hss : ss.length ≤ 10000000) (hM : (modelT ss).length ≤ 10000000) :
    Calls Try.prog 15 #[.slice a B.length ca, .slice s ss.length cs] w fun e w' => ModelPost w (B ++ modelM ss) e w' := by
  obtain ⟨i, hi, hz0, hsize, hby⟩ := info_parts infoB
  go_enter Try.func15, Try.ntmps15
  go_wp2_with (at_make; refine wpList_make_own _ rfl _ _ 23 rfl w.heap.size 5 i (.int .u8 0) 1 Try.underlying23 hi hz0 hsize _ _ _ (B.length + 1) rfl rfl (by omega) ?b1 ?b2 ?b3 ?_)
  case b1 => rw [hby]; omega
  case b2 => unfold maxLen; omega
  case b3 => omega
  intro w1 hown hgr
  have H1 : Own w w1 (.slice (some ⟨w.heap.size, 0, none⟩) 0 (B.length + 1)) [] := ⟨hown, ⟨hgr.os, hgr.tape, hgr.output, hgr.size, fun k hk => hgr.block k hk (by simp)⟩⟩
  clear hown hgr
  go_wp2_with fail
  go_loopw [5, 6] (fun v i wr => ∃ (k : Nat), k ≤ B.length ∧ i = .int .i64 k ∧ Own w wr v (B.take k)) (fun _ i _ => B.length - (intOf i).toNat)
  case atStart => exact ⟨0, Nat.zero_le _, rfl, by simpa using H1⟩
  case round =>
    clear H1
    obtain ⟨k, hk, rfl, hO⟩ := hrel
    by_cases hlt : k < B.length
    · obtain ⟨b, off, rfl, hbl, hc⟩ := ha.lt k hlt
      have ck : wr.cell? ⟨b, off + k, none⟩ = some (.int .u8 (B[k].toNat : Int)) := (hO.below.cell (p := ⟨b, off + k, none⟩) hbl).trans (hc k hlt)
      obtain ⟨c, hcc⟩ : ∃ c, c = B[k] := ⟨_, rfl⟩
      rw [← hcc] at ck
      have HC : Hid (B.take (k + 1) = B.take k ++ [c]) := by rw [List.take_succ_eq_append_getElem hlt, hcc]; rfl
      have hlk : (B.take k).length < 200000000 := by rw [List.length_take]; omega
      clear hc hcc ha hs
      go_wp2_with (at_builtin; refine wpList_app1 rfl (.tmp 20) (.tmp 25) rfl w wr u5 (B.take k) rfl hO c _ rfl rfl hlk ?_)
      intro v' w' hO'
      rw [← HC.out] at hO'
      clear hO
      go_wp2_with fail
      go_roundw
      case rel => exact ⟨k + 1, by omega, by go_num, hO'⟩
      case measure => simp [intOf]; omega
    · have hO2 : Own w wr u5 B := by rw [List.take_of_length_le (by omega)] at hO; exact hO
      clear hO ha hk
      cases ss with
      | nil =>
        go_wp2_with (at_builtin; refine wpList_app1 rfl (.tmp 30) (.tmp 31) rfl w wr u5 B rfl hO2 47 _ rfl rfl (by omega) ?_)
        intro v' w' hO'
        obtain ⟨a', c', hv, hat⟩ := hO'.at (by simp)
        rw [List.length_append] at hv
        subst hv
        go_wp2_with fail
        go_ret
        exact ⟨a', c', by rw [List.length_append]; rfl, hat, hO'.below⟩
      | cons n0 ss0 =>
        obtain ⟨ss, hssd⟩ : ∃ ss, ss = n0 :: ss0 := ⟨_, rfl⟩
        have HSS : Hid (modelM (n0 :: ss0) = modelT ss) := by rw [hssd]; rfl
        have hpos : 0 < ss.length := by rw [hssd]; simp
        rw [← hssd] at hs hss hM ⊢
        clear hssd
        have hne : ((ss.length : Int) == 0) = false := beq_eq_false_iff_ne.2 (by omega)
        go_wp2_with fail
        go_loopw [5, 7] (fun v i wr => ∃ (k : Nat), k ≤ ss.length ∧ i = .int .i64 k ∧ Own w wr v (B ++ modelT (ss.take k))) (fun _ i _ => ss.length - (intOf i).toNat)
        case atStart => exact ⟨0, Nat.zero_le _, rfl, by simpa [modelT] using hO2⟩
        case round =>
          clear hO2 hne hlt
          obtain ⟨k2, hk2, rfl, hO⟩ := hrel
          have hlM := modelT_take_le ss k2
          by_cases hlt2 : k2 < ss.length
          · obtain ⟨b, off, rfl, hbl, hc⟩ := hs.lt k2 hlt2
            have ck : wr.cell? ⟨b, off + k2, none⟩ = some (.string ss[k2]) := (hO.below.cell (p := ⟨b, off + k2, none⟩) hbl).trans (hc k2 hlt2)
            obtain ⟨n, hn⟩ : ∃ n, n = ss[k2] := ⟨_, rfl⟩
            rw [← hn] at ck
            have HM : Hid (B ++ modelT (ss.take (k2 + 1)) = (B ++ modelT (ss.take k2)) ++ segL n) := by
              show _ = _
              rw [modelT_snoc ss k2 hlt2, hn, List.append_assoc]
            have hlM2 := modelT_take_le ss (k2 + 1)
            rw [modelT_snoc ss k2 hlt2, ← hn, List.length_append, segL_length] at hlM2
            obtain ⟨L, hL⟩ : ∃ L, L = B ++ modelT (ss.take k2) := ⟨_, rfl⟩
            have hLl : L.length + segLen n ≤ 20000000 := by rw [hL, List.length_append]; omega
            rw [← hL] at hO HM
            unfold segLen at hLl
            clear hc hs hn hL hlM hlM2
            go_upto_region 13 with (at_builtin; refine wpList_app1 rfl (.tmp 43) (.tmp 44) rfl w wr u5 L rfl hO 47 _ rfl rfl (by omega) ?_; intro v1 w1 hO1)
            go_cut [53] (fun s wx => s = .bool (dotB n) ∧ w1 = wx)
            case first =>
              by_cases h0 : 0 < n.size
              · have HD : Hid (dotB n = ((n[0].toNat : Int) == 46)) := dot_idx n h0
                go_wp2_with fail
                go_meet
                case rel => exact ⟨by rw [HD.out], rfl⟩
              · have HD : Hid (dotB n = false) := dot_empty n h0
                go_wp2_with fail
                go_meet
                case rel => exact ⟨by rw [HD.out], rfl⟩
            case rest =>
              obtain ⟨hs53, rfl⟩ := hcut
              go_upto_if 53 with fail
              go_cut [5] (fun v wx => Own w wx v ((L ++ [47]) ++ (preS n).data.toList))
              case first =>
                cases hd : dotB n with
                | true =>
                  rw [hd] at hs53
                  subst hs53
                  have HP : Hid (preS n = plainS) := if_pos hd
                  clear hd
                  have h7 : plainS.size = 7 := rfl
                  go_wp2_with (at_builtin; refine wpList_appS rfl (.tmp 54) (.const (.string plainS)) rfl w w1 v1 (L ++ [47]) rfl hO1 plainS rfl (by rw [h7]; simp; omega) ?_)
                  intro v2 w2 hO2
                  go_wp2_with fail
                  go_meet
                  case rel => rw [HP.out]; simpa using hO2
                | false =>
                  rw [hd] at hs53
                  subst hs53
                  have HP : Hid (preS n = ByteArray.empty) := if_neg (by rw [hd]; simp)
                  clear hd
                  go_wp2_with fail
                  go_meet
                  case rel => rw [HP.out]; simpa using hO1
              case rest =>
                obtain ⟨L1, hL1⟩ : ∃ L1, L1 = (L ++ [47]) ++ (preS n).data.toList := ⟨_, rfl⟩
                rw [← hL1] at hcut
                have HL1 : Hid (L1 ++ n.data.toList = L ++ segL n) := by
                  show _ = _
                  rw [hL1]; simp [segL]
                have hL1l : L1.length + n.size ≤ 20000000 := by
                  have : L1.length = L.length + 1 + (preS n).size := by rw [hL1, List.length_append, List.length_append, Array.length_toList]; rfl
                  omega
                clear hL1 hO1 hO ck hs53
                go_wp2_with fail
                obtain ⟨wo, hwo⟩ : ∃ wo : World, wo = wr := ⟨_, rfl⟩
                go_loopw [5, 9] (fun v j wr2 => ∃ (m : Nat), m ≤ n.size ∧ j = .int .i64 m ∧ Own w wr2 v (L1 ++ n.data.toList.take m)) (fun _ j _ => n.size - (intOf j).toNat)
                case atStart => exact ⟨0, Nat.zero_le _, rfl, by simpa using hcut⟩
                case round =>
                  clear hcut hwo
                  obtain ⟨m, hm, rfl, hO⟩ := hrel
                  by_cases hlm : m < n.size
                  · have HT : Hid (L1 ++ n.data.toList.take (m + 1) = L1 ++ (n.data.toList.take m ++ [n[m]])) := by
                      show _ = _
                      rw [take_snoc n m hlm]
                    have hlk : (L1 ++ n.data.toList.take m).length < 200000000 := by have := List.length_take_le m n.data.toList; rw [List.length_append]; omega
                    go_wp2_with (at_builtin; refine wpList_app1 rfl (.tmp 62) (.tmp 66) rfl w wr u5 (L1 ++ n.data.toList.take m) rfl hO n[m] _ rfl rfl hlk ?_)
                    intro v' w' hO'
                    rw [← HT.out] at hO'
                    clear hO
                    go_wp2_with fail
                    go_roundw
                    case rel => exact ⟨m + 1, by omega, by go_num, hO'⟩
                    case measure => simp [intOf]; omega
                  · have hO3 : Own w wr u5 (B ++ modelT (ss.take (k2 + 1))) := by
                      rw [HM.out, ← HL1.out]
                      rw [List.take_of_length_le (by rw [Array.length_toList]; show n.size ≤ m; omega)] at hO
                      exact hO
                    clear hO hm
                    go_wp2_with fail
                    go_roundw
                    case rel => exact ⟨k2 + 1, by omega, by go_num, hO3⟩
                    case measure => simp [intOf]; omega
          · have hO3 : Own w wr u5 (B ++ modelT ss) := by rw [List.take_of_length_le (by omega)] at hO; exact hO
            have hp3 : 0 < (B ++ modelT ss).length := by
              cases ss with
              | nil => simp at hpos
              | cons n ss => rw [List.length_append]; simp [modelT, segL]; omega
            obtain ⟨a', c', hv, hat⟩ := hO3.at hp3
            clear hO
            subst hv
            go_wp2_with fail
            go_ret
            exact ⟨a', c', by rw [HSS.out]; rfl, by rw [HSS.out]; exact hat, hO3.below⟩

end Go.Proofs.Qxb6603220a
