import Derived.Test.Qxb6603220aAppendB
import Derived.Test.Qxb6603220aClone
namespace Go.Proofs.Qxb6603220a
open Go.RowKit
set_option linter.unusedVariables false

theorem BytesAt.lt {w : World} {a : Option Addr} {ss : List UInt8} (h : BytesAt w a ss) (k : Nat) (hk : k < ss.length) :
    ∃ b off, a = some ⟨b, off, none⟩ ∧ b < w.heap.size ∧ ∀ i, (h : i < ss.length) → w.cell? ⟨b, off + i, none⟩ = some (.int .u8 (ss[i].toNat : Int)) := by
  rcases h with rfl | ⟨b, off, rfl, hc⟩
  · simp at hk
  · refine ⟨b, off, rfl, ?_, hc⟩
    have h1 := hc k hk
    unfold World.cell? at h1
    rcases Nat.lt_or_ge b w.heap.size with h | h
    · exact h
    · rw [Array.getElem?_eq_none h] at h1; cases h1

theorem BytesAt.below {w w' : World} {a : Option Addr} {ss : List UInt8} (h : BytesAt w a ss) (hb : Below w.heap.size w w') : BytesAt w' a ss := by
  rcases Nat.eq_zero_or_pos ss.length with h0 | h0
  · exact .inl (List.length_eq_zero_iff.1 h0)
  · obtain ⟨b, off, rfl, hlt, hc⟩ := h.lt 0 h0
    exact .inr ⟨b, off, rfl, fun i hi => by rw [hb.cell (p := ⟨b, off + i, none⟩) hlt]; exact hc i hi⟩

def prefU (a b : List UInt8) : Bool := decide (b.take a.length = a)

theorem prefU_gt {a b : List UInt8} (h : b.length < a.length) : prefU a b = false := by
  unfold prefU
  apply decide_eq_false
  intro e
  have := congrArg List.length e
  simp at this
  omega

set_option maxHeartbeats 1000000 in
theorem bytesPrefix_any (a : Option Addr) (ca : Nat) (sa : List UInt8) (b : Option Addr) (cb : Nat) (sb : List UInt8) (w : World) (ha : BytesAt w a sa) (hb : BytesAt w b sb) (hla : sa.length < 200000000) (hlb : sb.length < 200000000) :
    Calls Try.prog 22 #[.slice a sa.length ca, .slice b sb.length cb] w fun e w' => e = .returned (.bool (prefU sa sb)) ∧ Below w.heap.size w w' := by
  by_cases hgt : sb.length < sa.length
  · have HP : Hid (prefU sa sb = false) := prefU_gt hgt
    go_enter Try.func22, Try.ntmps22
    go_wp2
    go_ret
    exact ⟨by rw [HP.out]; rfl, Below.refl _ _⟩
  · go_enter Try.func22, Try.ntmps22
    go_wp2
    go_loopw [5] (fun i wr => ∃ (k : Nat), k ≤ sa.length ∧ i = .int .i64 k ∧ (∃ n, wr = w.drewN n) ∧ sb.take k = sa.take k) (fun i _ => sa.length - (intOf i).toNat)
    case atStart => exact ⟨0, Nat.zero_le _, rfl, ⟨0, rfl⟩, rfl⟩
    case round =>
      obtain ⟨k, hk, rfl, ⟨nd, rfl⟩, hpre⟩ := hrel
      have HP : Hid (sb.take k = sa.take k) := hpre
      clear hpre
      by_cases hlt : k < sa.length
      · obtain ⟨ba, oa, rfl, hla', hca⟩ := ha.lt k hlt
        obtain ⟨bb, ob, rfl, hlb', hcb⟩ := hb.lt k (by omega)
        have ck := hca k hlt
        have dk := hcb k (by omega)
        have hkb : k < sb.length := by omega
        clear hca hcb ha hb
        obtain ⟨n, hn⟩ : ∃ n, n = sa[k] := ⟨_, rfl⟩
        obtain ⟨m, hm⟩ : ∃ m, m = sb[k] := ⟨_, rfl⟩
        rw [← hn] at ck
        rw [← hm] at dk
        have HN : Hid (sa.take (k + 1) = sa.take k ++ [n]) := by rw [List.take_succ_eq_append_getElem hlt, hn]; rfl
        have HM : Hid (sb.take (k + 1) = sb.take k ++ [m]) := by rw [List.take_succ_eq_append_getElem hkb, hm]; rfl
        have HX : Hid (n ≠ m → prefU sa sb = false) := by
          intro hne
          apply decide_eq_false
          intro e
          apply hne
          have e1 : (sb.take sa.length)[k]? = sa[k]? := by rw [e]
          rw [List.getElem?_take_of_lt hlt, List.getElem?_eq_getElem hkb, List.getElem?_eq_getElem hlt] at e1
          simp at e1
          rw [hn, hm, e1]
        clear hn hm
        by_cases heq : n = m
        · subst heq
          go_wp2
          go_quiet (fail)
          go_wp2
          go_roundw
          case rel => exact ⟨k + 1, by omega, by go_num, ⟨_, rfl⟩, by rw [HN.out, HM.out, HP.out]⟩
          case measure => simp [intOf]; omega
        · have hne : ((n.toNat : Int) == (m.toNat : Int)) = false := by
            apply beq_eq_false_iff_ne.2
            intro e
            exact heq (UInt8.toNat_inj.1 (by omega))
          have hne2 : ((n.toNat : Int) != (m.toNat : Int)) = true := by rw [bne, hne]; rfl
          have HX2 : Hid (prefU sa sb = false) := HX.out heq
          clear heq
          go_wp2
          go_quiet (fail)
          go_wp2
          go_ret
          exact ⟨by rw [HX2.out]; rfl, below_drewN (below_drewN (Below.refl _ _) _) _⟩
      · have HX : Hid (prefU sa sb = true) := by
          have hk' : k = sa.length := by omega
          apply decide_eq_true
          rw [← hk', HP.out, hk', List.take_length]
        go_wp2
        go_ret
        exact ⟨by rw [HX.out]; rfl, below_drewN (Below.refl _ _) _⟩

theorem below_of_grown {w w' : World} (h : w.grownBy w' none) : Below w.heap.size w w' := ⟨h.os, h.tape, h.output, h.size, fun k hk => h.block k hk (by simp)⟩

theorem zzText_nil (p : Option Addr) (r : List ByteArray) (w : World) (hp : PathR w p r) (hS : (textR r).length < 100000000) :
    Calls Try.prog 14 #[.agg #[.pointer p], .slice none 0 0] w fun e w' => ∃ a c, e = .returned (.slice a (fullR r).length c) ∧ BytesAt w' a (fullR r) ∧ Below w.heap.size w w' := by
  refine (zzAppendText_any p r (.slice none 0 0) [] w hp (World.ownsRow_nil w 0 5 1) (by simpa using hS)).mono ?_
  rintro e w1 ⟨a, c, rfl, hat, G⟩
  exact ⟨a, c, by simp, hat, below_of_grown G⟩

/-! ### The plain laws on texts -/
theorem textR_head (n : ByteArray) (r : List ByteArray) : ∃ t, textR (n :: r) = 47 :: t := by
  induction r generalizing n with
  | nil => exact ⟨_, rfl⟩
  | cons m r ih =>
    obtain ⟨t, ht⟩ := ih m
    exact ⟨t ++ segL n, by rw [textR, ht]; rfl⟩

theorem textR_append (x r : List ByteArray) : ∃ t, textR (x ++ r) = textR r ++ t := by
  induction x with
  | nil => exact ⟨[], by simp⟩
  | cons n x ih =>
    obtain ⟨t, ht⟩ := ih
    exact ⟨t ++ segL n, by rw [List.cons_append, textR, ht, List.append_assoc]⟩

theorem prefU_append (a t : List UInt8) : prefU a (a ++ t) = true := by
  apply decide_eq_true
  exact List.take_left

theorem text_prefix (x r : List ByteArray) : prefU (fullR r) (fullR (x ++ r)) = true := by
  cases r with
  | nil =>
    rw [List.append_nil]
    cases x with
    | nil => exact prefU_append [47] []
    | cons n x =>
      obtain ⟨t, ht⟩ := textR_head n x
      show prefU [47] (textR (n :: x)) = true
      rw [ht]
      exact prefU_append [47] t
  | cons n r =>
    obtain ⟨t, ht⟩ := textR_append x (n :: r)
    have e : fullR (x ++ n :: r) = textR (x ++ n :: r) := by
      cases x with
      | nil => rfl
      | cons m x => rfl
    rw [e, ht]
    exact prefU_append _ _

theorem preS_le (n : ByteArray) : (preS n).size ≤ 7 := by
  unfold preS
  split
  · exact Nat.le_refl _
  · exact Nat.zero_le _

theorem sizes_append (a b : List ByteArray) : sizes (a ++ b) = sizes a + sizes b := by simp [sizes]
theorem sizes_reverse (a : List ByteArray) : sizes a.reverse = sizes a := by simp [sizes]

theorem textR_le (r : List ByteArray) : (textR r).length ≤ 8 * r.length + sizes r := by
  induction r with
  | nil => simp [textR]
  | cons n r ih =>
    rw [textR_cons]
    have h1 := preS_le n
    have h2 : sizes (n :: r) = n.size + sizes r := by simp [sizes]
    unfold segLen
    rw [List.length_cons, h2]
    omega

theorem fullR_le (r : List ByteArray) : (fullR r).length ≤ 1 + (textR r).length := by
  cases r with
  | nil => simp [fullR]
  | cons n r => simp [fullR]

end Go.Proofs.Qxb6603220a
