import Derived.Test.Qxb6603220aBuild
import Derived.Test.Qxb6603220aEq30
namespace Go.Proofs.Qxb6603220a
open Go.RowKit
set_option linter.unusedVariables false

/-! ### zzB1IsPrefix -/
def prefB (a b : List ByteArray) : Bool := decide (b.take a.length = a)

theorem prefB_gt {a b : List ByteArray} (h : b.length < a.length) : prefB a b = false := by
  unfold prefB
  apply decide_eq_false
  intro e
  have := congrArg List.length e
  simp at this
  omega

set_option maxHeartbeats 1000000 in
theorem isPrefix_any (a : Option Addr) (ca : Nat) (sa : List ByteArray) (b : Option Addr) (cb : Nat) (sb : List ByteArray) (w : World) (ha : StrsAt w a sa) (hb : StrsAt w b sb) (hla : sa.length < 2000000) (hlb : sb.length < 2000000) :
    Calls Try.prog 19 #[.slice a sa.length ca, .slice b sb.length cb] w fun e w' => e = .returned (.bool (prefB sa sb)) ∧ Below w.heap.size w w' := by
  by_cases hgt : sb.length < sa.length
  · have HP : Hid (prefB sa sb = false) := prefB_gt hgt
    go_enter Try.func19, Try.ntmps19
    go_wp2
    go_ret
    exact ⟨by rw [HP.out]; rfl, Below.refl _ _⟩
  · go_enter Try.func19, Try.ntmps19
    go_wp2
    go_loopw [5] (fun i wr => ∃ (k : Nat), k ≤ sa.length ∧ i = .int .i64 k ∧ (∃ n, wr = w.drewN n) ∧ sb.take k = sa.take k) (fun i _ => sa.length - (intOf i).toNat)
    case atStart => exact ⟨0, Nat.zero_le _, rfl, ⟨0, rfl⟩, rfl⟩
    case round =>
      obtain ⟨k, hk, rfl, ⟨nd, rfl⟩, hpre⟩ := hrel
      have HP : Hid (sb.take k = sa.take k) := hpre
      clear hpre
      by_cases hlt : k < sa.length
      · obtain ⟨ba, oa, rfl, hla', hca⟩ := ha.lt k hlt
        obtain ⟨bb, ob, rfl, hlb', hcb⟩ := hb.lt k (by omega)
        have ck := hca k hlt
        have dk := hcb k (by omega)
        have hkb : k < sb.length := by omega
        clear hca hcb ha hb
        obtain ⟨n, hn⟩ : ∃ n, n = sa[k] := ⟨_, rfl⟩
        obtain ⟨m, hm⟩ : ∃ m, m = sb[k] := ⟨_, rfl⟩
        rw [← hn] at ck
        rw [← hm] at dk
        have HN : Hid (sa.take (k + 1) = sa.take k ++ [n]) := by rw [List.take_succ_eq_append_getElem hlt, hn]; rfl
        have HM : Hid (sb.take (k + 1) = sb.take k ++ [m]) := by rw [List.take_succ_eq_append_getElem hkb, hm]; rfl
        have HX : Hid (n ≠ m → prefB sa sb = false) := by
          intro hne
          apply decide_eq_false
          intro e
          apply hne
          have e1 : (sb.take sa.length)[k]? = sa[k]? := by rw [e]
          rw [List.getElem?_take_of_lt hlt, List.getElem?_eq_getElem hkb, List.getElem?_eq_getElem hlt] at e1
          simp at e1
          rw [hn, hm, e1]
        clear hn hm
        by_cases heq : n = m
        · subst heq
          go_wp2
          go_quiet (fail)
          go_wp2
          go_roundw
          case rel => exact ⟨k + 1, by omega, by go_num, ⟨_, rfl⟩, by rw [HN.out, HM.out, HP.out]⟩
          case measure => simp [intOf]; omega
        · have hne := bytes_ne heq
          have HX2 : Hid (prefB sa sb = false) := HX.out heq
          clear heq
          go_wp2
          go_quiet (fail)
          go_wp2
          go_ret
          exact ⟨by rw [HX2.out]; rfl, below_drewN (below_drewN (Below.refl _ _) _) _⟩
      · have HX : Hid (prefB sa sb = true) := by
          have hk' : k = sa.length := by omega
          apply decide_eq_true
          rw [← hk', HP.out, hk', List.take_length]
        go_wp2
        go_ret
        exact ⟨by rw [HX.out]; rfl, below_drewN (Below.refl _ _) _⟩

/-! ### zzB1Spend -/
def sizes (ss : List ByteArray) : Nat := (ss.map ByteArray.size).sum

theorem sizes_snoc (ss : List ByteArray) (k : Nat) (h : k < ss.length) : sizes (ss.take (k + 1)) = sizes (ss.take k) + ss[k].size := by
  unfold sizes
  rw [List.take_succ_eq_append_getElem h, List.map_append, List.sum_append]
  simp

set_option maxHeartbeats 1000000 in
theorem spend_any (bud : Int) (a : Option Addr) (ca : Nat) (sa : List ByteArray) (w : World) (ha : StrsAt w a sa) (hla : sa.length < 2000000) (h1 : -1 ≤ bud) (h2 : bud ≤ 1048576) :
    Calls Try.prog 9 #[.int .i64 bud, .slice a sa.length ca] w fun e w' => (∃ n : Int, e = .returned (.int .i64 n) ∧ -1 ≤ n ∧ n ≤ 1048576 ∧ (0 ≤ n → 0 ≤ bud ∧ n + 16 * sa.length + sizes sa = bud)) ∧ w' = w := by
  by_cases h0 : bud < 0
  · go_enter Try.func9, Try.ntmps9
    go_wp2
    go_ret
    exact ⟨⟨-1, rfl, by omega, by omega, by omega⟩, rfl⟩
  · by_cases h3 : bud / 16 < (sa.length : Int)
    · go_enter Try.func9, Try.ntmps9
      go_wp2
      go_ret
      exact ⟨⟨-1, rfl, by omega, by omega, by omega⟩, rfl⟩
    · go_enter Try.func9, Try.ntmps9
      go_wp2
      go_loop [0, 5] (fun c i => ∃ (k : Nat) (v : Int), k ≤ sa.length ∧ i = .int .i64 k ∧ c = .int .i64 v ∧ 0 ≤ v ∧ v + 16 * sa.length + sizes (sa.take k) = bud) (fun _ i => sa.length - (intOf i).toNat)
      case atStart => exact ⟨0, bud - 16 * sa.length, Nat.zero_le _, rfl, by go_num, by omega, by simp [sizes]⟩
      case round =>
        obtain ⟨k, v, hk, rfl, rfl, hv, hs⟩ := hrel
        have HS : Hid (v + 16 * sa.length + sizes (sa.take k) = bud) := hs
        have hvb : v ≤ 1048576 := by omega
        clear hs
        by_cases hlt : k < sa.length
        · obtain ⟨ba, oa, rfl, hla', hca⟩ := ha.lt k hlt
          have ck := hca k hlt
          obtain ⟨n, hn⟩ : ∃ n, n = sa[k] := ⟨_, rfl⟩
          rw [← hn] at ck
          have HN : Hid (sizes (sa.take (k + 1)) = sizes (sa.take k) + n.size) := by rw [hn]; exact sizes_snoc sa k hlt
          clear hca ha hn
          by_cases hgt : v < (n.size : Int)
          · go_wp2
            go_ret
            exact ⟨⟨-1, rfl, by omega, by omega, by omega⟩, rfl⟩
          · go_wp2
            go_round
            case rel => exact ⟨k + 1, v - n.size, by omega, by go_num, by go_num, by omega, by rw [HN.out]; have := HS.out; omega⟩
            case measure => simp [intOf]; omega
        · have hk' : sa.take k = sa := List.take_of_length_le (by omega)
          have HS2 : Hid (v + 16 * sa.length + sizes sa = bud) := by have := HS.out; rw [hk'] at this; exact this
          clear hk'
          go_wp2
          go_ret
          exact ⟨⟨v, rfl, by omega, by omega, fun _ => HS2.out⟩, rfl⟩

/-! ### zzBytes_..: it answers, and writes nothing -/
def SomeBool (e : Ending) : Prop := ∃ t : Bool, e = .returned (.bool t)

set_option maxHeartbeats 1000000 in
theorem bytes17_any (a : Option Addr) (ca : Nat) (sa : List ByteArray) (b : Option Addr) (cb : Nat) (sb : List ByteArray) (w : World) (ha : StrsAt w a sa) (hb : StrsAt w b sb) (hla : sa.length ≤ 9223372036854775807) (hlb : sb.length ≤ 9223372036854775807) :
    Calls Try.prog 17 #[.slice a sa.length ca, .slice b sb.length cb] w fun e w' => SomeBool e ∧ w' = w := by
  by_cases h1 : (1048576 : Int) < (sa.length : Int)
  · go_enter Try.func17, Try.ntmps17
    go_wp2
    go_ret
    exact ⟨⟨_, rfl⟩, rfl⟩
  · go_enter Try.func17, Try.ntmps17
    go_wp2
    go_loop [5, 6] (fun c i => ∃ (k : Nat) (v : Int), k ≤ sa.length ∧ i = .int .i64 k ∧ c = .int .i64 v ∧ 0 ≤ v ∧ v ≤ 1048576) (fun _ i => sa.length - (intOf i).toNat)
    case atStart => exact ⟨0, sa.length, Nat.zero_le _, rfl, rfl, by omega, by omega⟩
    case round =>
      obtain ⟨k, v, hk, rfl, rfl, hv, hv2⟩ := hrel
      by_cases hlt : k < sa.length
      · obtain ⟨ba, oa, rfl, hla', hca⟩ := ha.lt k hlt
        have ck := hca k hlt
        obtain ⟨n, hn⟩ : ∃ n, n = sa[k] := ⟨_, rfl⟩
        rw [← hn] at ck
        clear hca ha hn hb
        by_cases hgt : (1048576 : Int) < (n.size : Int)
        · go_wp2
          go_ret
          exact ⟨⟨_, rfl⟩, rfl⟩
        · by_cases hgt2 : (1048576 : Int) < v + (n.size : Int)
          · go_wp2
            go_ret
            exact ⟨⟨_, rfl⟩, rfl⟩
          · go_wp2
            go_round
            case rel => exact ⟨k + 1, v + n.size, by omega, by go_num, by go_num, by omega, by omega⟩
            case measure => simp [intOf]; omega
      · clear ha h1 hla
        by_cases h1 : (1048576 : Int) < (sb.length : Int)
        · go_wp2
          go_ret
          exact ⟨⟨_, rfl⟩, rfl⟩
        · by_cases h2 : (1048576 : Int) < v + (sb.length : Int)
          · go_wp2
            go_ret
            exact ⟨⟨_, rfl⟩, rfl⟩
          · go_wp2
            go_loop [5, 7] (fun c i => ∃ (k : Nat) (v : Int), k ≤ sb.length ∧ i = .int .i64 k ∧ c = .int .i64 v ∧ 0 ≤ v ∧ v ≤ 1048576) (fun _ i => sb.length - (intOf i).toNat)
            case atStart => exact ⟨0, v + sb.length, Nat.zero_le _, rfl, rfl, by omega, by omega⟩
            case round =>
              clear hk hv hv2 hlt h2
              obtain ⟨k2, v2, hk, rfl, rfl, hv, hv2⟩ := hrel
              by_cases hlt2 : k2 < sb.length
              · obtain ⟨ba, oa, rfl, hla', hca⟩ := hb.lt k2 hlt2
                have ck := hca k2 hlt2
                obtain ⟨n, hn⟩ : ∃ n, n = sb[k2] := ⟨_, rfl⟩
                rw [← hn] at ck
                clear hca hn hb
                by_cases hgt : (1048576 : Int) < (n.size : Int)
                · go_wp2
                  go_ret
                  exact ⟨⟨_, rfl⟩, rfl⟩
                · by_cases hgt2 : (1048576 : Int) < v2 + (n.size : Int)
                  · go_wp2
                    go_ret
                    exact ⟨⟨_, rfl⟩, rfl⟩
                  · go_wp2
                    go_round
                    case rel => exact ⟨k2 + 1, v2 + n.size, by omega, by go_num, by go_num, by omega, by omega⟩
                    case measure => simp [intOf]; omega
              · go_wp2
                go_ret
                exact ⟨⟨_, rfl⟩, rfl⟩

end Go.Proofs.Qxb6603220a
