import Derived.Test.Qxb6603220aReads
namespace Go.Proofs.Qxb6603220a
open Go.RowKit
set_option linter.unusedVariables false

set_option maxHeartbeats 2000000 in
theorem bytes20_any (a : Option Addr) (ca : Nat) (sa : List ByteArray) (c : Option Addr) (cc : Nat) (sc : List ByteArray) (d : Option Addr) (cd : Nat) (sd : List ByteArray) (w : World) (ha : StrsAt w a sa) (hla : sa.length ≤ 9223372036854775807) (hc : StrsAt w c sc) (hlc : sc.length ≤ 9223372036854775807) (hd : StrsAt w d sd) (hld : sd.length ≤ 9223372036854775807) :
    Calls Try.prog 20 #[.slice a sa.length ca, .slice c sc.length cc, .slice d sd.length cd] w fun e w' => SomeBool e ∧ w' = w := by
  by_cases g1 : (1048576 : Int) < (sa.length : Int)
  · go_enter Try.func20, Try.ntmps20
    go_wp2
    go_ret
    exact ⟨⟨_, rfl⟩, rfl⟩
  · go_enter Try.func20, Try.ntmps20
    go_wp2
    go_loop [7, 8] (fun c i => ∃ (k : Nat) (v : Int), k ≤ sa.length ∧ i = .int .i64 k ∧ c = .int .i64 v ∧ 0 ≤ v ∧ v ≤ 1048576) (fun _ i => sa.length - (intOf i).toNat)
    case atStart => exact ⟨0, (sa.length : Int), Nat.zero_le _, rfl, rfl, by omega, by omega⟩
    case round =>
      obtain ⟨k0, v0, hk0, rfl, rfl, hv0, hw0⟩ := hrel
      by_cases hlt : k0 < sa.length
      · obtain ⟨ba, oa, rfl, hla', hca⟩ := ha.lt k0 hlt
        have ck := hca k0 hlt
        obtain ⟨n, hn⟩ : ∃ n, n = sa[k0] := ⟨_, rfl⟩
        rw [← hn] at ck
        clear hca hn ha hc hd
        by_cases hgt : (1048576 : Int) < (n.size : Int)
        · go_wp2
          go_ret
          exact ⟨⟨_, rfl⟩, rfl⟩
        by_cases hgt2 : (1048576 : Int) < v0 + (n.size : Int)
        · go_wp2
          go_ret
          exact ⟨⟨_, rfl⟩, rfl⟩
        go_wp2
        go_round
        case rel => exact ⟨k0 + 1, v0 + n.size, by omega, by go_num, by go_num, by omega, by omega⟩
        case measure => simp [intOf]; omega
      clear ha g1 hla
      by_cases g1 : (1048576 : Int) < (sc.length : Int)
      · go_wp2
        go_ret
        exact ⟨⟨_, rfl⟩, rfl⟩
      by_cases g2 : (1048576 : Int) < v0 + (sc.length : Int)
      · go_wp2
        go_ret
        exact ⟨⟨_, rfl⟩, rfl⟩
      go_wp2
      go_loop [7, 9] (fun c i => ∃ (k : Nat) (v : Int), k ≤ sc.length ∧ i = .int .i64 k ∧ c = .int .i64 v ∧ 0 ≤ v ∧ v ≤ 1048576) (fun _ i => sc.length - (intOf i).toNat)
      case atStart => exact ⟨0, v0 + (sc.length : Int), Nat.zero_le _, rfl, rfl, by omega, by omega⟩
      case round =>
        clear hk0 hv0 hw0 g2
        obtain ⟨k1, v1, hk1, rfl, rfl, hv1, hw1⟩ := hrel
        by_cases hlt : k1 < sc.length
        · obtain ⟨ba, oa, rfl, hla', hca⟩ := hc.lt k1 hlt
          have ck := hca k1 hlt
          obtain ⟨n, hn⟩ : ∃ n, n = sc[k1] := ⟨_, rfl⟩
          rw [← hn] at ck
          clear hca hn hc hd
          by_cases hgt : (1048576 : Int) < (n.size : Int)
          · go_wp2
            go_ret
            exact ⟨⟨_, rfl⟩, rfl⟩
          by_cases hgt2 : (1048576 : Int) < v1 + (n.size : Int)
          · go_wp2
            go_ret
            exact ⟨⟨_, rfl⟩, rfl⟩
          go_wp2
          go_round
          case rel => exact ⟨k1 + 1, v1 + n.size, by omega, by go_num, by go_num, by omega, by omega⟩
          case measure => simp [intOf]; omega
        clear hc g1 hlc
        by_cases g1 : (1048576 : Int) < (sd.length : Int)
        · go_wp2
          go_ret
          exact ⟨⟨_, rfl⟩, rfl⟩
        by_cases g2 : (1048576 : Int) < v1 + (sd.length : Int)
        · go_wp2
          go_ret
          exact ⟨⟨_, rfl⟩, rfl⟩
        go_wp2
        go_loop [7, 10] (fun c i => ∃ (k : Nat) (v : Int), k ≤ sd.length ∧ i = .int .i64 k ∧ c = .int .i64 v ∧ 0 ≤ v ∧ v ≤ 1048576) (fun _ i => sd.length - (intOf i).toNat)
        case atStart => exact ⟨0, v1 + (sd.length : Int), Nat.zero_le _, rfl, rfl, by omega, by omega⟩
        case round =>
          clear hk1 hv1 hw1 g2
          obtain ⟨k2, v2, hk2, rfl, rfl, hv2, hw2⟩ := hrel
          by_cases hlt : k2 < sd.length
          · obtain ⟨ba, oa, rfl, hla', hca⟩ := hd.lt k2 hlt
            have ck := hca k2 hlt
            obtain ⟨n, hn⟩ : ∃ n, n = sd[k2] := ⟨_, rfl⟩
            rw [← hn] at ck
            clear hca hn hd
            by_cases hgt : (1048576 : Int) < (n.size : Int)
            · go_wp2
              go_ret
              exact ⟨⟨_, rfl⟩, rfl⟩
            by_cases hgt2 : (1048576 : Int) < v2 + (n.size : Int)
            · go_wp2
              go_ret
              exact ⟨⟨_, rfl⟩, rfl⟩
            go_wp2
            go_round
            case rel => exact ⟨k2 + 1, v2 + n.size, by omega, by go_num, by go_num, by omega, by omega⟩
            case measure => simp [intOf]; omega
          clear hd g1 hld
          go_wp2
          go_ret
          exact ⟨⟨_, rfl⟩, rfl⟩

set_option maxHeartbeats 2000000 in
theorem bytes21_any (a : Option Addr) (ca : Nat) (sa : List ByteArray) (c : Option Addr) (cc : Nat) (sc : List ByteArray) (w : World) (ha : StrsAt w a sa) (hla : sa.length ≤ 9223372036854775807) (hc : StrsAt w c sc) (hlc : sc.length ≤ 9223372036854775807) :
    Calls Try.prog 21 #[.slice a sa.length ca, .slice c sc.length cc] w fun e w' => SomeBool e ∧ w' = w := by
  by_cases g1 : (1048576 : Int) < (sa.length : Int)
  · go_enter Try.func21, Try.ntmps21
    go_wp2
    go_ret
    exact ⟨⟨_, rfl⟩, rfl⟩
  · go_enter Try.func21, Try.ntmps21
    go_wp2
    go_loop [5, 6] (fun c i => ∃ (k : Nat) (v : Int), k ≤ sa.length ∧ i = .int .i64 k ∧ c = .int .i64 v ∧ 0 ≤ v ∧ v ≤ 1048576) (fun _ i => sa.length - (intOf i).toNat)
    case atStart => exact ⟨0, (sa.length : Int), Nat.zero_le _, rfl, rfl, by omega, by omega⟩
    case round =>
      obtain ⟨k0, v0, hk0, rfl, rfl, hv0, hw0⟩ := hrel
      by_cases hlt : k0 < sa.length
      · obtain ⟨ba, oa, rfl, hla', hca⟩ := ha.lt k0 hlt
        have ck := hca k0 hlt
        obtain ⟨n, hn⟩ : ∃ n, n = sa[k0] := ⟨_, rfl⟩
        rw [← hn] at ck
        clear hca hn ha hc
        by_cases hgt : (1048576 : Int) < (n.size : Int)
        · go_wp2
          go_ret
          exact ⟨⟨_, rfl⟩, rfl⟩
        by_cases hgt2 : (1048576 : Int) < v0 + (n.size : Int)
        · go_wp2
          go_ret
          exact ⟨⟨_, rfl⟩, rfl⟩
        go_wp2
        go_round
        case rel => exact ⟨k0 + 1, v0 + n.size, by omega, by go_num, by go_num, by omega, by omega⟩
        case measure => simp [intOf]; omega
      clear ha g1 hla
      by_cases g1 : (1048576 : Int) < (sc.length : Int)
      · go_wp2
        go_ret
        exact ⟨⟨_, rfl⟩, rfl⟩
      by_cases g2 : (1048576 : Int) < v0 + (sc.length : Int)
      · go_wp2
        go_ret
        exact ⟨⟨_, rfl⟩, rfl⟩
      go_wp2
      go_loop [5, 7] (fun c i => ∃ (k : Nat) (v : Int), k ≤ sc.length ∧ i = .int .i64 k ∧ c = .int .i64 v ∧ 0 ≤ v ∧ v ≤ 1048576) (fun _ i => sc.length - (intOf i).toNat)
      case atStart => exact ⟨0, v0 + (sc.length : Int), Nat.zero_le _, rfl, rfl, by omega, by omega⟩
      case round =>
        clear hk0 hv0 hw0 g2
        obtain ⟨k1, v1, hk1, rfl, rfl, hv1, hw1⟩ := hrel
        by_cases hlt : k1 < sc.length
        · obtain ⟨ba, oa, rfl, hla', hca⟩ := hc.lt k1 hlt
          have ck := hca k1 hlt
          obtain ⟨n, hn⟩ : ∃ n, n = sc[k1] := ⟨_, rfl⟩
          rw [← hn] at ck
          clear hca hn hc
          by_cases hgt : (1048576 : Int) < (n.size : Int)
          · go_wp2
            go_ret
            exact ⟨⟨_, rfl⟩, rfl⟩
          by_cases hgt2 : (1048576 : Int) < v1 + (n.size : Int)
          · go_wp2
            go_ret
            exact ⟨⟨_, rfl⟩, rfl⟩
          go_wp2
          go_round
          case rel => exact ⟨k1 + 1, v1 + n.size, by omega, by go_num, by go_num, by omega, by omega⟩
          case measure => simp [intOf]; omega
        clear hc g1 hlc
        go_wp2
        go_ret
        exact ⟨⟨_, rfl⟩, rfl⟩

set_option maxHeartbeats 2000000 in
theorem bytes8_any (a : Option Addr) (ca : Nat) (sa : List ByteArray) (b : Option Addr) (lb cb : Nat) (w : World) (ha : StrsAt w a sa) (hla : sa.length ≤ 9223372036854775807) (hlb : lb ≤ 9223372036854775807) :
    Calls Try.prog 8 #[.slice a sa.length ca, .slice b lb cb] w fun e w' => SomeBool e ∧ w' = w := by
  by_cases g1 : (1048576 : Int) < (sa.length : Int)
  · go_enter Try.func8, Try.ntmps8
    go_wp2
    go_ret
    exact ⟨⟨_, rfl⟩, rfl⟩
  · go_enter Try.func8, Try.ntmps8
    go_wp2
    go_loop [5, 6] (fun c i => ∃ (k : Nat) (v : Int), k ≤ sa.length ∧ i = .int .i64 k ∧ c = .int .i64 v ∧ 0 ≤ v ∧ v ≤ 1048576) (fun _ i => sa.length - (intOf i).toNat)
    case atStart => exact ⟨0, (sa.length : Int), Nat.zero_le _, rfl, rfl, by omega, by omega⟩
    case round =>
      obtain ⟨k0, v0, hk0, rfl, rfl, hv0, hw0⟩ := hrel
      by_cases hlt : k0 < sa.length
      · obtain ⟨ba, oa, rfl, hla', hca⟩ := ha.lt k0 hlt
        have ck := hca k0 hlt
        obtain ⟨n, hn⟩ : ∃ n, n = sa[k0] := ⟨_, rfl⟩
        rw [← hn] at ck
        clear hca hn ha
        by_cases hgt : (1048576 : Int) < (n.size : Int)
        · go_wp2
          go_ret
          exact ⟨⟨_, rfl⟩, rfl⟩
        by_cases hgt2 : (1048576 : Int) < v0 + (n.size : Int)
        · go_wp2
          go_ret
          exact ⟨⟨_, rfl⟩, rfl⟩
        go_wp2
        go_round
        case rel => exact ⟨k0 + 1, v0 + n.size, by omega, by go_num, by go_num, by omega, by omega⟩
        case measure => simp [intOf]; omega
      clear ha g1 hla
      by_cases g1 : (1048576 : Int) < (lb : Int)
      · go_wp2
        go_ret
        exact ⟨⟨_, rfl⟩, rfl⟩
      by_cases g2 : (1048576 : Int) < v0 + (lb : Int)
      · go_wp2
        go_ret
        exact ⟨⟨_, rfl⟩, rfl⟩
      go_wp2
      go_ret
      exact ⟨⟨_, rfl⟩, rfl⟩

end Go.Proofs.Qxb6603220a
