import Derived.Test.Qxb6603220aNestedC
import Derived.Test.Qxb6603220aAddB
namespace Go.Proofs.Qxb6603220a
open Go.RowKit
set_option linter.unusedVariables false

def ValidPost (P : List (List ByteArray)) (zs : List Int) (n : Nat) (w : World) (e : Ending) (w' : World) : Prop :=
  ∃ t : Bool, e = .returned (.bool t) ∧ (t = true → Valid P zs n) ∧ Below w.heap.size w w'

theorem Valid.succ {P : List (List ByteArray)} {zs : List Int} {k : Nat} (h : Valid P zs k) (h1 : zs.getD k 0 = 1 ∨ zs.getD k 0 = -1) (h2 : zs.getD k 0 = -1 → 0 < S P zs (fun s => decide (s = P.getD k [])) k) : Valid P zs (k + 1) := by
  intro i hi
  by_cases e : i < k
  · exact h i e
  · obtain rfl : i = k := by omega
    exact ⟨h1, h2⟩

set_option maxHeartbeats 4000000 in
theorem scriptValid_any (a : Option Addr) (ca : Nat) (rows : List NRow) (b : Option Addr) (cb : Nat) (zs : List Int) (w : World) (ha : NestedAt w a rows) (hb : IntsAt w b zs) (hrl : ∀ i, (h : i < rows.length) → rows[i].ss.length < 2000000) (hl1 : rows.length ≤ 100000) (hl2 : zs.length ≤ 100000) :
    Calls Try.prog 24 #[.slice a rows.length ca, .slice b zs.length cb] w fun e w' => ValidPost (pathsOf rows) zs (min rows.length zs.length) w e w' := by
  obtain ⟨n, hn⟩ : ∃ n, n = min rows.length zs.length := ⟨_, rfl⟩
  have HN : Hid (n = min rows.length zs.length) := hn
  have hn1 : n ≤ rows.length := by omega
  have hn2 : n ≤ zs.length := by omega
  have HRL : Hid (∀ i, (h : i < rows.length) → rows[i].ss.length < 2000000) := hrl
  clear hrl hn
  go_enter Try.func24, Try.ntmps24
  go_wp2_with fail
  refine (min_any rows.length zs.length _ (by omega) (by omega)).mono ?_
  rintro e w1 ⟨rfl, hw1⟩
  subst hw1
  rw [← HN.out]
  go_wp2_with fail
  go_loopw [6] (fun i wr => ∃ k : Nat, k ≤ n ∧ i = .int .i64 k ∧ Valid (pathsOf rows) zs k ∧ Below w1.heap.size w1 wr) (fun i _ => n - (intOf i).toNat)
  case atStart => exact ⟨0, Nat.zero_le _, rfl, fun i hi => absurd hi (by omega), Below.refl _ _⟩
  case round =>
    obtain ⟨k, hk, rfl, hv, hbel⟩ := hrel
    have HV : Hid (Valid (pathsOf rows) zs k) := hv
    clear hv
    by_cases hlt : k < n
    · obtain ⟨ba, oa, rfl, hla', hca⟩ := ha.lt k (by omega)
      obtain ⟨bb, ob, rfl, hlb', hcb⟩ := hb.lt k (by omega)
      have hkr : k < rows.length := by omega
      have hkz : k < zs.length := by omega
      have hkr2 : (k : Int) < (rows.length : Int) := by omega
      have hkz2 : (k : Int) < (zs.length : Int) := by omega
      obtain ⟨z, hz⟩ : ∃ z, z = zs[k] := ⟨_, rfl⟩
      have hzg : zs.getD k 0 = z := by rw [ints_getD zs k hkz, hz]
      have dk : wr.cell? ⟨bb, ob + k, none⟩ = some (.int .i64 z) := by rw [hz]; exact (hbel.cell (p := ⟨bb, ob + k, none⟩) hlb').trans (hcb k hkz)
      by_cases h1 : z = 1
      · subst h1
        have HV2 : Hid (Valid (pathsOf rows) zs (k + 1)) := HV.out.succ (.inl hzg) (fun e => by rw [hzg] at e; omega)
        clear hca hcb hz hzg
        go_wp2_with fail
        go_roundw
        case rel => exact ⟨k + 1, by omega, by go_num, HV2.out, hbel⟩
        case measure => simp [intOf]; omega
      by_cases h2 : z = -1
      · subst h2
        have HZ : Hid (zs.getD k 0 = -1) := hzg
        have HCA : Hid (∀ i, (h : i < rows.length) → w1.cell? ⟨ba, oa + i, none⟩ = some (.slice rows[i].a rows[i].ss.length rows[i].cap) ∧ IsStrs w1 rows[i].a rows[i].ss) := hca
        have HCB : Hid (∀ i, (h : i < zs.length) → w1.cell? ⟨bb, ob + i, none⟩ = some (.int .i64 zs[i])) := hcb
        obtain ⟨row, hrow⟩ : ∃ row, row = rows[k] := ⟨_, rfl⟩
        have HROW : Hid ((pathsOf rows).getD k [] = row.ss) := by
          show _ = _
          rw [pathsOf_getD rows k hkr, hrow]
        have hc0 := (hca k hkr).1
        have hs0 := (hca k hkr).2
        rw [← hrow] at hc0 hs0
        have hrl : row.ss.length < 2000000 := by rw [hrow]; exact HRL.out k hkr
        clear hca hcb hz hzg ha hb h1 hrow
        go_wp2_with fail
        clear dk
        go_loopw [7, 8] (fun o j wr2 => ∃ (m : Nat) (x : Int), m ≤ k ∧ j = .int .i64 m ∧ o = .int .i64 x ∧ x = S (pathsOf rows) zs (fun s => decide (s = row.ss)) m ∧ Below w1.heap.size w1 wr2) (fun _ j _ => k - (intOf j).toNat)
        case atStart => exact ⟨0, 0, Nat.zero_le _, rfl, rfl, rfl, hbel⟩
        case round =>
          clear hbel
          obtain ⟨m, x, hm, rfl, rfl, hx, hbel⟩ := hrel
          have hx1 : 0 ≤ x := by rw [hx]; exact S_nonneg HV.out m hm _
          have hx2 : x ≤ m := by rw [hx]; exact S_bound HV.out _ m hm
          have HX : Hid (x = S (pathsOf rows) zs (fun s => decide (s = row.ss)) m) := hx
          clear hx
          by_cases hlm : m < k
          · have hmr : m < rows.length := by omega
            have hmz : m < zs.length := by omega
            have hmr2 : (m : Int) < (rows.length : Int) := by omega
            have hmz2 : (m : Int) < (zs.length : Int) := by omega
            obtain ⟨rj, hrj⟩ : ∃ rj, rj = rows[m] := ⟨_, rfl⟩
            obtain ⟨zj, hzj⟩ : ∃ zj, zj = zs[m] := ⟨_, rfl⟩
            have cj : wr.cell? ⟨ba, oa + m, none⟩ = some (.slice rj.a rj.ss.length rj.cap) := by rw [hrj]; exact (hbel.cell (p := ⟨ba, oa + m, none⟩) hla').trans (HCA.out m hmr).1
            have ci : wr.cell? ⟨ba, oa + k, none⟩ = some (.slice row.a row.ss.length row.cap) := (hbel.cell (p := ⟨ba, oa + k, none⟩) hla').trans hc0
            have dj : wr.cell? ⟨bb, ob + m, none⟩ = some (.int .i64 zj) := by rw [hzj]; exact (hbel.cell (p := ⟨bb, ob + m, none⟩) hlb').trans (HCB.out m hmz)
            have hsj : IsStrs wr rj.a rj.ss := by rw [hrj]; exact ((HCA.out m hmr).2).below hbel
            have hsi : IsStrs wr row.a row.ss := hs0.below hbel
            have hrjl : rj.ss.length < 2000000 := by rw [hrj]; exact HRL.out m hmr
            have hzb : zj = 1 ∨ zj = -1 := by rw [hzj, ← ints_getD zs m hmz]; exact (HV.out m hlm).1
            have hz1 : -1 ≤ zj := by omega
            have hz2 : zj ≤ 1 := by omega
            have HS : Hid (S (pathsOf rows) zs (fun s => decide (s = row.ss)) (m + 1) = x + sel (decide (rj.ss = row.ss)) zj) := by
              show _ = _
              rw [S, ← HX.out, pathsOf_getD rows m hmr, ints_getD zs m hmz, hrj, hzj]
            clear hrj hzj hzb
            go_upto_region 12 with fail
            go_cut [49] (fun s wx => s = .bool (decide (rj.ss = row.ss)) ∧ Below wr.heap.size wr wx)
            case first =>
              go_region_with (go_at_call 37; refine (sameNames_any rj.a rj.cap rj.ss row.a row.cap row.ss _ ?_ ?_ hrjl hrl).mono ?_; exact hsj.1.below ((Below.refl _ _).drew); exact hsi.1.below ((Below.refl _ _).drew); rintro e w2 ⟨rfl, B2⟩)
              all_goals
                go_wp2_with fail
                go_meet
                case rel => exact ⟨rfl, ((Below.refl _ _).drew).trans B2⟩
            case rest =>
              obtain ⟨hs49, B2⟩ := hcut
              have B3 := hbel.trans (B2.mono hbel.size)
              have dj2 := (B2.cell (p := ⟨bb, ob + m, none⟩) (Nat.lt_of_lt_of_le hlb' hbel.size)).trans dj
              clear cj ci dj hsj hsi
              cases hp : decide (rj.ss = row.ss) with
              | true =>
                rw [hp] at hs49
                subst hs49
                have HS2 : Hid (S (pathsOf rows) zs (fun s => decide (s = row.ss)) (m + 1) = x + zj) := by have := HS.out; rw [hp] at this; exact this
                clear HS hp
                go_wp2_with fail
                go_roundw
                case rel => exact ⟨m + 1, x + zj, by omega, by go_num, rfl, HS2.out.symm, B3⟩
                case measure => simp [intOf]; omega
              | false =>
                rw [hp] at hs49
                subst hs49
                have HS2 : Hid (S (pathsOf rows) zs (fun s => decide (s = row.ss)) (m + 1) = x) := by have := HS.out; rw [hp] at this; show _ = _; simpa [sel] using this
                clear HS hp
                go_wp2_with fail
                go_roundw
                case rel => exact ⟨m + 1, x, by omega, by go_num, rfl, HS2.out.symm, B3⟩
                case measure => simp [intOf]; omega
          · have hmk : m = k := by omega
            have HXk : Hid (x = S (pathsOf rows) zs (fun s => decide (s = row.ss)) k) := by show _ = _; rw [← hmk]; exact HX.out
            clear hmk
            by_cases hx0 : x ≤ 0
            · go_wp2_with fail
              go_ret
              exact ⟨false, rfl, (fun h => by cases h), hbel⟩
            · have HV2 : Hid (Valid (pathsOf rows) zs (k + 1)) := HV.out.succ (.inr HZ.out) (fun _ => by rw [HROW.out, ← HXk.out]; omega)
              go_wp2_with fail
              go_roundw
              case rel => exact ⟨k + 1, by omega, by go_num, HV2.out, hbel⟩
              case measure => simp [intOf]; omega
      · have h1b : (z != 1) = true := bne_iff_ne.2 h1
        have h2b : (z != -1) = true := bne_iff_ne.2 h2
        clear hca hcb hz hzg h1 h2
        go_wp2_with fail
        go_ret
        exact ⟨false, rfl, (fun h => by cases h), hbel⟩
    · have hkn : k = n := by omega
      go_wp2_with fail
      go_ret
      exact ⟨true, rfl, fun _ => by rw [← HN.out, ← hkn]; exact HV.out, hbel⟩

end Go.Proofs.Qxb6603220a
