import Derived.Test.Qxb6603220aAll
namespace Go.Proofs.Qxb6603220a
open Go.RowKit
set_option linter.unusedVariables false

theorem spend_len (bud : Int) (a : Option Addr) (ca : Nat) (sa : List ByteArray) (w : World) (ha : StrsAt w a sa) (hla : sa.length < 2000000) (h1 : -1 ≤ bud) (h2 : bud ≤ 1048576) :
    Calls Try.prog 9 #[.int .i64 bud, .slice a sa.length ca] w fun e w' => ∃ n : Int, e = .returned (.int .i64 n) ∧ -1 ≤ n ∧ n ≤ 1048576 ∧ w' = w := by
  refine (spend_any bud a ca sa w ha hla h1 h2).mono ?_
  rintro e w' ⟨⟨n, h3, h4, h5, _⟩, h6⟩
  exact ⟨n, h3, h4, h5, h6⟩

theorem held_start {w : World} {rows : List NRow} {zs : List Int} (rl : ∀ i, (h : i < rows.length) → rows[i].ss.length < 2000000) :
    Held (w.alloc (.cells #[.int .i64 0, .map none] 56)) w.heap.size w.heap.size none (fun r => if r = [] then some (w.heap.size, none) else none) rows zs 0 :=
  ⟨rfl, tri_new w, fun i hi => absurd hi (by omega), by omega, Nat.zero_le _, Nat.zero_le _, rl⟩

/-- One step of the script more. -/
theorem held_step {w w' : World} {base c : Nat} {mc : Option Nat} {D : List ByteArray → Option (Nat × Option Nat)} {rows : List NRow} {zs : List Int} {k n : Nat} (H : Held w base c mc D rows zs k) (hk : k < n) (hv : Valid (pathsOf rows) zs n) (h1 : n ≤ rows.length) (h2 : n ≤ zs.length) (h3 : n ≤ 100000)
    {ss : List ByteArray} {z : Int} (e1 : (pathsOf rows).getD k [] = ss) (e2 : zs.getD k 0 = z) {mc' : Option Nat} {D' : List ByteArray → Option (Nat × Option Nat)} (hD : D' [] = some (c, mc')) (hT : Tri w' base D' (bump (cntS (pathsOf rows) zs k) ss.reverse z)) : Held w' base c mc' D' rows zs (k + 1) :=
  ⟨hD, by rw [cntS_succ, e1, e2]; exact hT, hv.le (by omega), by omega, by omega, by omega, H.rl⟩

theorem Held.bounds {w : World} {base c : Nat} {mc : Option Nat} {D : List ByteArray → Option (Nat × Option Nat)} {rows : List NRow} {zs : List Int} {k : Nat} (H : Held w base c mc D rows zs k) (hk : k ≤ 256) : ∀ q, -1000 ≤ cntS (pathsOf rows) zs k q ∧ cntS (pathsOf rows) zs k q ≤ 1000 := by
  intro q
  have := cntS_bounds H.valid (Nat.le_refl _) q
  omega

/-- What region 24 leaves: the step is added, its count at bq. -/
def Added (base c : Nat) (rows : List NRow) (zs : List Int) (k : Nat) (ss : List ByteArray) (w : World) (s : Value) (wx : World) : Prop :=
  ∃ bq m mc' D', s = .pointer (some ⟨bq, 0, none⟩) ∧ D' ss.reverse = some (bq, m) ∧ Held wx base c mc' D' rows zs (k + 1) ∧ Fr base w wx

set_option maxHeartbeats 8000000 in
set_option maxRecDepth 100000 in
theorem walk7 (a b : Option Addr) (ca cb : Nat) (rows : List NRow) (zs : List Int) (w : World) (ha : IsNested w a rows) (hb : IsInts w b zs) :
    Calls Try.prog 7 #[.slice a rows.length ca, .slice b zs.length cb] w fun e w' => e = .returned (.bool true) ∧ Below w.heap.size w w' := by
  obtain ⟨ha, hna, hla⟩ := ha
  obtain ⟨hb, hnb, hlb⟩ := hb
  go_enter Try.func7, Try.ntmps7
  go_wp2_with fail
  refine (bytes23_any a ca rows b zs.length cb w ha hla hlb).mono ?_
  rintro e w ⟨⟨t, rfl⟩, rfl⟩
  cases t with
  | false =>
    go_wp2_with fail
    go_ret
    exact ⟨rfl, Below.refl _ _⟩
  | true =>
  by_cases g1 : (256 : Int) < (rows.length : Int)
  · go_wp2_with fail
    go_ret
    exact ⟨rfl, Below.refl _ _⟩
  by_cases g2 : (65536 : Int) < (zs.length : Int)
  · go_wp2_with fail
    go_ret
    exact ⟨rfl, Below.refl _ _⟩
  go_wp2_with fail
  go_loopw [5, 6] (fun c i wr => ∃ (k : Nat) (v : Int), k ≤ rows.length ∧ i = .int .i64 k ∧ c = .int .i64 v ∧ 0 ≤ v ∧ v ≤ 1048576 ∧ (∀ j, (h : j < rows.length) → j < k → rows[j].ss.length ≤ 4096) ∧ w = wr) (fun _ i _ => rows.length - (intOf i).toNat)
  case atStart => exact ⟨0, 1048576 - 24 * (rows.length : Int) - 8 * (zs.length : Int), Nat.zero_le _, rfl, by go_num, by omega, by omega, fun j _ h => absurd h (by omega), rfl⟩
  case round =>
    obtain ⟨k, v, hk, rfl, rfl, hv1, hv2, hlen, rfl⟩ := hrel
    have HLEN : Hid (∀ j, (h : j < rows.length) → j < k → rows[j].ss.length ≤ 4096) := hlen
    clear hlen
    by_cases hlt : k < rows.length
    · obtain ⟨ba, oa, rfl, hla', hca⟩ := ha.lt k hlt
      obtain ⟨row, hrow⟩ : ∃ row, row = rows[k] := ⟨_, rfl⟩
      have ck : w.cell? ⟨ba, oa + k, none⟩ = some (.slice row.a row.ss.length row.cap) := by rw [hrow]; exact (hca k hlt).1
      have hst : IsStrs w row.a row.ss := by rw [hrow]; exact (hca k hlt).2
      have HR : Hid (row = rows[k]) := hrow
      obtain ⟨hst, _, hsl⟩ := hst
      clear hca hrow
      by_cases hgt : (4096 : Int) < (row.ss.length : Int)
      · go_wp2_with fail
        go_ret
        exact ⟨rfl, Below.refl _ _⟩
      go_wp2_with fail
      refine (spend_len v row.a row.cap row.ss _ hst (by omega) (by omega) hv2).mono ?_
      rintro e w2 ⟨v2, rfl, hq1, hq2, hw2⟩
      subst hw2
      by_cases hneg : v2 < 0
      · go_wp2_with fail
        go_ret
        exact ⟨rfl, Below.refl _ _⟩
      go_wp2_with fail
      go_roundw
      case rel =>
        refine ⟨k + 1, v2, by omega, by go_num, rfl, by omega, by omega, fun j hj hjk => ?_, by first | rfl | trivial⟩
        by_cases e : j < k
        · exact HLEN.out j hj e
        · obtain rfl : j = k := by omega
          rw [← HR.out]
          omega
      case measure => simp [intOf]; omega
    · have HL : Hid (∀ j, (h : j < rows.length) → rows[j].ss.length ≤ 4096) := fun j h => HLEN.out j h (by omega)
      clear HLEN hk hv1 hv2
      go_wp2_with fail
      refine (scriptValid_any a ca rows b cb zs _ ha hb (fun i h => by have := HL.out i h; omega) (by omega) (by omega)).mono ?_
      rintro e w1 ⟨t, rfl, hval, B1⟩
      cases t with
      | false =>
        go_wp2_with fail
        go_ret
        exact ⟨rfl, B1⟩
      | true =>
        have HV : Hid (Valid (pathsOf rows) zs (min rows.length zs.length)) := hval rfl
        clear hval
        have ha1 := ha.below B1
        have hb1 := hb.below B1
        clear ha hb
        go_wp2_with fail
        refine (cloneNested_any a ca rows _ ha1 hna (by omega) (fun i h => by have := HL.out i h; omega)).mono ?_
        rintro e w2 ⟨a2, c2, rows2, rfl, hlen2, ha2, hpaths, hcap2, B2⟩
        have hb2 := hb1.below B2
        have B12 := B1.trans (B2.mono B1.size)
        clear ha1 hb1 B1 B2
        go_wp2_with fail
        refine (cloneInts_any b cb zs _ hb2 hnb (by omega)).mono ?_
        rintro e w3 ⟨b3, c3, rfl, hb3, B3⟩
        have ha3 := ha2.below B3
        have B13 := B12.trans (B3.mono B12.size)
        clear ha2 hb2 B12 B3
        go_wp2_with fail
        refine (min_any rows.length zs.length _ (by omega) (by omega)).mono ?_
        rintro e w4 ⟨rfl, hw4⟩
        subst hw4
        obtain ⟨n, hn⟩ : ∃ n, n = min rows.length zs.length := ⟨_, rfl⟩
        rw [← hn]
        have HP : Hid (pathsOf rows2 = pathsOf rows ∧ (∀ i, (h : i < rows2.length) → rows2[i].ss.length ≤ rows2[i].cap) ∧ rows2.length = rows.length ∧ Valid (pathsOf rows2) zs n) := ⟨hpaths, hcap2, hlen2, by rw [hpaths, hn]; exact HV.out⟩
        have hn1 : n ≤ rows.length := by omega
        have hn2 : n ≤ zs.length := by omega
        clear hn hpaths hcap2 HV
        have HC : Hid (∀ i, (h : i < rows2.length) → rows2[i].ss.length ≤ rows2[i].cap ∧ rows2[i].ss.length < 900000) := by
          intro i hi
          refine ⟨HP.out.2.1 i hi, ?_⟩
          have h1 : (pathsOf rows2)[i]? = (pathsOf rows)[i]? := by rw [HP.out.1]
          have hi2 : i < rows.length := by omega
          unfold pathsOf at h1
          rw [List.getElem?_map, List.getElem?_map, List.getElem?_eq_getElem hi, List.getElem?_eq_getElem hi2] at h1
          simp at h1
          rw [h1]
          have := HL.out i hi2
          omega
        clear HL
        go_wp2_with fail
        refine (newCount_any _).mono ?_
        rintro e w5 ⟨rfl, hw5⟩
        have H5 : Hid (Held w5 w4.heap.size w4.heap.size none (fun r => if r = [] then some (w4.heap.size, none) else none) rows2 zs 0) := by
          show Held _ _ _ _ _ _ _ _
          rw [← hw5]
          exact held_start (fun i h => by have := (HC.out i h).2; omega)
        have B45 : Below w4.heap.size w4 w5 := by rw [← hw5]; exact (Below.refl _ _).alloc (Nat.le_refl _) _
        have hsz : w4.heap.size < w5.heap.size := by rw [← hw5]; simp
        clear hw5
        go_wp2_with fail
        go_loopw [9] (fun i wr => ∃ (k : Nat) (D : List ByteArray → Option (Nat × Option Nat)) (mc : Option Nat), k ≤ n ∧ i = .int .i64 k ∧ Held wr w4.heap.size w4.heap.size mc D rows2 zs k ∧ Below w4.heap.size w4 wr) (fun i _ => n - (intOf i).toNat)
        case atStart => exact ⟨0, _, none, Nat.zero_le _, rfl, H5.out, B45⟩
        case round =>
          clear H5 B45 hsz
          obtain ⟨k2, D, mc, hk2, rfl, hH, hbel⟩ := hrel
          have HH : Hid (Held wr w4.heap.size w4.heap.size mc D rows2 zs k2) := hH
          clear hH
          by_cases hlt2 : k2 < n
          · have hkr : k2 < rows2.length := by have := HP.out.2.2.1; omega
            obtain ⟨ba, oa, had, hla', hca⟩ := ha3.lt k2 hkr
            obtain ⟨bb, ob, hbd, hlb', hcb⟩ := hb3.lt k2 (by omega)
            have hkr2 : (k2 : Int) < (rows.length : Int) := by omega
            have hkz2 : (k2 : Int) < (zs.length : Int) := by omega
            obtain ⟨row, hrow⟩ : ∃ row, row = rows2[k2] := ⟨_, rfl⟩
            obtain ⟨z, hz⟩ : ∃ z, z = zs[k2] := ⟨_, rfl⟩
            have ck : wr.cell? ⟨ba, oa + k2, none⟩ = some (.slice row.a row.ss.length row.cap) := by rw [hrow]; exact (hbel.cell (p := ⟨ba, oa + k2, none⟩) hla').trans (hca k2 hkr).1
            have dk : wr.cell? ⟨bb, ob + k2, none⟩ = some (.int .i64 z) := by rw [hz]; exact (hbel.cell (p := ⟨bb, ob + k2, none⟩) hlb').trans (hcb k2 (by omega))
            have hck4 : w4.cell? ⟨ba, oa + k2, none⟩ = some (.slice row.a row.ss.length row.cap) := by rw [hrow]; exact (hca k2 hkr).1
            have hst4 : StrsAt w4 row.a row.ss := by rw [hrow]; exact (hca k2 hkr).2.1
            have hst : StrsAt wr row.a row.ss := by rw [hrow]; exact ((hca k2 hkr).2.1).below hbel
            have hrl : row.ss.length < 900000 := by rw [hrow]; exact (HC.out k2 hkr).2
            have HK : Hid ((pathsOf rows2).getD k2 [] = row.ss ∧ zs.getD k2 0 = z ∧ row = rows2[k2]) := ⟨by rw [pathsOf_getD rows2 k2 hkr, hrow], by rw [ints_getD zs k2 (by omega), hz], hrow⟩
            subst had hbd
            have lba : ba < wr.heap.size := Nat.lt_of_lt_of_le hla' hbel.size
            have lbb : bb < wr.heap.size := Nat.lt_of_lt_of_le hlb' hbel.size
            clear hca hcb hrow hz
            go_upto_region 23 with fail
            go_cut [10] (fun s wx => ∃ (bp : Nat) (p : Option Addr), s = .pointer (some ⟨bp, 0, none⟩) ∧ wx.heap[bp]? = some (.cells #[.pointer p] 30 (0, 0)) ∧ PathR wx p row.ss.reverse ∧ Below wr.heap.size wr wx)
            case first =>
              have h3062 : (30 : TypeId) ≠ 62 := by decide
              go_region_with (first
                | (go_at_call 13; refine (zzroot_any _).mono ?_; rintro e w6 ⟨rfl, B6⟩; first | (have B6w : Below wr.heap.size wr w6 := (Below.refl _ _).drew.trans B6; have ck6 := (B6w.cell (p := ⟨ba, oa + k2, none⟩) lba).trans ck; have lba6 : ba < w6.heap.size := Nat.lt_of_lt_of_le lba B6w.size) | (have B6w : Below wr.heap.size wr w6 := (((Below.refl _ _).alloc (Nat.le_refl _) _).drew).trans (B6.mono (by simp)); have ck6 := (B6w.cell (p := ⟨ba, oa + k2, none⟩) lba).trans ck; have lba6 : ba < w6.heap.size := Nat.lt_of_lt_of_le lba B6w.size; have bx := keep B6 (heap_alloc_new wr (.cells #[.pointer none] 30))))
                | (go_at_call 12; first | (refine (build_any none [] row.a row.cap row.ss w6 rfl (hst.below B6w) (by simp; omega)).mono ?_; rintro e w7 ⟨p, rfl, hp, B7⟩; rw [List.append_nil] at hp; have B7w := B6w.trans (B7.mono B6w.size); (try (have by1 := keep B7 bx; have by2 := cell_of_one by1; have by3 := free_of_one by1))) | (refine (build_any none [] row.a row.cap row.ss (w6.alloc (.cells #[.pointer none] 30)) rfl (hst.below (B6w.alloc B6w.size _)) (by simp; omega)).mono ?_; rintro e w7 ⟨p, rfl, hp, B7⟩; rw [List.append_nil] at hp; have B7w := (B6w.alloc B6w.size (.cells #[.pointer none] 30)).trans (B7.mono (Nat.le_trans B6w.size (by simp))); have by1 := keep B7 (heap_alloc_new w6 (.cells #[.pointer none] 30)); have by2 := cell_of_one by1; have by3 := free_of_one by1)))
              all_goals
                go_wp2_with fail
                go_meet
                case rel =>
                  first
                  | exact ⟨w7.heap.size, p, rfl, heap_alloc_new _ _, hp.below ((Below.refl _ _).alloc (Nat.le_refl _) _), B7w.alloc B7w.size _⟩
                  | exact ⟨w6.heap.size, p, rfl, one_setCell by1, hp.setCell by1 h3062 0 _, B7w.setCell B6w.size _⟩
                  | exact ⟨wr.heap.size, p, rfl, one_setCell by1, hp.setCell by1 h3062 0 _, B7w.setCell (Nat.le_refl _) _⟩
            case rest =>
              obtain ⟨bp, p, hs10, hbp, hp, B6⟩ := hcut
              subst hs10
              obtain ⟨w6, rfl⟩ : ∃ w6 : World, w6 = wc := ⟨_, rfl⟩
              have H6 := HH.out.below B6
              have B46 := hbel.trans (B6.mono hbel.size)
              have dk6 := (B6.cell (p := ⟨bb, ob + k2, none⟩) lbb).trans dk
              have cbp := cell_of_one hbp
              have hdz : z = 1 ∨ z = -1 := by rw [← HK.out.2.1]; exact (HP.out.2.2.2 k2 hlt2).1
              have HADD : Hid (∀ w0 : World, PathR w0 p row.ss.reverse → Tri w0 w4.heap.size D (cntS (pathsOf rows2) zs k2) → w4.heap.size ≤ w0.heap.size → Calls Try.prog 29 #[.pointer (some ⟨w4.heap.size, 0, none⟩), .agg #[.pointer p], .int .i64 z] w0 fun e w' => AddPost w4.heap.size (cntS (pathsOf rows2) zs k2) w4.heap.size row.ss.reverse z w0 e w') :=
                fun w0 g1 g2 g3 => zzadd_any H6.root hdz (H6.bounds (by omega)) H6.mono row.ss.reverse p w0 g1 g2 g3
              have HH6 : Hid (Held w6 w4.heap.size w4.heap.size mc D rows2 zs k2) := H6
              clear ck dk hst HH hdz H6
              go_upto_region 24 with fail
              go_cut [11] (fun s wx => Added w4.heap.size w4.heap.size rows2 zs k2 row.ss w6 s wx)
              case first =>
                go_region_with (go_at_call 29; refine (HADD.out _ ?_ ?_ ?_).mono ?_; exact hp.below ((Below.refl _ _).drew); exact HH6.out.tri.below ((Below.refl _ _).drew); exact B46.size; rintro e w8 ⟨bq, m, mc', D', rfl, q1, q2, q3, q4⟩)
                all_goals
                  go_wp2_with fail
                  go_meet
                  case rel => exact ⟨bq, m, mc', D', rfl, q1, held_step HH6.out hlt2 HP.out.2.2.2 (by have := HP.out.2.2.1; omega) hn2 (by omega) HK.out.1 HK.out.2.1 q2 q3, (Fr.of_below (Below.refl w6.heap.size w6).drew B46.size).trans q4⟩
              case rest =>
                obtain ⟨bq, m, mc', D', hs11, q1, H8, F8⟩ := hcut
                subst hs11
                have B48 := B46.trans F8.below
                have bp8 := F8.kept _ _ hbp (by simp [notTree])
                have hp8 := PathR.fr F8 hp
                have ck8 := (B48.cell (p := ⟨ba, oa + k2, none⟩) hla').trans hck4
                obtain ⟨x, hx⟩ : ∃ x, x = S (pathsOf rows2) zs (prefB row.ss) (k2 + 1) := ⟨_, rfl⟩
                have hxc : cntS (pathsOf rows2) zs (k2 + 1) row.ss.reverse = x := by rw [cntS_open, hx]
                have hnode := (H8.tri.node _ bq m q1).2
                rw [hxc] at hnode
                have H88 : Hid (Held wc w4.heap.size w4.heap.size mc' D' rows2 zs (k2 + 1) ∧ D' row.ss.reverse = some (bq, m) ∧ cntS (pathsOf rows2) zs (k2 + 1) row.ss.reverse = x) := ⟨H8, q1, hxc⟩
                have HNI : Hid (NestedAt w4 (some ⟨ba, oa, none⟩) rows2 ∧ IntsAt w4 (some ⟨bb, ob, none⟩) zs) := ⟨ha3, hb3⟩
                obtain ⟨w8, rfl⟩ : ∃ w8 : World, w8 = wc := ⟨_, rfl⟩
                have hk3 : k2 + 1 ≤ 256 := by omega
                clear H8 q1 F8 hbp hp cbp dk6 HADD HH6 B46 B6 hxc
                go_wp2_with fail
                refine (openCount_int (some ⟨ba, oa, none⟩) c2 rows2 (some ⟨bb, ob, none⟩) c3 zs (k2 + 1) ((k2 : Int) + 1) (by omega) rows.length HP.out.2.2.1 row.a row.cap row.ss _ (HNI.out.1.below B48) (HNI.out.2.below B48) (hst4.below B48) (by omega) (fun i h => by have := (HC.out i h).2; omega) (by have := HP.out.2.2.1; omega) (by omega) (HP.out.2.2.2.le (by omega)) (by omega)).mono ?_
                rintro e w9 ⟨rfl, B9⟩
                rw [← hx]
                have bp9 := keep B9 bp8
                have hp9 := hp8.below B9
                have hnode9 := keep B9 hnode
                have B49 := B48.trans (B9.mono B48.size)
                have H99 : Hid (Held w9 w4.heap.size w4.heap.size mc' D' rows2 zs (k2 + 1)) := H88.out.1.below B9
                have hxx : (x != x) = false := by simp
                clear hx bp8 hp8 ck8 hnode B48 B9
                go_wp2_with fail
                refine (countOf_any hnode9).mono ?_
                rintro e w10 ⟨rfl, hw10⟩
                subst hw10
                by_cases hx0 : x = 0
                · have hxb : (x != 0) = false := by simp [hx0]
                  clear hx0
                  go_wp2_with fail
                  refine (allAgree_int (some ⟨ba, oa, none⟩) c2 rows2 (some ⟨bb, ob, none⟩) c3 zs n (k2 + 1) ((k2 : Int) + 1) (by omega) rows.length HP.out.2.2.1 _ (HNI.out.1.below B49) (HNI.out.2.below B49) (by have := HP.out.2.2.1; omega) (by omega) HC.out H99.out).mono ?_
                  rintro e w12 ⟨rfl, B12⟩
                  have HR : Hid (Held w12 w4.heap.size w4.heap.size mc' D' rows2 zs (k2 + 1) ∧ Below w4.heap.size w4 w12) := ⟨H99.out.below B12, B49.trans (B12.mono B49.size)⟩
                  clear bp9 hp9 hnode9 B49 B12 H99
                  go_wp2_with fail
                  go_roundw
                  case rel => exact ⟨k2 + 1, D', mc', by omega, by go_num, HR.out.1, HR.out.2⟩
                  case measure => simp [intOf]; omega
                · have hxb : (x != 0) = true := bne_iff_ne.2 hx0
                  have hcbp := cell_of_one bp9
                  have hnd : nodeOf D' (cntS (pathsOf rows2) zs (k2 + 1)) row.ss.reverse = some ⟨bq, 0, none⟩ := by
                    have h1 := H88.out.2.1
                    have h2 : cntS (pathsOf rows2) zs (k2 + 1) row.ss.reverse ≠ 0 := by rw [H88.out.2.2]; exact hx0
                    unfold nodeOf
                    rw [if_pos (.inr h2), h1]
                    rfl
                  have hneq := neq45_same ⟨bq, 0, none⟩
                  have HND : Hid (nodeOf D' (cntS (pathsOf rows2) zs (k2 + 1)) row.ss.reverse = some ⟨bq, 0, none⟩) := hnd
                  clear hx0 hnd
                  go_wp2_with fail
                  refine (zzat_any H99.out.root H99.out.mono row.ss.reverse p _ hp9 H99.out.tri).mono ?_
                  rintro e w11 ⟨rfl, B11⟩
                  rw [HND.out]
                  have B411 := B49.trans (B11.mono B49.size)
                  have H11 : Hid (Held w11 w4.heap.size w4.heap.size mc' D' rows2 zs (k2 + 1)) := H99.out.below B11
                  clear bp9 hp9 hnode9 B49 B11 H99 hcbp
                  go_wp2_with fail
                  refine (allAgree_int (some ⟨ba, oa, none⟩) c2 rows2 (some ⟨bb, ob, none⟩) c3 zs n (k2 + 1) ((k2 : Int) + 1) (by omega) rows.length HP.out.2.2.1 _ (HNI.out.1.below B411) (HNI.out.2.below B411) (by have := HP.out.2.2.1; omega) (by omega) HC.out H11.out).mono ?_
                  rintro e w12 ⟨rfl, B12⟩
                  have HR : Hid (Held w12 w4.heap.size w4.heap.size mc' D' rows2 zs (k2 + 1) ∧ Below w4.heap.size w4 w12) := ⟨H11.out.below B12, B411.trans (B12.mono B411.size)⟩
                  clear B411 B12 H11 hneq
                  go_wp2_with fail
                  go_roundw
                  case rel => exact ⟨k2 + 1, D', mc', by omega, by go_num, HR.out.1, HR.out.2⟩
                  case measure => simp [intOf]; omega
          · have hkn : k2 = n := by omega
            subst hkn
            go_wp2_with fail
            refine (allAgree_int a2 c2 rows2 b3 c3 zs k2 k2 (k2 : Int) rfl rows.length HP.out.2.2.1 _ (ha3.below hbel) (hb3.below hbel) (by have := HP.out.2.2.1; omega) (by omega) HC.out HH.out).mono ?_
            rintro e w12 ⟨rfl, B12⟩
            have B4 := hbel.trans (B12.mono hbel.size)
            go_wp2_with fail
            go_ret
            exact ⟨by rfl, B13.trans (B4.mono B13.size)⟩

end Go.Proofs.Qxb6603220a
