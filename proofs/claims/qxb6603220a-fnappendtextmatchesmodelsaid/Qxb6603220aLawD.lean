import Derived.Test.Qxb6603220aModelB
import Derived.Test.Qxb6603220aBytes
import Derived.Test.Qxb6603220aLawA
namespace Go.Proofs.Qxb6603220a
open Go.RowKit
set_option linter.unusedVariables false

/-- What the walks are told of a []byte that came in. -/
def IsBytes (w : World) (a : Option Addr) (l : List UInt8) : Prop := BytesAt w a l ∧ (a = none → l = []) ∧ l.length ≤ 9223372036854775807

theorem Own.later {w wr w' : World} {v : Value} {L : List UInt8} (h : Own w wr v L) (hb : Below wr.heap.size wr w') : Own w w' v L :=
  ⟨h.1.kept (grownBy_below none hb) (by cases h : v.ownBlock <;> simp), h.2.trans (hb.mono h.2.size)⟩

theorem Own.owns {w wr : World} {v : Value} {L : List UInt8} (h : Own w wr v L) : wr.ownsRow 0 5 1 v L.length (Lib.byteCells L) := by
  refine ⟨h.1.1, ?_⟩
  rcases h.1.2 with h1 | ⟨g, cap, cur, h1, _, h2⟩
  · exact .inl h1
  · exact .inr ⟨g, cap, cur, h1, Nat.zero_le _, h2⟩

theorem Own.wrote {w wr w' : World} {v : Value} {L : List UInt8} (h : Own w wr v L) (hg : wr.grownBy w' v.ownBlock) : Below w.heap.size w w' :=
  h.2.grown hg h.2.size (fun k hk => (h.1.lt k hk).1)

theorem own_of_row {w wr : World} {g cap : Nat} {f : Nat → Value} {L : List UInt8} (h : wr.rowIs g 5 cap f) (hg : w.heap.size ≤ g) (hl : L.length ≤ cap) (hc : cap ≤ maxLen) (hf : ∀ i, (hi : i < L.length) → f i = .int .u8 (L[i].toNat : Int)) (hb : Below w.heap.size w wr) :
    Own w wr (.slice (some ⟨g, 0, none⟩) L.length cap) L := by
  refine ⟨⟨by rw [Lib.byteCells_length]; simp, .inr ?_⟩, hb⟩
  obtain ⟨c, hc1, hc2, hc3⟩ := h
  refine ⟨g, cap, c, rfl, hg, hc1, hl, hc, by omega, ?_⟩
  apply List.ext_getElem?
  intro i
  rw [Nat.mul_one]
  by_cases hi : i < L.length
  · rw [List.getElem?_take_of_lt hi, Array.getElem?_toList, hc3 i (by omega), hf i hi]
    unfold Lib.byteCells
    rw [List.getElem?_map, List.getElem?_eq_getElem hi]
    rfl
  · rw [List.getElem?_eq_none (by rw [List.length_take]; omega), List.getElem?_eq_none (by rw [Lib.byteCells_length]; omega)]

theorem own_nil (w : World) : Own w w (.slice none 0 0) [] := ⟨World.ownsRow_nil w _ 5 1, Below.refl _ _⟩

theorem make64 (n : Nat) (hn : n < 100000000) (w : World) : (Instr.makeSlice 23 (.int .i64 (n : Int)) (.int .i64 ((n : Int) + 64))).run Try.prog w =
    .ok (.slice (some ⟨w.heap.size, 0, none⟩) n (n + 64)) (w.alloc (.cells (madeCells #[.int .u8 0] (n + 64)) 5)) := by
  obtain ⟨i, hi, hz0, hsize, hby⟩ := info_parts infoB
  have h := run_make (P := Try.prog) w 23 5 i (.int .u8 0) Try.underlying23 hi hz0 .i64 .i64 (n : Int) ((n : Int) + 64) (by omega) (by omega) (by rw [hby]; omega) (by omega)
  rw [h, hsize]
  have e1 : ((n : Int) + 64).toNat = n + 64 := by omega
  have e2 : ((n : Int)).toNat = n := by omega
  rw [e1, e2, Nat.mul_one]
  rfl

set_option maxHeartbeats 8000000 in
theorem walk3 (a b : Option Addr) (ca cb : Nat) (sa : List ByteArray) (L : List UInt8) (w : World) (ha : IsStrs w a sa) (hb : IsBytes w b L) :
    Calls Try.prog 3 #[.slice a sa.length ca, .slice b L.length cb] w fun e w' => e = .returned (.bool true) ∧ Below w.heap.size w w' := by
  obtain ⟨ha, hna, hla⟩ := ha
  obtain ⟨hb, hnb, hlb⟩ := hb
  go_enter Try.func3, Try.ntmps3
  go_wp2_with fail
  refine (bytes8_any a ca sa b L.length cb w ha hla hlb).mono ?_
  rintro e w ⟨⟨t, rfl⟩, rfl⟩
  cases t with
  | false =>
    go_wp2_with fail
    go_ret
    exact ⟨rfl, Below.refl _ _⟩
  | true =>
    by_cases gsa : (65536 : Int) < (sa.length : Int)
    · go_wp2_with fail
      go_ret
      exact ⟨rfl, Below.refl _ _⟩
    by_cases gL : (1048576 : Int) < (L.length : Int)
    · go_wp2_with fail
      go_ret
      exact ⟨rfl, Below.refl _ _⟩
    have lsa : sa.length < 2000000 := by omega
    have lL : L.length < 2000000 := by omega
    go_wp2_with fail
    refine (spend_any (1048576 - (L.length : Int)) a ca sa _ ha lsa (by omega) (by omega)).mono ?_
    rintro e w ⟨⟨n1, rfl, hn1, hn1', hs1⟩, rfl⟩
    have HS1 : Hid (0 ≤ n1 → (0 : Int) ≤ 1048576 - (L.length : Int) ∧ n1 + 16 * sa.length + sizes sa = 1048576 - (L.length : Int)) := hs1
    clear hs1
    by_cases h3 : n1 < 0
    · go_wp2_with fail
      go_ret
      exact ⟨rfl, Below.refl _ _⟩
    have HL : Hid ((textR sa.reverse).length < 10000000) := by
      obtain ⟨x1, x2⟩ := HS1.out (by omega)
      have y1 := textR_le sa.reverse
      rw [sizes_reverse, List.length_reverse] at y1
      show _ < _
      omega
    clear HS1
    have hbel := Below.refl w.heap.size w
    go_wp2_with fail
    refine (clone_any a ca sa _ ha hna lsa).mono ?_
    rintro e w1 ⟨a1, c1, rfl, ha1, -, B1⟩
    replace ha := ha.below B1
    replace hb := hb.below B1
    replace hbel := hbel.trans (B1.mono hbel.size)
    clear B1
    clear ha
    go_wp2_with fail
    refine (cloneBytes_any b cb L _ hb hnb lL).mono ?_
    rintro e w2 ⟨a2, c2, rfl, hb1, hnil, B2⟩
    replace hb := hb.below B2
    replace hbel := hbel.trans (B2.mono hbel.size)
    replace ha1 := ha1.below B2
    clear B2
    clear hb
    have hq := fun w => run_neq_slice_nil_any (P := Try.prog) w 23 5 a2 L.length c2 0 0 Try.underlying23
    go_upto_if 33 with fail
    go_cut [5] (fun v wx => Own w2 wx v L)
    case first =>
      cases a2 with
      | none =>
        obtain ⟨rfl, rfl⟩ := hnil rfl
        go_wp2_with fail
        go_meet
        case rel => exact own_nil _
      | some ad =>
        have hmk := make64 L.length (by omega)
        go_wp2_with fail
        clear hq hmk
        go_loopw [6] (fun i wr => ∃ (k : Nat) (f : Nat → Value), k ≤ L.length ∧ i = .int .i64 k ∧ wr.rowIs w2.heap.size 5 (L.length + 64) f ∧ (∀ j, (hj : j < L.length) → j < k → f j = .int .u8 (L[j].toNat : Int)) ∧ Below w2.heap.size w2 wr) (fun i _ => L.length - (intOf i).toNat)
        case atStart => exact ⟨0, _, Nat.zero_le _, rfl, World.rowIs_made _ _ _ _, fun j _ h => absurd h (by omega), (Below.refl _ _).alloc (Nat.le_refl _) _⟩
        case round =>
          obtain ⟨k, f, hk, rfl, hrow, hf, hbel2⟩ := hrel
          by_cases hlt : k < L.length
          · obtain ⟨b, off, had, hbl, hc⟩ := hb1.lt k hlt
            obtain rfl : ad = ⟨b, off, none⟩ := by simpa using had
            clear had
            have ck : wr.cell? ⟨b, off + k, none⟩ = some (.int .u8 (L[k].toNat : Int)) := (hbel2.cell (p := ⟨b, off + k, none⟩) hbl).trans (hc k hlt)
            obtain ⟨n, hn⟩ : ∃ n, n = L[k] := ⟨_, rfl⟩
            rw [← hn] at ck
            have z1 := hrow.cell (i := k) (by omega)
            have z2 := hrow.frozen k
            have HF : Hid (∀ j, (hj : j < L.length) → j < k → f j = .int .u8 (L[j].toNat : Int)) := hf
            have HN : Hid (n = L[k]) := hn
            clear hf hc hn
            go_wp2_with fail
            go_roundw
            case rel => exact ⟨k + 1, _, by omega, by go_num, hrow.set k (.int .u8 (n.toNat : Int)), fun j hj hjk => by
              by_cases hjk2 : j = k
              · subst hjk2; simp [HN.out]
              · rw [if_neg hjk2]; exact HF.out j hj (by omega), hbel2.setCell (by simp) _⟩
            case measure => simp [intOf]; omega
          · have HF : Hid (∀ j, (hj : j < L.length) → f j = .int .u8 (L[j].toNat : Int)) := fun j hj => hf j hj (by omega)
            clear hf
            go_wp2_with fail
            go_meet
            case rel => exact own_of_row hrow (Nat.le_refl _) (by omega) (by unfold maxLen; omega) HF.out hbel2
    case rest =>
      clear hq hnil
      have hO := hcut
      clear hcut
      have ha2 := ha1.below hO.below
      go_wp2_with fail
      refine (zzroot_any _).mono ?_
      rintro e w3 ⟨rfl, B3⟩
      replace ha2 := ha2.below B3
      replace hO := hO.later B3
      clear B3
      go_wp2_with fail
      refine (build_any none [] a1 c1 sa _ rfl ha2 (by simp; omega)).mono ?_
      rintro e w4 ⟨p, rfl, hp, B4⟩
      rw [List.append_nil] at hp
      replace hO := hO.later B4
      clear B4 ha2
      have BW := (Below.refl w4.heap.size w4).alloc (Nat.le_refl _) (.cells #[.pointer p] 30)
      replace hO := hO.later BW
      replace hp := hp.below BW
      have bp := heap_alloc_new w4 (.cells #[.pointer p] 30)
      have xp := cell_of_one bp
      clear BW
      go_wp2_with fail
      refine (zzAppendText_any p _ u5 L _ hp hO.owns (by have := HL.out; omega)).mono ?_
      rintro e w5 ⟨ta, tc, rfl, hta, G5⟩
      have B25 := hO.wrote G5
      have ha5 := ha1.below B25
      have hb5 := hb1.below B25
      clear hO G5 hp bp xp
      have hMl : (modelT sa).length ≤ 10000000 := by rw [← textR_model]; have := HL.out; omega
      go_wp2_with fail
      refine (modelText_any a2 c2 L a1 c1 sa _ hb5 ha5 (by omega) (by omega) hMl).mono ?_
      rintro e w6 ⟨tb, td, rfl, htb, B6⟩
      have hta6 := hta.below B6
      have B26 := B25.trans (B6.mono B25.size)
      clear hta B25 B6 ha5 hb5
      rw [fullR_model] at hta6
      rw [fullR_model, ← List.length_append]
      have hlen : (L ++ modelM sa).length < 200000000 := by
        have h1 := fullR_le sa.reverse
        have h2 := HL.out
        rw [fullR_model] at h1
        rw [List.length_append]
        omega
      generalize L ++ modelM sa = M at hta6 htb hlen ⊢
      go_wp2_with fail
      refine (bytesEqual_same ta tc tb td M _ hta6 htb hlen).mono ?_
      rintro e w7 ⟨rfl, B7⟩
      have B27 := B26.trans (B7.mono B26.size)
      go_wp2_with fail
      go_ret
      exact ⟨by rfl, hbel.trans (B27.mono hbel.size)⟩

end Go.Proofs.Qxb6603220a
