import Derived.Test.Qxb6603220aZeros
import Derived.Deep.DeepCutAuto
namespace Go.Proofs.Qxb6603220a
open Go.RowKit
set_option linter.unusedVariables false

/-- One name's part of a path's text. -/
def segL (n : ByteArray) : List UInt8 := 47 :: ((preS n).data.toList ++ n.data.toList)

/-- The text of a path that is not the root's (its names, the last first). -/
def textR : List ByteArray → List UInt8
  | [] => []
  | n :: r => textR r ++ segL n

def segLen (n : ByteArray) : Nat := 1 + (preS n).size + n.size

theorem segL_length (n : ByteArray) : (segL n).length = segLen n := by
  show (47 :: ((preS n).data.toList ++ n.data.toList)).length = 1 + (preS n).data.size + n.data.size
  rw [List.length_cons, List.length_append, Array.length_toList, Array.length_toList]
  omega

theorem textR_cons (n : ByteArray) (r : List ByteArray) : (textR (n :: r)).length = (textR r).length + segLen n := by
  simp [textR, segL_length]

theorem wrap_id (x : Int) (h1 : -9223372036854775808 ≤ x) (h2 : x ≤ 9223372036854775807) : IntKind.i64.wrap x = x := by
  rw [IntKind.wrap_i64]; omega

/-- Behind the address a lie the bytes l. -/
def BytesAt (w : World) (a : Option Addr) (l : List UInt8) : Prop :=
  l = [] ∨ ∃ b off, a = some ⟨b, off, none⟩ ∧ ∀ i, (h : i < l.length) → w.cell? ⟨b, off + i, none⟩ = some (.int .u8 (l[i].toNat : Int))

/-- What appendText leaves: b's bytes and the text behind them; but for b's own row all that was there is as it was. -/
def TextPost (w : World) (v : Value) (B T : List UInt8) (e : Ending) (w' : World) : Prop :=
  ∃ a' c', e = .returned (.slice a' (B.length + T.length) c') ∧ BytesAt w' a' (B ++ T) ∧ w.grownBy w' v.ownBlock

theorem bytes_get (B T : List UInt8) (R : List Value) (i : Nat) (hi : i < (B ++ T).length) : (Lib.byteCells B ++ (Lib.byteCells T ++ R)).toArray[i]? = some (.int .u8 (((B ++ T)[i].toNat : Nat) : Int)) := by
  rw [← List.append_assoc]
  have e : Lib.byteCells B ++ Lib.byteCells T = Lib.byteCells (B ++ T) := by simp [Lib.byteCells]
  rw [e, List.getElem?_toArray, List.getElem?_append_left (by rw [Lib.byteCells_length]; exact hi)]
  unfold Lib.byteCells
  rw [List.getElem?_map, List.getElem?_eq_getElem hi]
  rfl

theorem seg_cells (n : ByteArray) (done : List UInt8) (pf : ByteArray) (h : pf = preS n) (R : List Value) :
    (Value.int IntKind.u8 47 :: (Lib.byteCells pf.data.toList ++ Lib.byteCells n.data.toList)) ++ (Lib.byteCells done ++ R) = Lib.byteCells (segL n ++ done) ++ R := by
  subst h
  simp [Lib.byteCells, segL]

theorem row_own {g : Nat} {w : World} {v : Value} (H : Hid (g < w.heap.size → v.ownBlock = some g)) : ∀ k, some g = some k → k < w.heap.size → v.ownBlock = some k :=
  fun k hk hlt => by cases hk; exact H.out hlt

set_option maxHeartbeats 4000000 in
theorem appendText_path (p : Option Addr) (n0 : ByteArray) (r0 : List ByteArray) (v : Value) (B : List UInt8) (w : World) (hp : PathR w p (n0 :: r0)) (hown : w.ownsRow 0 5 1 v B.length (Lib.byteCells B)) (hS : B.length + (textR (n0 :: r0)).length < 100000000) :
    Calls Try.prog 35 #[.agg #[.pointer p], v] w fun e w' => TextPost w v B (textR (n0 :: r0)) e w' := by
  obtain ⟨S, hSd⟩ : ∃ S, S = (textR (n0 :: r0)).length := ⟨_, rfl⟩
  have HS : Hid (S = (textR (n0 :: r0)).length) := hSd
  rw [← hSd] at hS
  clear hSd
  have hSp : 0 < S := by have := HS.out; rw [textR_cons] at this; unfold segLen at this; omega
  have Hown : Hid (w.ownsRow 0 5 1 v B.length (Lib.byteCells B)) := hown
  clear hown
  go_enter Try.func35, Try.ntmps35
  go_wp2_with fail
  refine (isRoot_any p _).mono ?_
  rintro e w1 ⟨rfl, hb1⟩
  have hpn : p.isNone = false := by obtain ⟨b, h, rfl, _⟩ := hp; rfl
  have K0 := keep hb1 (heap_alloc_new w (.cells #[.pointer p] 30))
  have B1 : Below w.heap.size w w1 := ((Below.refl _ _).alloc (Nat.le_refl _) _).trans (hb1.mono (by simp))
  have c0 := cell_of_one K0
  clear hb1
  rw [hpn]
  go_wp2_with fail
  go_loopg [6, 7] (n0 :: r0).length (fun k sz at' wr => ∃ (q : Option Addr) (r : List ByteArray) (b : Nat) (z : Nat), at' = .pointer (some ⟨b, 0, none⟩) ∧ sz = .int .i64 z ∧ w.heap.size < b ∧ wr.heap[b]? = some (.cells #[.pointer q] 30 (0, 0)) ∧ wr.heap[w.heap.size]? = some (.cells #[.pointer p] 30 (0, 0)) ∧ PathR w q r ∧ z + (textR r).length = S ∧ Below w.heap.size w wr ∧ k = r.length)
  case atStart =>
    have BW := (Below.refl w1.heap.size w1).alloc (Nat.le_refl _) (.cells #[.pointer p] 30)
    exact ⟨p, n0 :: r0, w1.heap.size, 0, rfl, rfl, lt_of_block K0, heap_alloc_new _ _, keep BW K0, hp, by rw [HS.out]; simp, B1.trans (BW.mono B1.size), rfl⟩
  case round =>
    obtain ⟨q, r, b, z, rfl, rfl, hbw, hb, hb0, hq, hz, hbel, hk⟩ := hrel
    have HZ : Hid (z + (textR r).length = S) := hz
    have HK : Hid (gk = r.length) := hk
    clear hz hk K0 B1 c0 hpn
    have cb := cell_of_one hb
    have fb := free_of_one hb
    have lb := lt_of_block hb
    cases r with
    | cons n r1 =>
      obtain ⟨x, hh, rfl, hx, hr1⟩ := hq
      go_wp2_with fail
      refine (isRoot_any _ _).mono ?_
      rintro e w2 ⟨rfl, hb2⟩
      have b2 := keep hb2 hb
      have b20 := keep hb2 hb0
      have B2 := hbel.trans (hb2.mono hbel.size)
      have x2 := (B2.block x (lt_of_block hx)).trans hx
      have cb2 := cell_of_one b2
      have x20 := cell_block x2 0
      have x21 := cell_block x2 1
      simp at x20 x21
      clear cb fb hb2 hb hb0 hbel hx
      have HZ2 : Hid (z + (textR r1).length + segLen n = S) := by have := HZ.out; rw [textR_cons] at this; show _ = _; omega
      have hz1 : z + 1 + (preS n).size + n.size < 100000000 := by have := HZ2.out; unfold segLen at this; omega
      go_upto_region 8 with fail
      go_quiet ((go_at_call 43; exact Calls.quiet_of_same (prefixOf43 n _)))
      have b3 : (w2.drewN nq).heap[b]? = some (.cells #[.pointer (some ⟨x, 0, none⟩)] 30 (0, 0)) := b2
      have b30 : (w2.drewN nq).heap[w.heap.size]? = some (.cells #[.pointer p] 30 (0, 0)) := b20
      have x3 : (w2.drewN nq).heap[x]? = some (.cells #[.pointer hh, .string n, .int .i64 ((r1.length : Int) + 1)] 62 (0, 0)) := x2
      have B3 : Below w.heap.size w (w2.drewN nq) := below_drewN B2 nq
      clear b2 b20 x2 B2 cb2 x20 x21
      generalize w2.drewN nq = w3 at b3 b30 x3 B3 ⊢
      have cb3 := cell_of_one b3
      have x30 := cell_block x3 0
      simp at x30
      have l3 := lt_of_block b3
      have lx := lt_of_block x3
      go_wp2_with fail
      have BW := (Below.refl w3.heap.size w3).alloc (Nat.le_refl _) (.cells #[.pointer hh] 30)
      go_roundg r1.length
      case measure => rw [HK.out]; simp
      case rel => exact ⟨hh, r1, w3.heap.size, z + segLen n, rfl, by unfold segLen; go_num, by omega, heap_alloc_new _ _, keep BW b30, hr1, by have := HZ2.out; omega, B3.trans (BW.mono B3.size), rfl⟩
    | nil =>
      obtain rfl : q = none := hq
      have hzS : z = S := by have := HZ.out; simpa [textR] using this
      subst hzS
      go_wp2_with fail
      refine (isRoot_any _ _).mono ?_
      rintro e w2 ⟨rfl, hb2⟩
      have b20 := keep hb2 hb0
      have B2 := hbel.trans (hb2.mono hbel.size)
      clear cb fb hb2 hb hb0 hbel lb hbw HZ HK
      have hown2 : w2.ownsRow 0 5 1 v B.length (Lib.byteCells B) := Hown.out.kept (grownBy_below none B2) (by cases h : v.ownBlock <;> simp)
      obtain ⟨g, cap, cur, w3, hr, hg, hcl, hcap, hcm, htake, hgr, hgo⟩ := run_append_zeros w2 v B.length (Lib.byteCells B) hown2 z hSp (by omega) 23
      have b30 := grown_other hown2 hgr (by decide) b20
      have G3 : w.grownBy w3 v.ownBlock := grownBy_trans (grownBy_below _ B2) hgr (fun k hk _ => hk)
      have Hgo : Hid (g < w.heap.size → v.ownBlock = some g) := fun h => hgo (Nat.lt_of_lt_of_le h B2.size)
      have Htake : Hid (cur.take B.length = Lib.byteCells B) := htake
      have Hcl : Hid (cur.length = cap) := hcl
      have lN : w.heap.size < w3.heap.size := lt_of_block b30
      clear hgo htake hcl hgr hown2 b20
      have cN := cell_of_one b30
      go_wp2_with (at_builtin; refine Lib.wpList_append_run _ rfl _ _ _ _ rfl _ _ rfl rfl _ _ hr ?_)
      clear hr B2 cN
      obtain ⟨pre, R, hcur, hpl, hpt⟩ : ∃ pre R, cur = pre ++ R ∧ pre.length = B.length + z ∧ pre.take B.length = Lib.byteCells B := by
        refine ⟨cur.take (B.length + z), cur.drop (B.length + z), (List.take_append_drop _ _).symm, ?_, ?_⟩
        · rw [List.length_take]; have := Hcl.out; omega
        · rw [List.take_take, Nat.min_eq_left (by omega)]; exact Htake.out
      subst hcur
      clear Htake
      go_loopg [8, 9] (n0 :: r0).length (fun k en at' wr => ∃ (q : Option Addr) (r : List ByteArray) (b : Nat) (pre : List Value) (done : List UInt8), at' = .pointer (some ⟨b, 0, none⟩) ∧ en = .int .i64 ((B.length + (textR r).length : Nat) : Int) ∧ b ≠ g ∧ wr.heap[b]? = some (.cells #[.pointer q] 30 (0, 0)) ∧ PathR w q r ∧
        wr.heap[g]? = some (.cells (pre ++ (Lib.byteCells done ++ R)).toArray 5 (0, 0)) ∧ pre.length = B.length + (textR r).length ∧ pre.take B.length = Lib.byteCells B ∧ textR r ++ done = textR (n0 :: r0) ∧ w.grownBy wr v.ownBlock ∧ k = r.length)
      case atStart =>
        have BW := (Below.refl w3.heap.size w3).alloc (Nat.le_refl _) (.cells #[.pointer p] 30)
        have lg := lt_of_block hg
        exact ⟨p, n0 :: r0, w3.heap.size, pre, [], rfl, by rw [← HS.out]; go_num, by omega, heap_alloc_new _ _, hp, by simpa [Lib.byteCells] using keep BW hg, by rw [← HS.out]; exact hpl, hpt, by simp, grownBy_trans G3 (grownBy_below none BW) (fun k hk => by cases hk), rfl⟩
      case round =>
        have HC : Hid (B.length + z + R.length = cap) := by have := Hcl.out; rw [List.length_append, hpl] at this; exact this
        clear hpl hpt hg G3 b30 lN Hcl
        obtain ⟨q, r, b, pre1, done, rfl, hen, hbg, hb, hq, hgh, hpl, hpt, hdone, hG, hk⟩ := hrel
        have HK : Hid (gk = r.length) := hk
        have HD : Hid (textR r ++ done = textR (n0 :: r0)) := hdone
        have HPT : Hid (pre1.take B.length = Lib.byteCells B) := hpt
        clear hk hdone hpt
        have cb := cell_of_one hb
        have lb := lt_of_block hb
        cases r with
        | nil =>
          obtain rfl : q = none := hq
          go_wp2_with fail
          refine (isRoot_any _ _).mono ?_
          rintro e w4 ⟨rfl, hb4⟩
          have g4 := keep hb4 hgh
          have G4 := grownBy_trans hG (grownBy_below none hb4) (fun k hk => by cases hk)
          clear hb4 hb hgh hG cb lb
          have hpre : pre1 = Lib.byteCells B := by
            have h1 := HPT.out
            rw [List.take_of_length_le (by rw [hpl]; simp [textR])] at h1
            exact h1
          have hdn : done = textR (n0 :: r0) := by have := HD.out; simpa [textR] using this
          subst hpre
          go_wp2_with fail
          go_ret
          refine ⟨some ⟨g, 0, none⟩, cap, ?_, .inr ⟨g, 0, rfl, fun i hi => ?_⟩, G4⟩
          · rw [← HS.out]; rfl
          · rw [Nat.zero_add, cell_block g4 i, hdn]
            exact bytes_get B (textR (n0 :: r0)) R i hi
        | cons n r1 =>
          obtain ⟨x, hh, rfl, hx, hr1⟩ := hq
          obtain ⟨pf, hpf⟩ : ∃ pf, pf = preS n := ⟨_, rfl⟩
          obtain ⟨t, ht⟩ : ∃ t, t = (textR r1).length := ⟨_, rfl⟩
          have hpl2 : pre1.length = B.length + t + (1 + pf.size + n.size) := by rw [hpl, textR_cons, ht, hpf]; unfold segLen; omega
          obtain ⟨pre2, hp2l, hp2t, hp2e⟩ := round_cells (Lib.byteCells B) pre1 (Lib.byteCells done ++ R) n pf B.length t hpl2 HPT.out
          obtain ⟨e3, he3⟩ : ∃ e3, e3 = B.length + t := ⟨_, rfl⟩
          obtain ⟨e2, he2⟩ : ∃ e2, e2 = e3 + 1 := ⟨_, rfl⟩
          obtain ⟨e1, he1⟩ : ∃ e1, e1 = e2 + pf.size := ⟨_, rfl⟩
          obtain ⟨e0, he0⟩ : ∃ e0, e0 = e1 + n.size := ⟨_, rfl⟩
          obtain ⟨cur, hcur⟩ : ∃ cur, cur = pre1 ++ (Lib.byteCells done ++ R) := ⟨_, rfl⟩
          have hen0 : B.length + (textR (n :: r1)).length = e0 := by rw [textR_cons, ← ht]; unfold segLen; rw [← hpf]; omega
          have h01 : (e0 : Int) - (n.size : Int) = (e1 : Int) := by omega
          have h12 : (e1 : Int) - (pf.size : Int) = (e2 : Int) := by omega
          have h23 : (e2 : Int) - 1 = (e3 : Int) := by omega
          have hzz : t + (1 + pf.size + n.size) + done.length = z := by
            have h1 := congrArg List.length HD.out
            rw [List.length_append, textR_cons, ← HS.out, ← ht] at h1
            unfold segLen at h1
            rw [← hpf] at h1
            omega
          have hcurl : cur.length = cap := by
            have h1 := HC.out
            rw [hcur, List.length_append, List.length_append, Lib.byteCells_length]
            omega
          rw [← hcur] at hgh
          rw [hen0] at hen
          subst hen
          rw [← hcur] at hp2e
          have HE : Hid (((splice (splice cur e1 (Lib.byteCells n.data.toList)) e2 (Lib.byteCells pf.data.toList)).set e3 (.int .u8 47) = pre2 ++ ((.int .u8 47 :: (Lib.byteCells pf.data.toList ++ Lib.byteCells n.data.toList)) ++ (Lib.byteCells done ++ R))) ∧ pre2.length = B.length + (textR r1).length ∧ pre2.take B.length = Lib.byteCells B ∧ e3 = B.length + (textR r1).length ∧ pf = preS n ∧ cur.length = cap) := by
            refine ⟨?_, by rw [← ht]; exact hp2l, hp2t, by rw [← ht]; exact he3, hpf, hcurl⟩
            rw [he1, he2, he3]
            exact hp2e
          have k3 : e3 < B.length + z := by omega
          have k2 : e2 + pf.size ≤ e1 := by omega
          have k1 : e1 + n.size ≤ B.length + z := by omega
          have k4 : e3 + 1 ≤ e2 := by omega
          have hcl1 : B.length + z ≤ cur.length := by omega
          clear hcur hp2e hp2l hp2t hpl hpl2 HPT ht he0 he1 he2 he3 hen0 hcurl hzz
          have hx' := grown_other Hown.out hG (by decide) hx
          go_wp2_with fail
          refine (isRoot_any _ _).mono ?_
          rintro e w4 ⟨rfl, hb4⟩
          have b4 := keep hb4 hb
          have g4 := keep hb4 hgh
          have x4 := keep hb4 hx'
          have G4 := grownBy_trans hG (grownBy_below none hb4) (fun k hk => by cases hk)
          clear hb4 hb hgh hx' hx hG cb lb
          have cb4 := cell_of_one b4
          have x40 := cell_block x4 0
          have x41 := cell_block x4 1
          simp at x40 x41
          go_upto_region 18 with fail
          go_cut [] (fun wx => Hid (wx.heap[g]? = some (.cells (splice cur e1 (Lib.byteCells n.data.toList)).toArray 5 (0, 0))) ∧ w4.grownBy wx (some g))
          case first =>
            by_cases hce : e1 < cap
            · go_wp2_with (refine wpList_copy_str rfl (.tmp 70) (.tmp 71) 23 9 rfl 5 Try.underlying23 (by kernel_rfl) _ _ _ rfl n rfl g e1 cur 5 g4 ?c1 ?c2 ?c3 ?c4)
              case c4 =>
                intro w5 h5 h5'
                go_wp2_with fail
                go_meet
                case rel => exact ⟨h5, h5'⟩
              all_goals first | omega | (intro h0; first | omega | simp)
            · have hn0 : n.size = 0 := by omega
              go_wp2_with (refine wpList_copy_str rfl (.tmp 70) (.tmp 71) 23 9 rfl 5 Try.underlying23 (by kernel_rfl) _ _ _ rfl n rfl g e1 cur 5 g4 ?d1 ?d2 ?d3 ?d4)
              case d4 =>
                intro w5 h5 h5'
                go_wp2_with fail
                go_meet
                case rel => exact ⟨h5, h5'⟩
              all_goals first | omega | (intro h0; first | omega | simp)
          case rest =>
            obtain ⟨h5, h5'⟩ := hcut
            have hxg : x ≠ g := by
              rintro rfl
              rw [x4] at g4
              simp at g4
            have b5 := (h5'.block b (lt_of_block b4) (by simpa using hbg)).trans b4
            have x5 := (h5'.block x (lt_of_block x4) (by simpa using hxg)).trans x4
            have G5 := grownBy_trans G4 h5' (row_own Hgo)
            have HPF : Hid (pf = preS n) := hpf
            clear cb4 x40 x41 b4 x4 G4 h5' g4 hpf
            obtain ⟨cur2, hc2⟩ : ∃ cur2, cur2 = splice cur e1 (Lib.byteCells n.data.toList) := ⟨_, rfl⟩
            have hl2 : cur2.length = cur.length := by rw [hc2]; exact length_splice _ _ _ (by rw [bytes_len]; omega)
            have g5 : wc.heap[g]? = some (.cells cur2.toArray 5 (0, 0)) := by rw [hc2]; exact h5.out
            have HC2 : Hid (cur2 = splice cur e1 (Lib.byteCells n.data.toList) ∧ cur2.length = cur.length) := ⟨hc2, hl2⟩
            have hcl2 : B.length + z ≤ cur2.length := by omega
            clear h5 hc2 hl2
            go_wp2_with fail
            refine (prefixOf43 n _).mono ?_
            rintro e w5 ⟨rfl, rfl⟩
            rw [← HPF.out]
            go_upto_region 21 with fail
            go_cut [] (fun wx => Hid (wx.heap[g]? = some (.cells (splice cur2 e2 (Lib.byteCells pf.data.toList)).toArray 5 (0, 0))) ∧ w5.grownBy wx (some g))
            case first =>
              by_cases hce : e2 < cap
              · go_wp2_with (refine wpList_copy_str rfl (.tmp 82) (.tmp 83) 23 9 rfl 5 Try.underlying23 (by kernel_rfl) _ _ _ rfl pf rfl g e2 cur2 5 g5 ?e1 ?e2 ?e3 ?e4)
                case e4 =>
                  intro w6 h6 h6'
                  go_wp2_with fail
                  go_meet
                  case rel => exact ⟨h6, h6'⟩
                all_goals first | omega | (intro h0; first | omega | simp)
              · have hn0 : pf.size = 0 := by omega
                go_wp2_with (refine wpList_copy_str rfl (.tmp 82) (.tmp 83) 23 9 rfl 5 Try.underlying23 (by kernel_rfl) _ _ _ rfl pf rfl g e2 cur2 5 g5 ?f1 ?f2 ?f3 ?f4)
                case f4 =>
                  intro w6 h6 h6'
                  go_wp2_with fail
                  go_meet
                  case rel => exact ⟨h6, h6'⟩
                all_goals first | omega | (intro h0; first | omega | simp)
            case rest =>
              obtain ⟨h6, h6'⟩ := hcut
              have b6 := (h6'.block b (lt_of_block b5) (by simpa using hbg)).trans b5
              have x6 := (h6'.block x (lt_of_block x5) (by simpa using hxg)).trans x5
              have G6 := grownBy_trans G5 h6' (row_own Hgo)
              clear b5 x5 G5 h6' g5
              obtain ⟨cur3, hc3⟩ : ∃ cur3, cur3 = splice cur2 e2 (Lib.byteCells pf.data.toList) := ⟨_, rfl⟩
              have hl3 : cur3.length = cur2.length := by rw [hc3]; exact length_splice _ _ _ (by rw [bytes_len]; omega)
              have g6 : wc.heap[g]? = some (.cells cur3.toArray 5 (0, 0)) := by rw [hc3]; exact h6.out
              have HC3 : Hid (cur3 = splice cur2 e2 (Lib.byteCells pf.data.toList)) := hc3
              have hcl3 : B.length + z ≤ cur3.length := by omega
              clear h6 hc3 hl3
              obtain ⟨u, hu⟩ := cell_at g6 e3 (by omega)
              have hf := free_at g6 e3
              go_upto_region 24 with fail
              have g7 := set_block g6 e3 (.int .u8 47)
              have b7 := (Below.heap_setCell wc ⟨g, e3, none⟩ (.int .u8 47) b hbg).trans b6
              have x7 := (Below.heap_setCell wc ⟨g, e3, none⟩ (.int .u8 47) x hxg).trans x6
              have G7 : w.grownBy (wc.setCell ⟨g, e3, none⟩ (.int .u8 47)) v.ownBlock :=
                grownBy_trans G6 ⟨rfl, rfl, rfl, by simp [World.setCell], fun k _ hne => Below.heap_setCell _ _ _ _ (fun e => hne (by rw [e]))⟩ (row_own Hgo)
              clear hu hf g6 b6 x6 G6
              generalize wc.setCell ⟨g, e3, none⟩ (.int .u8 47) = w7 at g7 b7 x7 G7 ⊢
              have cb7 := cell_of_one b7
              have x70 := cell_block x7 0
              simp at x70
              have l7 := lt_of_block b7
              have lx7 := lt_of_block x7
              have lg7 := lt_of_block g7
              go_wp2_with fail
              have BW := (Below.refl w7.heap.size w7).alloc (Nat.le_refl _) (.cells #[.pointer hh] 30)
              obtain ⟨E1, E2, E3, E4, E5, E6⟩ := HE.out
              go_roundg r1.length
              case measure => rw [HK.out]; simp
              case rel => exact ⟨hh, r1, w7.heap.size, pre2, segL n ++ done, rfl, by rw [E4], by omega, heap_alloc_new _ _, hr1, by
                have h1 := keep BW g7
                rw [HC3.out, HC2.out.1, E1, seg_cells n done pf E5 R] at h1
                exact h1, E2, E3, by rw [← HD.out]; simp [textR], grownBy_trans G7 (grownBy_below none BW) (fun k hk => by cases hk), rfl⟩

end Go.Proofs.Qxb6603220a
