import Derived.Test.Qxb6603220aAdd
namespace Go.Proofs.Qxb6603220a
open Go.RowKit
open Go.ChangeMaps (setBlock)
set_option linter.unusedVariables false

theorem ready_made {w2 : World} {base bh : Nat} {y1 : Int} (hbase : base ≤ w2.heap.size) (hbb : base ≤ bh) (hnb : w2.heap[bh]? = some (.cells #[.int .i64 y1, .map none] 56 (0, 0))) :
    Ready w2 (((w2.setCell ⟨bh, 1, none⟩ (.map (some (w2.heap.size + 1)))).alloc (.cells #[.int .i64 0, .map none] 56)).alloc (.map #[] 0)) base bh (w2.heap.size + 1) none y1 [] 0 := by
  have hlt := lt_of_block hnb
  have hs : (w2.setCell ⟨bh, 1, none⟩ (.map (some (w2.heap.size + 1)))).heap.size = w2.heap.size := by simp [World.setCell]
  have hB : Below (w2.setCell ⟨bh, 1, none⟩ (.map (some (w2.heap.size + 1)))).heap.size (w2.setCell ⟨bh, 1, none⟩ (.map (some (w2.heap.size + 1)))) (((w2.setCell ⟨bh, 1, none⟩ (.map (some (w2.heap.size + 1)))).alloc (.cells #[.int .i64 0, .map none] 56)).alloc (.map #[] 0)) :=
    ((Below.refl _ _).alloc (Nat.le_refl _) _).alloc (by simp) _
  refine ⟨(fr_set hbb hnb).trans (Fr.of_below hB (by rw [hs]; exact hbase)), ?_, keep hB (two_set1 hnb), heap_alloc_at _ _ _ (by simp [hs]), .inr ⟨rfl, by omega⟩, fun k o hk h1 _ => keep hB (set_kept k o hk h1)⟩
  rw [Below.heap_alloc _ _ _ (by simp [hs])]
  exact heap_alloc_at _ _ _ hs.symm

theorem ready_there {w2 : World} {base bh kh : Nat} {y1 : Int} {es : List MapEntry} {cl : Nat} (hbase : base ≤ w2.heap.size) (hnb : w2.heap[bh]? = some (.cells #[.int .i64 y1, .map (some kh)] 56 (0, 0))) (he : w2.heap[kh]? = some (.map es.toArray cl)) :
    Ready w2 (w2.alloc (.cells #[.int .i64 0, .map none] 56)) base bh kh (some kh) y1 es cl := by
  have hB : Below w2.heap.size w2 (w2.alloc (.cells #[.int .i64 0, .map none] 56)) := (Below.refl _ _).alloc (Nat.le_refl _) _
  exact ⟨Fr.of_below hB hbase, heap_alloc_new _ _, keep hB hnb, keep hB he, .inl rfl, fun k o hk _ _ => keep hB hk⟩

def AddSaid (base : Nat) (c : Nat) (d : Int) (D : List ByteArray → Option (Nat × Option Nat)) (cnt : List ByteArray → Int) (r : List ByteArray) : Prop :=
  ∀ (p : Option Addr) (w : World), PathR w p r → Tri w base D cnt → base ≤ w.heap.size →
    Calls Try.prog 38 #[.pointer (some ⟨c, 0, none⟩), .agg #[.pointer p], .int .i64 d] w fun e w' => AddPost base cnt c r d w e w'

set_option maxHeartbeats 4000000 in
theorem add_child {base : Nat} {D : List ByteArray → Option (Nat × Option Nat)} {cnt : List ByteArray → Int} {c : Nat} {d : Int} (hd : d = 1 ∨ d = -1) (hbd : ∀ q, -1000 ≤ cnt q ∧ cnt q ≤ 1000) (hm : Mono cnt) (n : ByteArray) (r1 : List ByteArray) (ih : AddSaid base c d D cnt r1) :
    AddSaid base c d D cnt (n :: r1) := by
  intro p w hp ht hbase
  obtain ⟨x, hh, rfl, hx, hr1⟩ := hp
  have HT : Hid (Tri w base D cnt) := ht
  have HM : Hid (Mono cnt) := hm
  have HB : Hid (∀ q, -1000 ≤ cnt q ∧ cnt q ≤ 1000) := hbd
  have HD : Hid (d = 1 ∨ d = -1) := hd
  have hd1 : -1 ≤ d := by omega
  have hd2 : d ≤ 1 := by omega
  have hd0 : (d == 0) = false := beq_eq_false_iff_ne.2 (by omega)
  clear ht hm hbd hd
  go_enter Try.func38, Try.ntmps38
  go_wp2_with fail
  refine (isRoot_any _ _).mono ?_
  rintro e w1 ⟨rfl, hb1⟩
  have K0 := keep hb1 (heap_alloc_new w (.cells #[.pointer (some ⟨x, 0, none⟩)] 30))
  have B1 : Below w.heap.size w w1 := ((Below.refl _ _).alloc (Nat.le_refl _) _).trans (hb1.mono (by simp))
  have x1 := keep B1 hx
  have hr2 := hr1.below B1
  have c0 := cell_of_one K0
  have x10 := cell_block x1 0
  simp at x10
  clear hb1 hx hr1
  go_wp2_with fail
  refine (ih hh _ hr2 (HT.out.below B1) (Nat.le_trans hbase B1.size)).mono ?_
  rintro e w2 ⟨bh, mh, mc, D1, rfl, hD1, hD10, T2, F2⟩
  have K2 := F2.kept _ _ K0 (by simp [notTree])
  have x2 := F2.kept _ _ x1 (by simp [notTree])
  have H : Behind base cnt c r1 d w w2 bh mh mc D1 := ⟨hD1, hD10, T2, (Fr.of_below B1 hbase).trans F2⟩
  have hbase2 : base ≤ w2.heap.size := Nat.le_trans hbase H.fr.below.size
  clear c0 x10 x1 K0 hr2 B1 F2 T2 hD1 hD10 HT
  have cK := cell_of_one K2
  have x21 := cell_block x2 1
  simp at x21
  obtain ⟨hbb, hnb⟩ := H.tri.node r1 bh mh H.hold
  obtain ⟨y1, hy1⟩ : ∃ y1, y1 = bump cnt r1 d r1 := ⟨_, rfl⟩
  rw [← hy1] at hnb
  have nb1 := cell_block hnb 1
  have nf1 := free_at hnb 1
  simp at nb1
  have hlk := H.tri.lookup H.hold n
  have HY1 : Hid (y1 = bump cnt r1 d r1) := hy1
  clear hy1
  by_cases hz : cnt (n :: r1) = 0
  · have hz1 : bump cnt r1 d (n :: r1) = 0 := by rw [bump_kid]; exact hz
    rw [nodeOf_cons0 hz1] at hlk
    have HZ : Hid (cnt (n :: r1) = 0) := hz
    clear hz hz1
    have lbh := lt_of_block hnb
    have hqm := fun w => run_eql_map_nil (P := Try.prog) w 54 9 45 mh Try.underlying54
    have hmm := @run_makeMap Try.prog
    go_upto_if 48 with fail
    go_cut [] (fun wx => ∃ kh es cl, Ready w2 wx base bh kh mh y1 es cl ∧ KeysOk es ∧ ∀ m, look es m = if bump cnt r1 d (m :: r1) = 0 then none else (D1 (m :: r1)).map (fun x => Value.pointer (some ⟨x.1, 0, none⟩)))
    case first =>
      cases mh with
      | none =>
        go_wp2_with fail
        go_meet
        case rel => exact ⟨_, [], 0, ready_made hbase2 hbb hnb, KeysOk.nil, fun m => by rw [if_pos (H.tri.noMap r1 bh H.hold m)]; rfl⟩
      | some kh =>
        go_wp2_with fail
        go_meet
        case rel =>
          obtain ⟨_, es, cl, h2, h3, h4⟩ := H.tri.inMap r1 bh kh H.hold
          exact ⟨kh, es, cl, ready_there hbase2 hnb h2, h3, h4⟩
    case rest =>
      obtain ⟨kh, es, cl, R, hko, hl⟩ := hcut
      have HL : Hid (KeysOk es ∧ ∀ m, look es m = if bump cnt r1 d (m :: r1) = 0 then none else (D1 (m :: r1)).map (fun x => Value.pointer (some ⟨x.1, 0, none⟩))) := ⟨hko, hl⟩
      have hln : look es n = none := by rw [hl n, if_pos (by rw [bump_kid]; exact HZ.out)]
      have hupd := run_update_new R.map hko n hln (.pointer (some ⟨w2.heap.size, 0, none⟩))
      have hb1 := cell_block R.holder 1
      simp at hb1
      have hnk : w2.heap.size ≠ kh := by
        intro e
        have h1 := R.new
        rw [e, R.map] at h1
        cases h1
      obtain ⟨W1, hW1⟩ : ∃ W1, W1 = setBlock wc kh (.map (es ++ [({ key := .string n, val := .pointer (some ⟨w2.heap.size, 0, none⟩), born := cl } : MapEntry)]).toArray (cl + 1)) := ⟨_, rfl⟩
      rw [← hW1] at hupd
      have g1 : W1.heap[w2.heap.size]? = some (.cells #[.int .i64 0, .map none] 56 (0, 0)) := by
        rw [hW1, Go.ChangeMaps.heap_setBlock_other R.map _ hnk]
        exact R.new
      have g10 := cell_block g1 0
      have g1f := free_at g1 0
      simp at g10
      have HW : Hid (W1 = setBlock wc kh (.map (es ++ [({ key := .string n, val := .pointer (some ⟨w2.heap.size, 0, none⟩), born := cl } : MapEntry)]).toArray (cl + 1))) := hW1
      clear hW1 hl hko hln hqm hmm hlk nb1 nf1 lbh hnk
      go_wp2_with fail
      go_ret
      have hend := post_hang H hbase2 (by have := HD.out; omega) HZ.out HM.out (by rw [← HY1.out]; exact R) HL.out.1 HL.out.2 (.returned (.pointer (some ⟨w2.heap.size, 0, none⟩))) rfl
      rw [← HW.out] at hend
      exact hend
  · have hz1 : bump cnt r1 d (n :: r1) ≠ 0 := by rw [bump_kid]; exact hz
    have hne1 : D1 r1 ≠ none := by rw [H.hold]; simp
    have hne := H.tri.kid r1 n hne1 hz1
    obtain ⟨⟨ba, ma⟩, ha⟩ : ∃ y, D1 (n :: r1) = some y := Option.ne_none_iff_exists'.1 hne
    rw [nodeOf_cons1 hz1 ha] at hlk
    obtain ⟨y, hy⟩ : ∃ y, y = bump cnt r1 d (n :: r1) := ⟨_, rfl⟩
    obtain ⟨hab, hna⟩ := H.tri.node _ ba ma ha
    rw [← hy] at hna
    have hyb : -1000 ≤ y ∧ y ≤ 1000 := by rw [hy, bump_kid]; exact HB.out _
    obtain ⟨hyb1, hyb2⟩ := hyb
    have na0 := cell_block hna 0
    have nf0 := free_at hna 0
    simp at na0
    by_cases hs : y + d = 0
    · have hmh : ∃ kh, mh = some kh := by
        cases mh with
        | none => exact absurd (H.tri.noMap r1 bh H.hold n) hz1
        | some kh => exact ⟨kh, rfl⟩
      obtain ⟨kh, rfl⟩ := hmh
      obtain ⟨_, es, cl, h2, h3, h4⟩ := H.tri.inMap r1 bh kh H.hold
      have hln : look es n = some (.pointer (some ⟨ba, 0, none⟩)) := by rw [h4 n, if_neg hz1, ha]; rfl
      obtain ⟨A, en, B, rfl, hkey, _, hfind⟩ := find_some h3 hln
      have hf0 := hfind 0
      rw [Nat.zero_add] at hf0
      have hne2 : ba ≠ kh := H.tri.apart ha H.hold
      have hne3 : ba ≠ bh := fun e => cons_ne n r1 (H.tri.injB _ _ bh ma (some kh) (e ▸ ha) H.hold)
      obtain ⟨w3, hw3⟩ : ∃ w3, w3 = w2.setCell ⟨ba, 0, none⟩ (.int .i64 0) := ⟨_, rfl⟩
      have e3 : w3.heap[kh]? = some (.map (A ++ en :: B).toArray cl) := by rw [hw3]; exact set_kept kh _ h2 (fun e => hne2 e.symm)
      have hdel := fun ty => run_delete e3 (.pointer (some ⟨ba, 0, none⟩)) hf0 ty
      have b3 : w3.heap[bh]? = some (.cells #[.int .i64 y1, .map (some kh)] 56 (0, 0)) := by rw [hw3]; exact set_kept bh _ hnb (fun e => hne3 e.symm)
      have b31 := cell_block b3 1
      simp at b31
      have a3 : w3.heap[ba]? = some (.cells #[.int .i64 0, .map ma] 56 (0, 0)) := by rw [hw3]; exact two_set hna
      have a30 := cell_block a3 0
      simp at a30
      have HA : Hid (D1 (n :: r1) = some (ba, ma) ∧ bump cnt r1 d (n :: r1) + d = 0 ∧ w2.heap[kh]? = some (.map (A ++ en :: B).toArray cl) ∧ KeysOk (A ++ en :: B) ∧ en.key = .string n) := ⟨ha, by rw [← hy]; exact hs, h2, h3, hkey⟩
      have HW : Hid (w3 = w2.setCell ⟨ba, 0, none⟩ (.int .i64 0)) := hw3
      clear ha hy hz hz1 hne hne1 hw3 h2 h3 h4 hln hkey hfind hf0 hne2 hne3
      go_upto_region 13 with fail
      rw [← HW.out]
      clear nb1 nf1 na0 nf0 hlk cK x21 hs hnb hna
      go_wp2_with fail
      go_ret
      have hend := post_drop H HA.out.1 HA.out.2.1 HA.out.2.2.1 HA.out.2.2.2.1 HA.out.2.2.2.2 (.returned (.pointer (some ⟨ba, 0, none⟩))) rfl
      rw [← HW.out] at hend
      exact hend
    · have hsb : (y + d == 0) = false := beq_eq_false_iff_ne.2 hs
      have HA : Hid (D1 (n :: r1) = some (ba, ma) ∧ y = bump cnt r1 d (n :: r1) ∧ y ≠ 0 ∧ y + d ≠ 0) := ⟨ha, hy, by rw [hy]; exact hz1, hs⟩
      clear hs ha hy hz hz1 hne hne1
      go_wp2_with fail
      go_ret
      exact post_store H HA.out.1 y HA.out.2.1 HA.out.2.2.1 HA.out.2.2.2 _ rfl

theorem add_any {base : Nat} {D : List ByteArray → Option (Nat × Option Nat)} {cnt : List ByteArray → Int} {c : Nat} {mc : Option Nat} (h0 : D [] = some (c, mc)) {d : Int} (hd : d = 1 ∨ d = -1) (hbd : ∀ q, -1000 ≤ cnt q ∧ cnt q ≤ 1000) (hm : Mono cnt) :
    ∀ r, AddSaid base c d D cnt r
  | [] => fun p w hp ht hbase => by
    obtain rfl : p = none := hp
    exact add_root h0 d hd hbd w ht hbase
  | n :: r => add_child hd hbd hm n r (add_any h0 hd hbd hm r)

theorem zzadd_any {base : Nat} {D : List ByteArray → Option (Nat × Option Nat)} {cnt : List ByteArray → Int} {c : Nat} {mc : Option Nat} (h0 : D [] = some (c, mc)) {d : Int} (hd : d = 1 ∨ d = -1) (hbd : ∀ q, -1000 ≤ cnt q ∧ cnt q ≤ 1000) (hm : Mono cnt)
    (r : List ByteArray) (p : Option Addr) (w : World) (hp : PathR w p r) (ht : Tri w base D cnt) (hbase : base ≤ w.heap.size) :
    Calls Try.prog 29 #[.pointer (some ⟨c, 0, none⟩), .agg #[.pointer p], .int .i64 d] w fun e w' => AddPost base cnt c r d w e w' := by
  have BW := (Below.refl w.heap.size w).alloc (Nat.le_refl _) (.cells #[.pointer p] 30)
  have HC : Hid (Calls Try.prog 38 #[.pointer (some ⟨c, 0, none⟩), .agg #[.pointer p], .int .i64 d] (w.alloc (.cells #[.pointer p] 30)) fun e w' => AddPost base cnt c r d (w.alloc (.cells #[.pointer p] 30)) e w') :=
    add_any h0 hd hbd hm r p _ (hp.below BW) (ht.below BW) (Nat.le_trans hbase BW.size)
  clear hd hbd hm ht hp h0
  go_enter Try.func29, Try.ntmps29
  go_wp2_with fail
  refine HC.out.mono ?_
  rintro e w1 ⟨b, m, mc', D', rfl, h1, h2, h3, h4⟩
  have H : Hid (AddPost base cnt c r d w (.returned (.pointer (some ⟨b, 0, none⟩))) w1) := ⟨b, m, mc', D', rfl, h1, h2, h3, (Fr.of_below BW hbase).trans h4⟩
  clear h1 h2 h3 h4 HC BW
  go_wp2_with fail
  go_ret
  exact H.out

theorem zzat_any {base : Nat} {D : List ByteArray → Option (Nat × Option Nat)} {cnt : List ByteArray → Int} {c : Nat} {mc : Option Nat} (h0 : D [] = some (c, mc)) (hm : Mono cnt) (r : List ByteArray) (p : Option Addr) (w : World) (hp : PathR w p r) (ht : Tri w base D cnt) :
    Calls Try.prog 32 #[.pointer (some ⟨c, 0, none⟩), .agg #[.pointer p]] w fun e w' => e = .returned (.pointer (nodeOf D cnt r)) ∧ Below w.heap.size w w' := by
  have BW := (Below.refl w.heap.size w).alloc (Nat.le_refl _) (.cells #[.pointer p] 30)
  have HC : Hid (Calls Try.prog 39 #[.pointer (some ⟨c, 0, none⟩), .agg #[.pointer p]] (w.alloc (.cells #[.pointer p] 30)) fun e w' => e = .returned (.pointer (nodeOf D cnt r)) ∧ Below (w.alloc (.cells #[.pointer p] 30)).heap.size (w.alloc (.cells #[.pointer p] 30)) w') := at_any h0 hm r p _ (hp.below BW) (ht.below BW)
  clear hm ht hp h0
  go_enter Try.func32, Try.ntmps32
  go_wp2_with fail
  refine HC.out.mono ?_
  rintro e w1 ⟨rfl, hb⟩
  have B := BW.trans (hb.mono (by simp))
  clear HC
  go_wp2_with fail
  go_ret
  exact ⟨rfl, B⟩

theorem newCount_any (w : World) :
    Calls Try.prog 28 #[] w fun e w' => e = .returned (.pointer (some ⟨w.heap.size, 0, none⟩)) ∧ w.alloc (.cells #[.int .i64 0, .map none] 56) = w' := by
  go_enter Try.func28, Try.ntmps28
  go_wp2
  go_ret
  exact ⟨rfl, rfl⟩

theorem countOf_any {w : World} {b : Nat} {x : Int} {m : Option Nat} (h : w.heap[b]? = some (.cells #[.int .i64 x, .map m] 56 (0, 0))) :
    Calls Try.prog 31 #[.pointer (some ⟨b, 0, none⟩)] w fun e w' => e = .returned (.int .i64 x) ∧ w' = w := by
  have h0 := cell_block h 0
  simp at h0
  go_enter Try.func31, Try.ntmps31
  go_wp2
  go_ret
  exact ⟨rfl, rfl⟩

theorem min_any (a b : Nat) (w : World) (ha : a ≤ 9223372036854775807) (hb : b ≤ 9223372036854775807) :
    Calls Try.prog 27 #[.int .i64 (a : Int), .int .i64 (b : Int)] w fun e w' => e = .returned (.int .i64 ((min a b : Nat) : Int)) ∧ w' = w := by
  by_cases h : a < b
  · have e : min a b = a := by omega
    rw [e]
    clear e
    go_enter Try.func27, Try.ntmps27
    go_wp2
    go_ret
    exact ⟨rfl, rfl⟩
  · have e : min a b = b := by omega
    rw [e]
    clear e
    go_enter Try.func27, Try.ntmps27
    go_wp2
    go_ret
    exact ⟨rfl, rfl⟩

theorem tri_new (w : World) : Tri (w.alloc (.cells #[.int .i64 0, .map none] 56)) w.heap.size (fun r => if r = [] then some (w.heap.size, none) else none) (fun _ => 0) := by
  refine ⟨fun r b m h => ?_, fun _ _ _ _ => rfl, fun r b k h => ?_, fun r n _ h => absurd rfl h, fun r r' b m m' h h' => ?_, fun r r' b b' k h h' => ?_⟩
  · split at h
    · simp at h
      obtain ⟨rfl, rfl⟩ := h
      exact ⟨Nat.le_refl _, heap_alloc_new _ _⟩
    · cases h
  · split at h
    · simp at h
    · cases h
  · split at h
    · rename_i e
      split at h'
      · rename_i e'
        rw [e, e']
      · cases h'
    · cases h
  · split at h
    · simp at h
    · cases h

end Go.Proofs.Qxb6603220a
