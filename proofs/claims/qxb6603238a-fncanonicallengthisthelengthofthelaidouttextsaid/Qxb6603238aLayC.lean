import Derived.Test.Qxb6603238aLayB
namespace Go.Proofs.Qxb6603238a
open Go.RowKit
set_option linter.unusedVariables false

set_option maxHeartbeats 4000000 in
theorem lay_downA (neg : Bool) (d : ByteArray) (P pad : Nat) (hd : d.size ≤ 1048576) (h0 : 0 < d.size) (hP : P ≤ 65536) (hP1 : 0 < P) (hcA : d.size ≤ P) (hcB : P + 1 ≤ pad + d.size) (hcC : pad + d.size ≤ P + 1) (w : World) :
    Calls Try.prog 7 #[.bool neg, .string d, .int .i64 (-(P : Int))] w fun r w' => LayPost w (pad + d.size + 1 + (if neg then 1 else 0)) r w' := by
  have hl : d.toList.isEmpty = false := list_nonempty (by omega)
  obtain ⟨i, hi, hz0, hsize, hby⟩ := info_parts infoB
  go_enter Try.func7, Try.ntmps7
  go_wp2_with (at_make; refine wpList_make_own _ rfl _ _ 24 rfl w.heap.size 5 i (.int .u8 0) 1 Try.underlying24 hi hz0 hsize _ _ _ (pad + d.size) rfl rfl (by omega) ?b1 ?b2 ?b3 ?_)
  case b1 => rw [hby]; omega
  case b2 => unfold maxLen; omega
  case b3 => omega
  intro w1 hown hgr
  have H1 := Own.made hown hgr
  generalize hv1 : Value.slice (some ⟨w.heap.size, 0, none⟩) 0 (pad + d.size) = v1 at H1 ⊢
  clear hown hgr hv1
  go_wp2_with fail
  go_loopw [7, 11] (fun v i wr => ∃ (k : Nat), k ≤ pad ∧ i = .int .i64 k ∧ Own w wr v k) (fun _ i _ => pad - (intOf i).toNat)
  case atStart => exact ⟨0, Nat.zero_le _, rfl, H1⟩
  case round =>
    clear H1
    obtain ⟨k, hk, rfl, hO⟩ := hrel
    by_cases hlt : k < pad
    · go_wp2_with (at_builtin; refine wpList_app1 rfl (.tmp 56) (.tmp 57) rfl w wr u7 k rfl hO _ rfl (by omega) ?_)
      intro v' w' hO'
      clear hO
      go_wp2_with fail
      go_roundw
      case rel => exact ⟨k + 1, by omega, by go_num, hO'⟩
      case measure => simp [intOf]; omega
    · obtain rfl : k = pad := by omega
      clear hk hlt
      go_wp2_with (at_builtin; refine wpList_appS rfl (.tmp 59) (.tmp 60) rfl w wr u7 k rfl hO d rfl (by omega) ?_)
      intro v2 w2 H2
      clear hO
      obtain ⟨m, hm⟩ : ∃ m, m = k + d.size - P := ⟨_, rfl⟩
      have HN : Hid (k + d.size = m + P) := by show _ = _; omega
      rw [HN.out] at H2
      have hm0 : 0 < m := by omega
      have hmn : m + P ≤ 1200000 := by omega
      obtain ⟨g, c, xs, rfl, hnc, hcm, hg, hxl, hx1, hxc⟩ := H2.at (by omega)
      have B2 := H2.below
      clear H2 hm hd hl h0 hcA hcB hcC
      have hP0 : ((P : Int) == 0) = false := beq_eq_false_iff_ne.2 (by omega)
      go_wp2_with (at_make; refine wpList_make_own _ rfl _ _ 24 rfl w2.heap.size 5 i (.int .u8 0) 1 Try.underlying24 hi hz0 hsize _ _ _ (m + P + 2) rfl rfl (by omega) ?b1 ?b2 ?b3 ?_)
      case b1 => rw [hby]; omega
      case b2 => unfold maxLen; omega
      case b3 => omega
      intro w3 hown hgr
      have H3 := Own.made hown hgr
      generalize hv3 : Value.slice (some ⟨w2.heap.size, 0, none⟩) 0 (m + P + 2) = v3 at H3 ⊢
      clear hown hgr hv3
      cases neg
      · have hca : ∀ (j : Nat) u, (xs.take m)[j]? = some u → w3.cell? ((⟨g, 0, none⟩ : Addr).add j) = some u := by
          intro j u hj
          have hjm : j < m := by
            rcases Nat.lt_or_ge j m with h | h
            · exact h
            · rw [List.getElem?_eq_none (by rw [List.length_take]; omega)] at hj; cases hj
          rw [addr_add, Nat.zero_add, H3.below.cell (p := ⟨g, j, none⟩) hg]
          rw [List.getElem?_take_of_lt hjm] at hj
          exact hxc j u hj
        go_wp2_with (at_builtin; refine wpList_appSl rfl (.tmp 79) (.tmp 82) rfl w2 w3 v3 0 rfl H3 ⟨g, 0, none⟩ m c (xs.take m) rfl (by rw [List.length_take]; omega) hca (fun u hu => hx1 u (List.mem_of_mem_take hu)) (by omega) ?_)
        intro v5 w5 H5
        clear H3 hca
        have H5' : Own w2 w5 v5 (0 + m) := by simpa using H5
        clear H5
        go_wp2_with (at_builtin; refine wpList_app1 rfl (.tmp 84) (.tmp 85) rfl w2 w5 v5 (0 + m) rfl H5' _ rfl (by omega) ?_)
        intro v6 w6 H6
        clear H5'
        have H6' : Own w2 w6 v6 (0 + m + 1) := by simpa using H6
        clear H6
        have hcb : ∀ (j : Nat) u, (xs.drop m)[j]? = some u → w6.cell? ((⟨g, m, none⟩ : Addr).add j) = some u := by
          intro j u hj
          rw [addr_add, H6'.below.cell (p := ⟨g, m + j, none⟩) hg]
          rw [List.getElem?_drop] at hj
          exact hxc _ u hj
        go_wp2_with (at_builtin; refine wpList_appSl rfl (.tmp 87) (.tmp 90) rfl w2 w6 v6 (0 + m + 1) rfl H6' ⟨g, m, none⟩ P (c - m) (xs.drop m) ?hx (by rw [List.length_drop]; omega) hcb (fun u hu => hx1 u (List.mem_of_mem_drop hu)) (by omega) ?_)
        case hx => rfl
        intro v' w' hO'
        have hv : ∃ a c, v' = .slice a (m + P + 1 + 0) c := by
          obtain ⟨g', c', _, hv, _⟩ := hO'.at (by omega)
          exact ⟨some ⟨g', 0, none⟩, c', by rw [hv]; congr 1; omega⟩
        obtain ⟨a', c', rfl⟩ := hv
        go_wp2_with fail
        go_ret
        exact ⟨a', c', by rw [HN.out]; rfl, B2.trans (hO'.below.mono B2.size)⟩
      · go_wp2_with (at_builtin; refine wpList_app1 rfl (.tmp 67) (.tmp 68) rfl w2 w3 v3 0 rfl H3 _ rfl (by omega) ?_)
        intro v4 w4 H4
        clear H3
        have hca : ∀ (j : Nat) u, (xs.take m)[j]? = some u → w4.cell? ((⟨g, 0, none⟩ : Addr).add j) = some u := by
          intro j u hj
          have hjm : j < m := by
            rcases Nat.lt_or_ge j m with h | h
            · exact h
            · rw [List.getElem?_eq_none (by rw [List.length_take]; omega)] at hj; cases hj
          rw [addr_add, Nat.zero_add, H4.below.cell (p := ⟨g, j, none⟩) hg]
          rw [List.getElem?_take_of_lt hjm] at hj
          exact hxc j u hj
        go_wp2_with (at_builtin; refine wpList_appSl rfl (.tmp 79) (.tmp 82) rfl w2 w4 v4 1 rfl H4 ⟨g, 0, none⟩ m c (xs.take m) rfl (by rw [List.length_take]; omega) hca (fun u hu => hx1 u (List.mem_of_mem_take hu)) (by omega) ?_)
        intro v5 w5 H5
        clear H4 hca
        have H5' : Own w2 w5 v5 (1 + m) := by simpa using H5
        clear H5
        go_wp2_with (at_builtin; refine wpList_app1 rfl (.tmp 84) (.tmp 85) rfl w2 w5 v5 (1 + m) rfl H5' _ rfl (by omega) ?_)
        intro v6 w6 H6
        clear H5'
        have H6' : Own w2 w6 v6 (1 + m + 1) := by simpa using H6
        clear H6
        have hcb : ∀ (j : Nat) u, (xs.drop m)[j]? = some u → w6.cell? ((⟨g, m, none⟩ : Addr).add j) = some u := by
          intro j u hj
          rw [addr_add, H6'.below.cell (p := ⟨g, m + j, none⟩) hg]
          rw [List.getElem?_drop] at hj
          exact hxc _ u hj
        go_wp2_with (at_builtin; refine wpList_appSl rfl (.tmp 87) (.tmp 90) rfl w2 w6 v6 (1 + m + 1) rfl H6' ⟨g, m, none⟩ P (c - m) (xs.drop m) ?hx (by rw [List.length_drop]; omega) hcb (fun u hu => hx1 u (List.mem_of_mem_drop hu)) (by omega) ?_)
        case hx => rfl
        intro v' w' hO'
        have hv : ∃ a c, v' = .slice a (m + P + 1 + 1) c := by
          obtain ⟨g', c', _, hv, _⟩ := hO'.at (by omega)
          exact ⟨some ⟨g', 0, none⟩, c', by rw [hv]; congr 1; omega⟩
        obtain ⟨a', c', rfl⟩ := hv
        go_wp2_with fail
        go_ret
        exact ⟨a', c', by rw [HN.out]; rfl, B2.trans (hO'.below.mono B2.size)⟩

set_option maxHeartbeats 4000000 in
theorem lay_downB (neg : Bool) (d : ByteArray) (P pad : Nat) (hd : d.size ≤ 1048576) (h0 : 0 < d.size) (hP : P ≤ 65536) (hP1 : 0 < P) (hcA : P < d.size) (hcB : pad ≤ 0) (hcC : 0 ≤ pad) (w : World) :
    Calls Try.prog 7 #[.bool neg, .string d, .int .i64 (-(P : Int))] w fun r w' => LayPost w (pad + d.size + 1 + (if neg then 1 else 0)) r w' := by
  have hl : d.toList.isEmpty = false := list_nonempty (by omega)
  obtain ⟨i, hi, hz0, hsize, hby⟩ := info_parts infoB
  go_enter Try.func7, Try.ntmps7
  go_wp2_with (at_make; refine wpList_make_own _ rfl _ _ 24 rfl w.heap.size 5 i (.int .u8 0) 1 Try.underlying24 hi hz0 hsize _ _ _ (pad + d.size) rfl rfl (by omega) ?b1 ?b2 ?b3 ?_)
  case b1 => rw [hby]; omega
  case b2 => unfold maxLen; omega
  case b3 => omega
  intro w1 hown hgr
  have H1 := Own.made hown hgr
  generalize hv1 : Value.slice (some ⟨w.heap.size, 0, none⟩) 0 (pad + d.size) = v1 at H1 ⊢
  clear hown hgr hv1
  go_wp2_with fail
  go_loopw [7, 11] (fun v i wr => ∃ (k : Nat), k ≤ pad ∧ i = .int .i64 k ∧ Own w wr v k) (fun _ i _ => pad - (intOf i).toNat)
  case atStart => exact ⟨0, Nat.zero_le _, rfl, H1⟩
  case round =>
    clear H1
    obtain ⟨k, hk, rfl, hO⟩ := hrel
    by_cases hlt : k < pad
    · omega
    · obtain rfl : k = pad := by omega
      clear hk hlt
      go_wp2_with (at_builtin; refine wpList_appS rfl (.tmp 59) (.tmp 60) rfl w wr u7 k rfl hO d rfl (by omega) ?_)
      intro v2 w2 H2
      clear hO
      obtain ⟨m, hm⟩ : ∃ m, m = k + d.size - P := ⟨_, rfl⟩
      have HN : Hid (k + d.size = m + P) := by show _ = _; omega
      rw [HN.out] at H2
      have hm0 : 0 < m := by omega
      have hmn : m + P ≤ 1200000 := by omega
      obtain ⟨g, c, xs, rfl, hnc, hcm, hg, hxl, hx1, hxc⟩ := H2.at (by omega)
      have B2 := H2.below
      clear H2 hm hd hl h0 hcA hcB hcC
      have hP0 : ((P : Int) == 0) = false := beq_eq_false_iff_ne.2 (by omega)
      go_wp2_with (at_make; refine wpList_make_own _ rfl _ _ 24 rfl w2.heap.size 5 i (.int .u8 0) 1 Try.underlying24 hi hz0 hsize _ _ _ (m + P + 2) rfl rfl (by omega) ?b1 ?b2 ?b3 ?_)
      case b1 => rw [hby]; omega
      case b2 => unfold maxLen; omega
      case b3 => omega
      intro w3 hown hgr
      have H3 := Own.made hown hgr
      generalize hv3 : Value.slice (some ⟨w2.heap.size, 0, none⟩) 0 (m + P + 2) = v3 at H3 ⊢
      clear hown hgr hv3
      cases neg
      · have hca : ∀ (j : Nat) u, (xs.take m)[j]? = some u → w3.cell? ((⟨g, 0, none⟩ : Addr).add j) = some u := by
          intro j u hj
          have hjm : j < m := by
            rcases Nat.lt_or_ge j m with h | h
            · exact h
            · rw [List.getElem?_eq_none (by rw [List.length_take]; omega)] at hj; cases hj
          rw [addr_add, Nat.zero_add, H3.below.cell (p := ⟨g, j, none⟩) hg]
          rw [List.getElem?_take_of_lt hjm] at hj
          exact hxc j u hj
        go_wp2_with (at_builtin; refine wpList_appSl rfl (.tmp 79) (.tmp 82) rfl w2 w3 v3 0 rfl H3 ⟨g, 0, none⟩ m c (xs.take m) rfl (by rw [List.length_take]; omega) hca (fun u hu => hx1 u (List.mem_of_mem_take hu)) (by omega) ?_)
        intro v5 w5 H5
        clear H3 hca
        have H5' : Own w2 w5 v5 (0 + m) := by simpa using H5
        clear H5
        go_wp2_with (at_builtin; refine wpList_app1 rfl (.tmp 84) (.tmp 85) rfl w2 w5 v5 (0 + m) rfl H5' _ rfl (by omega) ?_)
        intro v6 w6 H6
        clear H5'
        have H6' : Own w2 w6 v6 (0 + m + 1) := by simpa using H6
        clear H6
        have hcb : ∀ (j : Nat) u, (xs.drop m)[j]? = some u → w6.cell? ((⟨g, m, none⟩ : Addr).add j) = some u := by
          intro j u hj
          rw [addr_add, H6'.below.cell (p := ⟨g, m + j, none⟩) hg]
          rw [List.getElem?_drop] at hj
          exact hxc _ u hj
        go_wp2_with (at_builtin; refine wpList_appSl rfl (.tmp 87) (.tmp 90) rfl w2 w6 v6 (0 + m + 1) rfl H6' ⟨g, m, none⟩ P (c - m) (xs.drop m) ?hx (by rw [List.length_drop]; omega) hcb (fun u hu => hx1 u (List.mem_of_mem_drop hu)) (by omega) ?_)
        case hx => rfl
        intro v' w' hO'
        have hv : ∃ a c, v' = .slice a (m + P + 1 + 0) c := by
          obtain ⟨g', c', _, hv, _⟩ := hO'.at (by omega)
          exact ⟨some ⟨g', 0, none⟩, c', by rw [hv]; congr 1; omega⟩
        obtain ⟨a', c', rfl⟩ := hv
        go_wp2_with fail
        go_ret
        exact ⟨a', c', by rw [HN.out]; rfl, B2.trans (hO'.below.mono B2.size)⟩
      · go_wp2_with (at_builtin; refine wpList_app1 rfl (.tmp 67) (.tmp 68) rfl w2 w3 v3 0 rfl H3 _ rfl (by omega) ?_)
        intro v4 w4 H4
        clear H3
        have hca : ∀ (j : Nat) u, (xs.take m)[j]? = some u → w4.cell? ((⟨g, 0, none⟩ : Addr).add j) = some u := by
          intro j u hj
          have hjm : j < m := by
            rcases Nat.lt_or_ge j m with h | h
            · exact h
            · rw [List.getElem?_eq_none (by rw [List.length_take]; omega)] at hj; cases hj
          rw [addr_add, Nat.zero_add, H4.below.cell (p := ⟨g, j, none⟩) hg]
          rw [List.getElem?_take_of_lt hjm] at hj
          exact hxc j u hj
        go_wp2_with (at_builtin; refine wpList_appSl rfl (.tmp 79) (.tmp 82) rfl w2 w4 v4 1 rfl H4 ⟨g, 0, none⟩ m c (xs.take m) rfl (by rw [List.length_take]; omega) hca (fun u hu => hx1 u (List.mem_of_mem_take hu)) (by omega) ?_)
        intro v5 w5 H5
        clear H4 hca
        have H5' : Own w2 w5 v5 (1 + m) := by simpa using H5
        clear H5
        go_wp2_with (at_builtin; refine wpList_app1 rfl (.tmp 84) (.tmp 85) rfl w2 w5 v5 (1 + m) rfl H5' _ rfl (by omega) ?_)
        intro v6 w6 H6
        clear H5'
        have H6' : Own w2 w6 v6 (1 + m + 1) := by simpa using H6
        clear H6
        have hcb : ∀ (j : Nat) u, (xs.drop m)[j]? = some u → w6.cell? ((⟨g, m, none⟩ : Addr).add j) = some u := by
          intro j u hj
          rw [addr_add, H6'.below.cell (p := ⟨g, m + j, none⟩) hg]
          rw [List.getElem?_drop] at hj
          exact hxc _ u hj
        go_wp2_with (at_builtin; refine wpList_appSl rfl (.tmp 87) (.tmp 90) rfl w2 w6 v6 (1 + m + 1) rfl H6' ⟨g, m, none⟩ P (c - m) (xs.drop m) ?hx (by rw [List.length_drop]; omega) hcb (fun u hu => hx1 u (List.mem_of_mem_drop hu)) (by omega) ?_)
        case hx => rfl
        intro v' w' hO'
        have hv : ∃ a c, v' = .slice a (m + P + 1 + 1) c := by
          obtain ⟨g', c', _, hv, _⟩ := hO'.at (by omega)
          exact ⟨some ⟨g', 0, none⟩, c', by rw [hv]; congr 1; omega⟩
        obtain ⟨a', c', rfl⟩ := hv
        go_wp2_with fail
        go_ret
        exact ⟨a', c', by rw [HN.out]; rfl, B2.trans (hO'.below.mono B2.size)⟩
end Go.Proofs.Qxb6603238a
