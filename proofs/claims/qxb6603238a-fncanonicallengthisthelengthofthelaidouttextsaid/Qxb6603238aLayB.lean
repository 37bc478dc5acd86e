import Derived.Test.Qxb6603238aLay
namespace Go.Proofs.Qxb6603238a
open Go.RowKit
set_option linter.unusedVariables false

/-- A fact that the walk is not to touch. -/
def Hid (p : Prop) : Prop := p
theorem Hid.out {p : Prop} (h : Hid p) : p := h

theorem addr_add (g o j : Nat) : (⟨g, o, none⟩ : Addr).add j = ⟨g, o + j, none⟩ := by
  simp only [Addr.add]
  split
  · next h => simp_all
  · rfl

set_option maxHeartbeats 4000000 in
theorem lay_up (neg : Bool) (d : ByteArray) (E : Nat) (hd : d.size ≤ 1048576) (h0 : 0 < d.size) (hE : E ≤ 65536) (w : World) :
    Calls Try.prog 7 #[.bool neg, .string d, .int .i64 E] w fun r w' => LayPost w (d.size + E + (if neg then 1 else 0)) r w' := by
  have hl : d.toList.isEmpty = false := list_nonempty (by omega)
  obtain ⟨i, hi, hz0, hsize, hby⟩ := info_parts infoB
  go_enter Try.func7, Try.ntmps7
  go_wp2_with (at_make; refine wpList_make_own _ rfl _ _ 24 rfl w.heap.size 5 i (.int .u8 0) 1 Try.underlying24 hi hz0 hsize _ _ _ (d.size + E) rfl rfl (by omega) ?b1 ?b2 ?b3 ?_)
  case b1 => rw [hby]; omega
  case b2 => unfold maxLen; omega
  case b3 => omega
  intro w1 hown hgr
  have H1 := Own.made hown hgr
  clear hown hgr
  go_wp2_with (at_builtin; refine wpList_appS rfl (.tmp 24) (.tmp 25) rfl w w1 _ 0 rfl H1 d rfl (by omega) ?_)
  intro v2 w2 H2
  clear H1
  go_wp2_with fail
  go_loopw [7, 9] (fun v i wr => ∃ (k : Nat), k ≤ E ∧ i = .int .i64 k ∧ Own w wr v (d.size + k)) (fun _ i _ => E - (intOf i).toNat)
  case atStart => exact ⟨0, Nat.zero_le _, rfl, by simpa using H2⟩
  case round =>
    clear H2
    obtain ⟨k, hk, rfl, hO⟩ := hrel
    by_cases hlt : k < E
    · go_wp2_with (at_builtin; refine wpList_app1 rfl (.tmp 32) (.tmp 33) rfl w wr u7 (d.size + k) rfl hO _ rfl (by omega) ?_)
      intro v' w' hO'
      clear hO
      go_wp2_with fail
      go_roundw
      case rel => exact ⟨k + 1, by omega, by go_num, hO'⟩
      case measure => simp [intOf]; omega
    · obtain rfl : k = E := by omega
      obtain ⟨n, hn⟩ : ∃ n, n = d.size + k := ⟨_, rfl⟩
      rw [← hn] at hO
      have HN : Hid (n = d.size + k) := hn
      have hn0 : 0 < n := by omega
      have hn1 : n ≤ 1200000 := by omega
      obtain ⟨g, c, xs, rfl, hnc, hcm, hg, hxl, hx1, hxc⟩ := hO.at hn0
      have B2 := hO.below
      clear hk hlt hO hn hE hl h0 hd
      go_wp2_with (at_make; refine wpList_make_own _ rfl _ _ 24 rfl wr.heap.size 5 i (.int .u8 0) 1 Try.underlying24 hi hz0 hsize _ _ _ (n + 2) rfl rfl (by omega) ?b1 ?b2 ?b3 ?_)
      case b1 => rw [hby]; omega
      case b2 => unfold maxLen; omega
      case b3 => omega
      intro w3 hown hgr
      have H3 := Own.made hown hgr
      generalize hv3 : Value.slice (some ⟨wr.heap.size, 0, none⟩) 0 (n + 2) = v3 at H3 ⊢
      clear hown hgr hv3
      cases neg
      · have hc3 : ∀ (j : Nat) u, xs[j]? = some u → w3.cell? ((⟨g, 0, none⟩ : Addr).add j) = some u := by
          intro j u hj
          rw [addr_add, Nat.zero_add, H3.below.cell (p := ⟨g, j, none⟩) hg]
          exact hxc j u hj
        clear hxc
        go_wp2_with (at_builtin; refine wpList_appSl rfl (.tmp 72) (.tmp 73) rfl wr w3 v3 0 rfl H3 ⟨g, 0, none⟩ n c xs rfl hxl hc3 hx1 (by omega) ?_)
        intro v' w' hO'
        have hv : ∃ a c, v' = .slice a n c := by
          obtain ⟨g', c', _, hv, _⟩ := hO'.at (by omega)
          exact ⟨some ⟨g', 0, none⟩, c', by rw [hv]⟩
        obtain ⟨a', c', rfl⟩ := hv
        go_wp2_with fail
        go_ret
        exact ⟨a', c', by rw [HN.out]; rfl, B2.trans (hO'.below.mono B2.size)⟩
      · go_wp2_with (at_builtin; refine wpList_app1 rfl (.tmp 67) (.tmp 68) rfl wr w3 v3 0 rfl H3 _ rfl (by omega) ?_)
        intro v4 w4 H4
        clear H3
        have hc4 : ∀ (j : Nat) u, xs[j]? = some u → w4.cell? ((⟨g, 0, none⟩ : Addr).add j) = some u := by
          intro j u hj
          rw [addr_add, Nat.zero_add, H4.below.cell (p := ⟨g, j, none⟩) hg]
          exact hxc j u hj
        clear hxc
        go_wp2_with (at_builtin; refine wpList_appSl rfl (.tmp 72) (.tmp 73) rfl wr w4 v4 1 rfl H4 ⟨g, 0, none⟩ n c xs rfl hxl hc4 hx1 (by omega) ?_)
        intro v' w' hO'
        have hv : ∃ a c, v' = .slice a (n + 1) c := by
          obtain ⟨g', c', _, hv, _⟩ := hO'.at (by omega)
          exact ⟨some ⟨g', 0, none⟩, c', by rw [hv, Nat.add_comm]⟩
        obtain ⟨a', c', rfl⟩ := hv
        go_wp2_with fail
        go_ret
        exact ⟨a', c', by rw [HN.out]; rfl, B2.trans (hO'.below.mono B2.size)⟩
end Go.Proofs.Qxb6603238a
