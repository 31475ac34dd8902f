/-
  The walks of slices.Equal (at two equal lists), slices.Clone and slices.Min. Conditions: the lists are far shorter than the bounds of the model; Min: not empty.
-/
import Derived.Test.YtkceigigdklaoaaThin
import Derived.WalkSpells
namespace Go.Proofs.Ytkceigigdklaoaa
open Go.RowKit Go.Sort

set_option maxHeartbeats 1000000 in
theorem equal_same (v1 v2 : Value) (d : Array Int) (w : World) (h1 : Rd w v1 d) (h2 : Rd w v2 d) (hs : d.size ≤ 1099511627776) :
    Calls Try.prog 16 #[v1, v2] w fun e w' => e = .returned (.bool true) ∧ ∃ n, w' = w.drewN n := by
  obtain ⟨A1, c1, rfl, _, _, h1⟩ := h1
  obtain ⟨A2, c2, rfl, _, _, h2⟩ := h2
  obtain ⟨n, hn⟩ : ∃ n : Nat, d.size = n := ⟨_, rfl⟩
  rw [hn]
  have hnb : n ≤ 1099511627776 := by omega
  have H1 := Lib.hid h1
  have H2 := Lib.hid h2
  have HN : Hid (d.size = n) := Lib.hid hn
  clear h1 h2 hn hs
  go_enter Try.func16, Try.ntmps16
  go_wp2_with fail
  go_loopw [13] (fun vi wr => ∃ (k q : Nat), vi = .int .i64 k ∧ k ≤ n ∧ wr = w.drewN q) (fun vi _ => n - (intOf vi).toNat)
  case atStart => exact ⟨0, 0, rfl, Nat.zero_le _, rfl⟩
  case round =>
    obtain ⟨k, q, rfl, hk, hw⟩ := hrel
    have HW := Lib.hid hw
    by_cases hlt : k < n
    · obtain ⟨b1, o1, e1, _, g1⟩ := H1.out (by rw [HN.out]; omega)
      obtain ⟨b2, o2, e2, _, g2⟩ := H2.out (by rw [HN.out]; omega)
      subst e1; subst e2
      obtain ⟨x, hx⟩ : ∃ x, d[k]! = x := ⟨_, rfl⟩
      have x1 := g1 k (by rw [HN.out]; exact hlt)
      have x2 := g2 k (by rw [HN.out]; exact hlt)
      rw [hx] at x1 x2
      have y1 : wr.cell? ⟨b1, o1 + k, none⟩ = some (.int .i64 x) := by rw [hw]; exact x1
      have y2 : wr.cell? ⟨b2, o2 + k, none⟩ = some (.int .i64 x) := by rw [hw]; exact x2
      have hki : (k : Int) < (n : Int) := by omega
      clear g1 g2 hx x1 x2 hw
      go_wp2_with fail
      go_quiet (fail)
      go_wp2_with fail
      go_roundw
      case rel => exact ⟨k + 1, q + nq, by go_num, by omega, by rw [HW.out, World.drewN_drewN]⟩
      case measure => simp [intOf]; omega
    · clear hw
      go_wp2_with fail
      go_ret
      exact ⟨rfl, q, HW.out⟩

set_option maxHeartbeats 1000000 in
theorem sclone_any (v : Value) (d : Array Int) (w : World) (hr : Rd w v d) (hs : d.size ≤ 1099511627776) :
    Calls Try.prog 27 #[v] w (Hands w.heap.size w d) := by
  have HR := Lib.hid hr
  obtain ⟨A, c, rfl, _, _, h3⟩ := hr
  rcases A with _ | a
  · have e0 : d = #[] := by
      rcases Nat.eq_zero_or_pos d.size with h | h
      · exact Array.eq_empty_of_size_eq_zero h
      · obtain ⟨_, _, e, _⟩ := h3 h
        cases e
    subst e0
    clear h3 HR
    have hq := fun w => Lib.run_eql_slice_nil (P := Try.prog) w 22 3 none 0 c 0 0 Try.underlying22
    go_enter Try.func27, Try.ntmps27
    go_wp2_with fail
    go_ret
    exact ⟨_, rfl, World.ownsRow_nil w _ _ _, Below.refl _ _⟩
  · clear h3
    have hq := fun w => Lib.run_eql_slice_nil (P := Try.prog) w 22 3 (some a) d.size c 0 0 Try.underlying22
    go_enter Try.func27, Try.ntmps27
    go_wp2_with (at_builtin; refine wpList_app _ rfl _ _ 22 22 rfl Try.underlying22 Try.underlying22 w.heap.size (.slice (some ⟨w.heap.size, 0, none⟩) 0 0) (.slice (some a) d.size c) #[] d d d.size rfl rfl (by exact World.ownsRow_made (size := 1) w #[] 0 (Nat.le_refl _) (by simp [maxLen]) rfl) (by exact HR.out.below ((Below.refl _ _).alloc (Nat.le_refl _) _)) (by simp; omega) (by simp) Array.empty_append rfl ?_; intro A c w1 hown hg hb; have HO := Lib.hid hown; have HG := Lib.hid hg; clear hown hg hb)
    go_ret
    exact ⟨_, rfl, HO.out, ((Below.refl w.heap.size w).alloc (Nat.le_refl _) _).grown HG.out (by simp) (by simp [Value.ownBlock])⟩

end Go.Proofs.Ytkceigigdklaoaa
