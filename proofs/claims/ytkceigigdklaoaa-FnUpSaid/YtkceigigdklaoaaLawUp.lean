/-
  The law FnUp: the call returns true at every list and place, and turns nothing that was there. No conditions.
-/
import Derived.Test.YtkceigigdklaoaaCut
import Derived.Test.YtkceigigdklaoaaLawExactUp
namespace Go.Proofs.Ytkceigigdklaoaa
open Go.RowKit Go.Sort

theorem extract_eq (a b : Array Int) (k n : Nat) (ha : n ≤ a.size) (hb : n ≤ b.size) (hn : n = a.size) (h : ∀ i, k ≤ i → i < n → a[i]! = b[i]!) : a.extract k a.size = b.extract k n := by
  subst hn
  apply Array.ext
  · simp; omega
  · intro i h1 h2
    simp at h1 h2
    have := h (k + i) (by omega) (by omega)
    rw [Array.getElem_extract, Array.getElem_extract, ← getElem!_pos a (k + i) (by omega), ← getElem!_pos b (k + i) (by omega)]
    exact this

set_option maxHeartbeats 4000000 in
theorem up_heap (v : Value) (d : Array Int) (j : Nat) (w : World) (hr : Rd w v d) (h1 : d.size ≤ 1048576) (hj : j < d.size) (hh : heapB d j = true) :
    Calls Try.prog 7 #[v, .int .i64 j] w fun e w' => e = .returned (.bool true) ∧ Below w.heap.size w w' := by
  obtain ⟨A, c, rfl, hdc, _, _⟩ := id hr
  have HR := Lib.hid hr
  have HH := Lib.hid hh
  have HZ := Lib.hid (upA_size d j hj)
  have HP := Lib.hid (upA_perm d j hj)
  have HU : Hid (heapB (upA d j) (j + 1) = true) := Lib.hid (by
    rw [heapB_iff]
    refine up_edges (j + 1) j d (by omega) (by omega) (fun k a b e => (heapB_iff d j).1 hh k a (by omega)) (fun a k b e f => by omega))
  have HEX0 : (upA d j).extract (j + 1) (upA d j).size = d.extract (j + 1) d.size := extract_eq _ _ _ _ (by rw [HZ.out]; omega) (Nat.le_refl _) (by rw [HZ.out]) (fun k a _ => (upA_all d j hj).2 k (by omega))
  clear hr hh
  have g1 : decide ((2147483647 : Int) < (d.size : Int)) = false := decide_eq_false (by omega)
  have g2 : decide ((1048576 : Int) < (d.size : Int)) = false := decide_eq_false (by omega)
  have g3 : decide ((j : Int) < 0) = false := decide_eq_false (by omega)
  have g4 : decide ((d.size : Int) ≤ (j : Int)) = false := decide_eq_false (by omega)
  go_enter Try.func7, Try.ntmps7
  go_wp2_with fail
  refine (heap_any _ d j w HR.out (by omega) (by omega)).mono ?_
  rintro e w0 ⟨rfl, q, rfl⟩
  rw [HH.out]
  go_wp2_with fail
  refine (impl_Up _ d j (w.drewN q) (HR.out.drewN q) hj (by omega)).mono ?_
  rintro e w1 ⟨v1, rfl, ho1, hb1⟩
  have B1 : Hid (Below w.heap.size w w1) := Lib.hid ((below_drewN (Below.refl _ _) q).trans hb1)
  obtain ⟨A1, c1, rfl⟩ := ho1.shape
  have O1 : Hid (Rd w1 (.slice A1 d.size c1) (upA d j)) := Lib.hid (by have := ho1.rd; rw [HZ.out] at this; exact this)
  have hc1 : (upA d j).size ≤ c1 := by
    obtain ⟨_, c', e, hle, _⟩ := ho1.rd
    cases e; exact hle
  rw [HZ.out] at hc1 ⊢
  clear ho1 hb1
  go_wp2_with fail
  obtain ⟨m, hm⟩ : ∃ m : Nat, j + 1 = m := ⟨_, rfl⟩
  have em : (j : Int) + 1 = (m : Int) := by omega
  have hw1 : IntKind.i64.wrap (m : Int) = (m : Int) := IntWalk.i64_in _ (by omega)
  have hmd : m ≤ d.size := by omega
  rw [hm] at HU HEX0
  have HEX := Lib.hid HEX0
  clear HEX0
  have HM := Lib.hid hm
  clear hm
  obtain ⟨B3, n3, c3, hs3, hr3⟩ := cut_from A1 d.size c1 m (upA d j) HZ.out hmd hc1
  obtain ⟨B4, n4, c4, hs4, hr4⟩ := cut_from A d.size c m d rfl hmd hdc
  have R7 := Lib.hid hr3
  have R8 := Lib.hid hr4
  have HJ := Lib.hid hj
  have S3 := Lib.hid hs3
  have S4 := Lib.hid hs4
  clear hs3 hs4
  have HMD := Lib.hid hmd
  clear hr3 hr4 hj hmd g1 g2 g3 g4 hdc hc1
  refine wp_region_any (by kernel_rfl) ?_
  change wpAny _ _ _ _ _ _ _ (World.drew _)
  refine wpAny_take (i := 0) (v := .slice A1 d.size c1) rfl (by kernel_rfl) (by kernel_rfl) (by kernel_rfl) (fun _ _ _ h => h) (Or.inl ⟨by rfl, by (intro w; go_simp)⟩) ?_
  go_simp
  refine wpAny_take (i := 1) (v := .slice A d.size c) rfl (by kernel_rfl) (by kernel_rfl) (by kernel_rfl) (fun _ _ _ h => h) (Or.inl ⟨by rfl, by (intro w; go_simp)⟩) ?_
  go_simp
  refine wpAny_ready (rs := [2]) (by kernel_rfl) (by simp) ?_
  refine AllReady.cons rfl (fun K hK => ?_) AllReady.nil
  go_simp
  refine (same_any _ _ (upA d j) d _ (by exact O1.out.drewN 1) (by exact (HR.out.below B1.out).drewN 1) HP.out (by rw [HZ.out]; omega)).mono ?_
  rintro e w2 ⟨rfl, hb2⟩
  have B2 : Hid (Below w.heap.size w w2) := Lib.hid ((below_drewN B1.out 1).trans (hb2.mono B1.out.size))
  have R2 : Hid (Rd w2 (.slice A1 d.size c1) (upA d j)) := Lib.hid ((O1.out.drewN 1).below hb2)
  have R3 : Hid (Rd w2 (.slice A d.size c) d) := Lib.hid (HR.out.below B2.out)
  clear hb2
  go_simp
  refine hK _ _ ?_
  clear hK K
  refine wpAny_take (i := 3) (v := .bool true) rfl (by kernel_rfl) (by kernel_rfl) (by kernel_rfl) (fun _ _ _ h => h) (Or.inl ⟨by rfl, by (intro w; go_simp)⟩) ?_
  go_simp
  refine wpAny_take (i := 4) (v := .slice A1 d.size c1) rfl (by kernel_rfl) (by kernel_rfl) (by kernel_rfl) (fun _ _ _ h => h) (Or.inl ⟨by rfl, by (intro w; go_simp)⟩) ?_
  go_simp
  refine wpAny_take (i := 5) (v := .int .i64 j) rfl (by kernel_rfl) (by kernel_rfl) (by kernel_rfl) (fun _ _ _ h => h) (Or.inl ⟨by rfl, by (intro w; go_simp)⟩) ?_
  go_simp
  refine wpAny_take (i := 6) (v := .int .i64 m) rfl (by kernel_rfl) (by kernel_rfl) (by kernel_rfl) (fun _ _ _ h => h) (Or.inl ⟨by rfl, by (intro w; go_simp)⟩) ?_
  go_simp
  refine wpAny_ready (rs := [7]) (by kernel_rfl) (by simp) ?_
  refine AllReady.cons rfl (fun K hK => ?_) AllReady.nil
  go_simp
  refine (heap_any _ (upA d j) m _ (by exact R2.out) (by rw [HZ.out]; exact HMD.out) (by rw [HZ.out]; omega)).mono ?_
  rintro e w3 ⟨rfl, q3, rfl⟩
  rw [HU.out]
  go_simp
  refine hK _ _ ?_
  clear hK K
  have s3 := S3.out
  have s4 := S4.out
  refine wpAny_take (i := 8) (v := .bool true) rfl (by kernel_rfl) (by kernel_rfl) (by kernel_rfl) (fun _ _ _ h => h) (Or.inl ⟨by rfl, by (intro w; go_simp)⟩) ?_
  go_simp
  refine wpAny_take (i := 9) (v := .bool true) rfl (by kernel_rfl) (by kernel_rfl) (by kernel_rfl) (fun _ _ _ h => h) (Or.inl ⟨by rfl, by (intro w; go_simp)⟩) ?_
  go_simp
  refine wpAny_take (i := 10) (v := .slice A1 d.size c1) rfl (by kernel_rfl) (by kernel_rfl) (by kernel_rfl) (fun _ _ _ h => h) (Or.inl ⟨by rfl, by (intro w; go_simp)⟩) ?_
  go_simp
  refine wpAny_take (i := 11) (v := .int .i64 j) rfl (by kernel_rfl) (by kernel_rfl) (by kernel_rfl) (fun _ _ _ h => h) (Or.inl ⟨by rfl, by (intro w; go_simp)⟩) ?_
  go_simp
  refine wpAny_take (i := 12) (v := .int .i64 m) rfl (by kernel_rfl) (by kernel_rfl) (by kernel_rfl) (fun _ _ _ h => h) (Or.inl ⟨by rfl, by (intro w; go_simp)⟩) ?_
  go_simp
  refine wpAny_take (i := 13) (v := .slice B3 n3 c3) rfl (by kernel_rfl) (by kernel_rfl) (by kernel_rfl) (fun _ _ _ h => h) (Or.inl ⟨by rfl, by (intro w; go_simp)⟩) ?_
  go_simp
  refine wpAny_take (i := 14) (v := .slice A d.size c) rfl (by kernel_rfl) (by kernel_rfl) (by kernel_rfl) (fun _ _ _ h => h) (Or.inl ⟨by rfl, by (intro w; go_simp)⟩) ?_
  go_simp
  refine wpAny_take (i := 15) (v := .int .i64 j) rfl (by kernel_rfl) (by kernel_rfl) (by kernel_rfl) (fun _ _ _ h => h) (Or.inl ⟨by rfl, by (intro w; go_simp)⟩) ?_
  go_simp
  refine wpAny_take (i := 16) (v := .int .i64 m) rfl (by kernel_rfl) (by kernel_rfl) (by kernel_rfl) (fun _ _ _ h => h) (Or.inl ⟨by rfl, by (intro w; go_simp)⟩) ?_
  go_simp
  refine wpAny_take (i := 17) (v := .slice B4 n4 c4) rfl (by kernel_rfl) (by kernel_rfl) (by kernel_rfl) (fun _ _ _ h => h) (Or.inl ⟨by rfl, by (intro w; go_simp)⟩) ?_
  go_simp
  clear s3 s4
  refine wpAny_ready (rs := [18]) (by kernel_rfl) (by simp) ?_
  refine AllReady.cons rfl (fun K hK => ?_) AllReady.nil
  go_simp
  refine (equal_same _ _ ((upA d j).extract m (upA d j).size) _ (by exact (R7.out _ R2.out).drewN q3) (by rw [HEX.out]; exact (R8.out _ R3.out).drewN q3) (by simp; rw [HZ.out]; omega)).mono ?_
  rintro e w4 ⟨rfl, q4, rfl⟩
  go_simp
  refine hK _ _ ?_
  clear hK K
  refine wpAny_take (i := 19) (v := .bool true) rfl (by kernel_rfl) (by kernel_rfl) (by kernel_rfl) (fun _ _ _ h => h) (Or.inl ⟨by rfl, by (intro w; go_simp)⟩) ?_
  go_simp
  refine wpAny_take (i := 20) (v := .bool true) rfl (by kernel_rfl) (by kernel_rfl) (by kernel_rfl) (fun _ _ _ h => h) (Or.inl ⟨by rfl, by (intro w; go_simp)⟩) ?_
  go_simp
  refine wpAny_done (by kernel_rfl) ?_ _
  go_wp2_with fail
  go_ret
  exact ⟨rfl, below_drewN B2.out _⟩

set_option maxHeartbeats 1000000 in
theorem law_Up (v : Value) (d : Array Int) (j : Int) (w : World) (hr : Rd w v d) (hj1 : -9223372036854775808 ≤ j) (hj2 : j ≤ 9223372036854775807) :
    Calls Try.prog 7 #[v, .int .i64 j] w fun e w' => e = .returned (.bool true) ∧ Below w.heap.size w w' := by
  obtain ⟨A, c, rfl, hdc, hcm, _⟩ := id hr
  have HR := Lib.hid hr
  have hdm : d.size ≤ 9223372036854775807 := by simp only [maxLen] at hcm; omega
  clear hr hdc hcm
  by_cases h1 : 2147483647 < d.size
  · have h1' : (2147483647 : Int) < (d.size : Int) := by omega
    go_enter Try.func7, Try.ntmps7
    go_wp2_with fail
    go_ret
    exact ⟨rfl, Below.refl _ _⟩
  · by_cases h2 : j < 0
    · go_enter Try.func7, Try.ntmps7
      go_wp2_with fail
      go_ret
      exact ⟨rfl, Below.refl _ _⟩
    · by_cases h3 : (d.size : Int) ≤ j
      · go_enter Try.func7, Try.ntmps7
        go_wp2_with fail
        go_ret
        exact ⟨rfl, Below.refl _ _⟩
      · by_cases h4 : 1048576 < d.size
        · have h4' : (1048576 : Int) < (d.size : Int) := by omega
          go_enter Try.func7, Try.ntmps7
          go_wp2_with fail
          go_ret
          exact ⟨rfl, Below.refl _ _⟩
        · obtain ⟨k, rfl⟩ : ∃ k : Nat, j = (k : Int) := ⟨j.toNat, by omega⟩
          cases hh : heapB d k with
          | true => exact up_heap _ d k w HR.out (by omega) (by omega) hh
          | false =>
            have HH := Lib.hid hh
            clear hh
            go_enter Try.func7, Try.ntmps7
            go_wp2_with fail
            refine (heap_any _ d k w HR.out (by omega) (by omega)).mono ?_
            rintro e w0 ⟨rfl, q, rfl⟩
            rw [HH.out]
            go_wp2_with fail
            go_ret
            exact ⟨rfl, below_drewN (Below.refl _ _) q⟩
end Go.Proofs.Ytkceigigdklaoaa
