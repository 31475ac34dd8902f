/-
  The law FnPopRemove: the call returns true at every list, and turns nothing that was there. No conditions.
-/
import Derived.Test.YtkceigigdklaoaaLawExactUp
namespace Go.Proofs.Ytkceigigdklaoaa
open Go.RowKit Go.Sort

theorem swp_self (d : Array Int) (i : Nat) (hi : i < d.size) : swp d i i = d := by
  apply Array.ext
  · exact size_swp d i i
  · intro k h1 h2
    rw [← getElem!_pos (swp d i i) k h1, ← getElem!_pos d k h2]
    by_cases h : k = i
    · subst h; exact swp_right d k k hi
    · exact swp_other d i i k h h

theorem remove0_pop (d : Array Int) (h0 : 0 < d.size) : removeA d 0 = popA d := by
  unfold removeA popA
  by_cases h : d.size - 1 = 0
  · rw [if_pos h, h, swp_self d 0 h0, downA_stop d 0 0 (by omega)]
  · rw [if_neg h]
    unfold fixA
    split
    · rfl
    · rw [upA_stop _ 0 (by omega)]

theorem pop_last (d : Array Int) (h0 : 0 < d.size) : (popA d)[d.size - 1]! = d[0]! := by
  unfold popA
  by_cases h : d.size - 1 = 0
  · rw [h, swp_self d 0 h0, downA_stop d 0 0 (by omega)]
  · have := (downA_all _ (swp d 0 (d.size - 1)) 0 (d.size - 1) (Nat.le_refl _) (by omega) (by rw [size_swp]; omega)).2.1 (d.size - 1) (.inr (Nat.le_refl _))
    rw [this, swp_right d 0 (d.size - 1) (by omega)]

set_option maxHeartbeats 1000000 in
theorem popRemove_heap (v : Value) (d : Array Int) (w : World) (hr : Rd w v d) (h0 : 0 < d.size) (h1 : d.size ≤ 1048576) (hh : heapB d d.size = true) :
    Calls Try.prog 6 #[v] w fun e w' => e = .returned (.bool true) ∧ Below w.heap.size w w' := by
  obtain ⟨A, c, rfl, _, _, hcl⟩ := id hr
  obtain ⟨b, o, ha, hlt, hcells⟩ := hcl h0
  have HR := Lib.hid hr
  have HE := Lib.hid (remove0_pop d h0)
  have HP := Lib.hid (pop_last d h0)
  have HH := Lib.hid hh
  obtain ⟨x, hx⟩ : ∃ x, d[0]! = x := ⟨_, rfl⟩
  have hcx := hcells 0 h0
  rw [hx, Nat.add_zero] at hcx
  have HC : Hid (∀ w', Below w.heap.size w w' → w'.cell? ⟨b, o, none⟩ = some (.int .i64 x)) := Lib.hid fun w' hb => (hb.cell (p := ⟨b, o, none⟩) hlt).trans hcx
  have HX := Lib.hid hx
  have HZ : Hid ((popA d).pop.size = d.size - 1) := Lib.hid (by rw [size_pos_pop, popA_size])
  subst ha
  clear hr hh hcl hcells hcx hx hlt
  have hz0 : ((d.size : Int) == 0) = false := by rw [beq_eq_false_iff_ne]; omega
  go_enter Try.func6, Try.ntmps6
  go_wp2_with fail
  refine (heap_any _ d d.size w HR.out (Nat.le_refl _) (by omega)).mono ?_
  rintro e w0 ⟨rfl, q, rfl⟩
  rw [HH.out]
  go_wp2_with fail
  refine (impl_Pop _ d (w.drewN q) (HR.out.drewN q) h0 (by omega)).mono ?_
  rintro e w1 ⟨v1, rfl, ho1, hb1⟩
  rw [HP.out, HX.out]
  obtain ⟨A1, c1, rfl⟩ := ho1.shape
  have B1 : Hid (Below w.heap.size w w1) := Lib.hid ((below_drewN (Below.refl _ _) q).trans hb1)
  have O1 := Lib.hid ho1
  clear ho1 hb1
  rw [HZ.out]
  go_wp2_with fail
  refine (impl_Remove _ d 0 w1 (HR.out.below B1.out) h0 (by omega)).mono ?_
  rintro e w2 ⟨v2, rfl, ho2, hb2⟩
  rw [HE.out] at ho2 ⊢
  rw [HP.out, HX.out]
  have B2 : Hid (Below w.heap.size w w2) := Lib.hid (B1.out.trans (hb2.mono B1.out.size))
  have R1 : Hid (Rd w2 (.slice A1 (d.size - 1) c1) (popA d).pop) := Lib.hid (by have := O1.out.rd.below hb2; rw [HZ.out] at this; exact this)
  have O2 := Lib.hid ho2
  have hc2 := HC.out w2 B2.out
  have hcast : ((d.size - 1 : Nat) : Int) = (d.size : Int) - 1 := by omega
  have h0' : (0 : Int) < (d.size : Int) := by omega
  clear ho2 hb2
  go_wp2_with fail
  refine (equal_same _ v2 (popA d).pop w2 R1.out O2.out.rd (by rw [HZ.out]; omega)).mono ?_
  rintro e w3 ⟨rfl, q3, rfl⟩
  go_wp2_with fail
  go_ret
  exact ⟨rfl, below_drewN B2.out q3⟩

set_option maxHeartbeats 1000000 in
theorem law_PopRemove (v : Value) (d : Array Int) (w : World) (hr : Rd w v d) :
    Calls Try.prog 6 #[v] w fun e w' => e = .returned (.bool true) ∧ Below w.heap.size w w' := by
  obtain ⟨A, c, rfl, hdc, hcm, _⟩ := id hr
  have HR := Lib.hid hr
  have hdm : d.size ≤ 9223372036854775807 := by simp only [maxLen] at hcm; omega
  clear hr hdc hcm
  by_cases h1 : 2147483647 < d.size
  · have h1' : (2147483647 : Int) < (d.size : Int) := by omega
    go_enter Try.func6, Try.ntmps6
    go_wp2_with fail
    go_ret
    exact ⟨rfl, Below.refl _ _⟩
  · by_cases h0 : d.size = 0
    · have h0' : ((d.size : Int) == 0) = true := by rw [h0]; rfl
      have h0'' : d.size ≤ 0 := by omega
      clear h0
      go_enter Try.func6, Try.ntmps6
      go_wp2_with fail
      go_ret
      exact ⟨rfl, Below.refl _ _⟩
    · by_cases h4 : 1048576 < d.size
      · have h4' : (1048576 : Int) < (d.size : Int) := by omega
        have hz0 : ((d.size : Int) == 0) = false := by rw [beq_eq_false_iff_ne]; omega
        go_enter Try.func6, Try.ntmps6
        go_wp2_with fail
        go_ret
        exact ⟨rfl, Below.refl _ _⟩
      · cases hh : heapB d d.size with
        | true => exact popRemove_heap _ d w HR.out (by omega) (by omega) hh
        | false =>
          have HH := Lib.hid hh
          have hz0 : ((d.size : Int) == 0) = false := by rw [beq_eq_false_iff_ne]; omega
          clear hh
          go_enter Try.func6, Try.ntmps6
          go_wp2_with fail
          refine (heap_any _ d d.size w HR.out (Nat.le_refl _) (by omega)).mono ?_
          rintro e w0 ⟨rfl, q, rfl⟩
          rw [HH.out]
          go_wp2_with fail
          go_ret
          exact ⟨rfl, below_drewN (Below.refl _ _) q⟩
end Go.Proofs.Ytkceigigdklaoaa
