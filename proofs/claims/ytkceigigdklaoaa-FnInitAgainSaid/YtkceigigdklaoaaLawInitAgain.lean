/-
  The law FnInitAgain: the call returns true at every list, and turns nothing that was there. No conditions.
-/
import Derived.Test.YtkceigigdklaoaaLawExactUp
namespace Go.Proofs.Ytkceigigdklaoaa
open Go.RowKit Go.Sort

theorem initA_heap (n : Nat) : ∀ (k : Nat) (d : Array Int), HeapA d n → initA n k d = d := by
  intro k
  induction k with
  | zero => intro d _; rfl
  | succ k ih => intro d h; rw [initA, downA_heap d k n h]; exact ih d h

set_option maxHeartbeats 1000000 in
theorem initAgain_heap (v : Value) (d : Array Int) (w : World) (hr : Rd w v d) (h1 : d.size ≤ 1048576) (hh : heapB d d.size = true) :
    Calls Try.prog 4 #[v] w fun e w' => e = .returned (.bool true) ∧ Below w.heap.size w w' := by
  obtain ⟨A, c, rfl, _, _, _⟩ := id hr
  have HR := Lib.hid hr
  have HI := Lib.hid (initA_heap d.size (d.size / 2) d ((heapB_iff d d.size).1 hh))
  have HH := Lib.hid hh
  clear hr hh
  go_enter Try.func4, Try.ntmps4
  go_wp2_with fail
  refine (heap_any _ d d.size w HR.out (Nat.le_refl _) (by omega)).mono ?_
  rintro e w0 ⟨rfl, q, rfl⟩
  rw [HH.out]
  go_wp2_with fail
  refine (impl_Init _ d (w.drewN q) (HR.out.drewN q) (by omega)).mono ?_
  rintro e w1 ⟨v1, rfl, ho1, hb1⟩
  rw [HI.out] at ho1
  have O1 := Lib.hid ho1
  have B1 : Hid (Below w.heap.size w w1) := Lib.hid ((below_drewN (Below.refl _ _) q).trans hb1)
  clear ho1 hb1
  go_wp2_with fail
  refine (equal_same v1 _ d w1 O1.out.rd (HR.out.below B1.out) (by omega)).mono ?_
  rintro e w2 ⟨rfl, q2, rfl⟩
  go_wp2_with fail
  refine (impl_Init _ d (w1.drewN q2) ((HR.out.below B1.out).drewN q2) (by omega)).mono ?_
  rintro e w3 ⟨v3, rfl, ho3, hb3⟩
  rw [HI.out] at ho3
  have O3 := Lib.hid ho3
  have B3 : Hid (Below w.heap.size w w3) := Lib.hid ((below_drewN B1.out q2).trans (hb3.mono B1.out.size))
  clear ho3 hb3
  go_wp2_with fail
  refine (impl_Init _ d w3 O3.out.rd (by omega)).mono ?_
  rintro e w4 ⟨v4, rfl, ho4, hb4⟩
  rw [HI.out] at ho4
  have O4 := Lib.hid ho4
  have B4 : Hid (Below w.heap.size w w4) := Lib.hid (B3.out.trans (hb4.mono B3.out.size))
  clear ho4 hb4
  go_wp2_with fail
  refine (equal_same v4 _ d w4 O4.out.rd (HR.out.below B4.out) (by omega)).mono ?_
  rintro e w5 ⟨rfl, q5, rfl⟩
  go_wp2_with fail
  go_ret
  exact ⟨rfl, below_drewN B4.out q5⟩

set_option maxHeartbeats 1000000 in
theorem law_InitAgain (v : Value) (d : Array Int) (w : World) (hr : Rd w v d) :
    Calls Try.prog 4 #[v] w fun e w' => e = .returned (.bool true) ∧ Below w.heap.size w w' := by
  obtain ⟨A, c, rfl, hdc, hcm, _⟩ := id hr
  have HR := Lib.hid hr
  have hdm : d.size ≤ 9223372036854775807 := by simp only [maxLen] at hcm; omega
  clear hr hdc hcm
  by_cases h1 : 2147483647 < d.size
  · have h1' : (2147483647 : Int) < (d.size : Int) := by omega
    go_enter Try.func4, Try.ntmps4
    go_wp2_with fail
    go_ret
    exact ⟨rfl, Below.refl _ _⟩
  · by_cases h4 : 1048576 < d.size
    · have h4' : (1048576 : Int) < (d.size : Int) := by omega
      go_enter Try.func4, Try.ntmps4
      go_wp2_with fail
      go_ret
      exact ⟨rfl, Below.refl _ _⟩
    · cases hh : heapB d d.size with
      | true => exact initAgain_heap _ d w HR.out (by omega) hh
      | false =>
        have HH := Lib.hid hh
        clear hh
        go_enter Try.func4, Try.ntmps4
        go_wp2_with fail
        refine (heap_any _ d d.size w HR.out (Nat.le_refl _) (by omega)).mono ?_
        rintro e w0 ⟨rfl, q, rfl⟩
        rw [HH.out]
        go_wp2_with fail
        go_ret
        exact ⟨rfl, below_drewN (Below.refl _ _) q⟩
end Go.Proofs.Ytkceigigdklaoaa
