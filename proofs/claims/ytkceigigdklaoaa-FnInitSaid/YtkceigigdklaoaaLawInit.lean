/-
  The law FnInit: the call returns true at every input, and turns nothing that was there. No conditions.
-/
import Derived.Test.YtkceigigdklaoaaSame
import Derived.Test.YtkceigigdklaoaaHeaps
import Derived.Test.YtkceigigdklaoaaLawExactUp
namespace Go.Proofs.Ytkceigigdklaoaa
open Go.RowKit Go.Sort

set_option maxHeartbeats 2000000 in
theorem init_all (v : Value) (d : Array Int) (w : World) (hr : Rd w v d) (h1 : d.size ≤ 1048576) :
    Calls Try.prog 10 #[v] w fun e w' => e = .returned (.bool true) ∧ Below w.heap.size w w' := by
  have HE := Lib.hid ((heapB_iff _ _).2 (init_heap d).1)
  have HP := Lib.hid (init_heap d).2
  have HZ : Hid ((initA d.size (d.size / 2) d).size = d.size) := Lib.hid (init_heap d).2.size_eq
  obtain ⟨A, c, rfl, _, _, hcl⟩ := id hr
  have HR := Lib.hid hr
  have g1 : decide ((2147483647 : Int) < (d.size : Int)) = false := decide_eq_false (by omega)
  have g2 : decide ((1048576 : Int) < (d.size : Int)) = false := decide_eq_false (by omega)
  clear hr hcl
  go_enter Try.func10, Try.ntmps10
  go_wp2_with fail
  refine (impl_Init _ d w HR.out (by omega)).mono ?_
  rintro e w1 ⟨v1, rfl, ho1, hb1⟩
  obtain ⟨A1, c1, rfl⟩ := ho1.shape
  have O1 := Lib.hid ho1
  have B1 := Lib.hid hb1
  clear ho1 hb1
  go_wp2_with fail
  refine (same_any _ _ (initA d.size (d.size / 2) d) d w1 O1.out.rd (HR.out.below B1.out) HP.out (by rw [HZ.out]; omega)).mono ?_
  rintro e w2 ⟨rfl, hb2⟩
  have B2 : Hid (Below w.heap.size w w2) := Lib.hid (B1.out.trans (hb2.mono B1.out.size))
  have R2 : Hid (Rd w2 _ (initA d.size (d.size / 2) d)) := Lib.hid (O1.out.rd.below hb2)
  clear hb2
  go_wp2_with fail
  refine (heap_any _ (initA d.size (d.size / 2) d) (initA d.size (d.size / 2) d).size w2 R2.out (Nat.le_refl _) (by rw [HZ.out]; omega)).mono ?_
  rintro e w3 ⟨rfl, q3, rfl⟩
  have HE' : heapB (initA d.size (d.size / 2) d) (initA d.size (d.size / 2) d).size = true := by rw [HZ.out]; exact HE.out
  rw [HE']
  clear HE'
  go_wp2_with fail
  go_ret
  exact ⟨rfl, below_drewN B2.out q3⟩

set_option maxHeartbeats 1000000 in
theorem law_Init (v : Value) (d : Array Int) (w : World) (hr : Rd w v d) :
    Calls Try.prog 10 #[v] w fun e w' => e = .returned (.bool true) ∧ Below w.heap.size w w' := by
  obtain ⟨A, c, rfl, hdc, hcm, _⟩ := id hr
  have HR := Lib.hid hr
  have hdm : d.size ≤ 9223372036854775807 := by simp only [maxLen] at hcm; omega
  clear hr hdc hcm
  by_cases h1 : 2147483647 < d.size
  · have h1' : (2147483647 : Int) < (d.size : Int) := by omega
    go_enter Try.func10, Try.ntmps10
    go_wp2_with fail
    go_ret
    exact ⟨rfl, Below.refl _ _⟩
  · by_cases h4 : 1048576 < d.size
    · have h4' : (1048576 : Int) < (d.size : Int) := by omega
      go_enter Try.func10, Try.ntmps10
      go_wp2_with fail
      go_ret
      exact ⟨rfl, Below.refl _ _⟩
    · exact init_all _ d w HR.out (by omega) 
end Go.Proofs.Ytkceigigdklaoaa
