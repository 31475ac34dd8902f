/-
  The law FnPush: the call returns true at every input, and turns nothing that was there. No conditions.
-/
import Derived.Test.YtkceigigdklaoaaSame
import Derived.Test.YtkceigigdklaoaaHeaps
import Derived.Test.YtkceigigdklaoaaLawExactUp
namespace Go.Proofs.Ytkceigigdklaoaa
open Go.RowKit Go.Sort

set_option maxHeartbeats 2000000 in
theorem push_heap_law (v : Value) (d : Array Int) (x : Int) (w : World) (hr : Rd w v d) (h1 : d.size ≤ 1048576) (hh : heapB d d.size = true) :
    Calls Try.prog 8 #[v, .int .i64 x] w fun e w' => e = .returned (.bool true) ∧ Below w.heap.size w w' := by
  have HE := Lib.hid ((heapB_iff _ _).2 (push_heap d x ((heapB_iff _ _).1 hh)))
  have HP := Lib.hid (pushA_perm d x)
  have HZ := Lib.hid (pushA_size d x)
  have HH := Lib.hid hh
  obtain ⟨A, c, rfl, _, _, hcl⟩ := id hr
  have HR := Lib.hid hr
  have g1 : decide ((2147483647 : Int) < (d.size : Int)) = false := decide_eq_false (by omega)
  have g2 : decide ((1048576 : Int) < (d.size : Int)) = false := decide_eq_false (by omega)
  clear hr hcl hh
  go_enter Try.func8, Try.ntmps8
  go_wp2_with fail
  refine (heap_any _ d d.size w HR.out (Nat.le_refl _) (by omega)).mono ?_
  rintro e w0 ⟨rfl, q, rfl⟩
  rw [HH.out]
  go_wp2_with fail
  refine (impl_Push _ d x (w.drewN q) (HR.out.drewN q) (by omega)).mono ?_
  rintro e w1 ⟨v1, rfl, ho1, hb1⟩
  obtain ⟨A1, c1, rfl⟩ := ho1.shape
  have B1 : Hid (Below w.heap.size w w1) := Lib.hid ((below_drewN (Below.refl _ _) q).trans hb1)
  have O1 := Lib.hid ho1
  clear ho1 hb1
  go_wp2_with fail
  refine (sclone_any _ d w1 (HR.out.below B1.out) (by omega)).mono ?_
  rintro e w2 ⟨v2, rfl, ho2, hb2⟩
  obtain ⟨A2, c2, rfl⟩ := ho2.shape
  have O2 := Lib.hid ho2
  have B2 := Lib.hid hb2
  clear ho2 hb2
  go_wp2_with (at_builtin; refine wpList_app _ rfl _ _ 22 22 rfl Try.underlying22 Try.underlying22 w1.heap.size (.slice A2 d.size c2) (.slice (some ⟨w2.heap.size, 0, none⟩) 1 1) d #[x] (d.push x) (d.size + 1) rfl rfl (by exact O2.out.alloc _) (Rd.one (by simp) (by simp)) (by simp; omega) (by have := B2.out.size; simp; omega) (by simp) (by simp) ?_; intro A3 c3 w3 hown hg hb; have O3 := Lib.hid hown; have L3 : Hid (Below w1.heap.size w1 w3) := Lib.hid ((B2.out.alloc B2.out.size _).grown hg (by have := B2.out.size; simp; omega) (fun k hk => (O2.out.lt k hk).1)); clear hown hg hb)
  refine (same_any _ _ (pushA d x) (d.push x) w3 (by have := O1.out.rd.below L3.out; rw [HZ.out] at this ⊢; exact this) (by exact O3.out.rd) HP.out (by rw [HZ.out]; omega)).mono ?_
  rintro e w4 ⟨rfl, hb4⟩
  have B4 : Hid (Below w1.heap.size w1 w4) := Lib.hid (L3.out.trans (hb4.mono L3.out.size))
  clear hb4
  go_wp2_with fail
  refine (heap_any _ (pushA d x) (pushA d x).size w4 (by exact O1.out.rd.below B4.out) (Nat.le_refl _) (by rw [HZ.out]; omega)).mono ?_
  rintro e w5 ⟨rfl, q5, rfl⟩
  have HE' : heapB (pushA d x) (pushA d x).size = true := by rw [HZ.out]; exact HE.out
  rw [HE']
  clear HE'
  go_wp2_with fail
  go_ret
  exact ⟨rfl, below_drewN (B1.out.trans (B4.out.mono B1.out.size)) q5⟩

set_option maxHeartbeats 1000000 in
theorem law_Push (v : Value) (d : Array Int) (x : Int) (w : World) (hr : Rd w v d) (_hx1 : -9223372036854775808 ≤ x) (_hx2 : x ≤ 9223372036854775807) :
    Calls Try.prog 8 #[v, .int .i64 x] w fun e w' => e = .returned (.bool true) ∧ Below w.heap.size w w' := by
  obtain ⟨A, c, rfl, hdc, hcm, _⟩ := id hr
  have HR := Lib.hid hr
  have hdm : d.size ≤ 9223372036854775807 := by simp only [maxLen] at hcm; omega
  clear hr hdc hcm
  by_cases h1 : 2147483647 < d.size
  · have h1' : (2147483647 : Int) < (d.size : Int) := by omega
    go_enter Try.func8, Try.ntmps8
    go_wp2_with fail
    go_ret
    exact ⟨rfl, Below.refl _ _⟩
  · by_cases h4 : 1048576 < d.size
    · have h4' : (1048576 : Int) < (d.size : Int) := by omega
      go_enter Try.func8, Try.ntmps8
      go_wp2_with fail
      go_ret
      exact ⟨rfl, Below.refl _ _⟩
    · cases hh : heapB d d.size with
      | true => exact push_heap_law _ d x w HR.out (by omega)  hh
      | false =>
        have HH := Lib.hid hh
        clear hh
        go_enter Try.func8, Try.ntmps8
        go_wp2_with fail
        refine (heap_any _ d d.size w HR.out (Nat.le_refl _) (by omega)).mono ?_
        rintro e w0 ⟨rfl, q, rfl⟩
        rw [HH.out]
        go_wp2_with fail
        go_ret
        exact ⟨rfl, below_drewN (Below.refl _ _) q⟩
end Go.Proofs.Ytkceigigdklaoaa
