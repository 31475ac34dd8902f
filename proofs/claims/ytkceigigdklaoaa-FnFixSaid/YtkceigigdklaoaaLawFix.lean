/-
  The law FnFix: the call returns true at every input, and turns nothing that was there. No conditions.
-/
import Derived.Test.YtkceigigdklaoaaSame
import Derived.Test.YtkceigigdklaoaaHeaps
import Derived.Test.YtkceigigdklaoaaLawExactUp
import Derived.Test.YtkceigigdklaoaaMore
namespace Go.Proofs.Ytkceigigdklaoaa
open Go.RowKit Go.Sort

set_option maxHeartbeats 2000000 in
theorem fix_heap_law (v : Value) (d : Array Int) (i : Nat) (x : Int) (w : World) (hr : Rd w v d) (h1 : d.size ≤ 1048576) (hi : i < d.size) (hh : heapB d d.size = true) :
    Calls Try.prog 11 #[v, .int .i64 i, .int .i64 x] w fun e w' => e = .returned (.bool true) ∧ Below w.heap.size w w' := by
  have hsz : (d.setIfInBounds i x).size = d.size := by simp
  have HE := Lib.hid ((heapB_iff _ _).2 (set_fix d i x ((heapB_iff _ _).1 hh) hi))
  have HP := Lib.hid (fixA_perm (d.setIfInBounds i x) i d.size hi (by rw [hsz]; exact Nat.le_refl _))
  have HZ : Hid ((fixA (d.setIfInBounds i x) i d.size).size = d.size) := Lib.hid (by rw [fixA_size _ _ _ (by rw [hsz]; exact hi) (by rw [hsz]; exact Nat.le_refl _), hsz])
  have HH := Lib.hid hh
  have HS := Lib.hid hsz
  obtain ⟨A, c, rfl, _, _, hcl⟩ := id hr
  have HR := Lib.hid hr
  have g1 : decide ((2147483647 : Int) < (d.size : Int)) = false := decide_eq_false (by omega)
  have g2 : decide ((1048576 : Int) < (d.size : Int)) = false := decide_eq_false (by omega)
  have g3 : decide ((i : Int) < 0) = false := decide_eq_false (by omega)
  have g4 : decide ((d.size : Int) ≤ (i : Int)) = false := decide_eq_false (by omega)
  have hii : (i : Int) < (d.size : Int) := by omega
  clear hr hcl hh hsz
  go_enter Try.func11, Try.ntmps11
  go_wp2_with fail
  refine (heap_any _ d d.size w HR.out (Nat.le_refl _) (by omega)).mono ?_
  rintro e w0 ⟨rfl, q, rfl⟩
  rw [HH.out]
  go_wp2_with fail
  refine (impl_Fix _ d i x (w.drewN q) (HR.out.drewN q) hi (by omega)).mono ?_
  rintro e w1 ⟨v1, rfl, ho1, hb1⟩
  obtain ⟨A1, c1, rfl⟩ := ho1.shape
  have B1 : Hid (Below w.heap.size w w1) := Lib.hid ((below_drewN (Below.refl _ _) q).trans hb1)
  have O1 := Lib.hid ho1
  clear ho1 hb1
  go_wp2_with fail
  refine (sclone_any _ d w1 (HR.out.below B1.out) (by omega)).mono ?_
  rintro e w2 ⟨v2, rfl, ho2, hb2⟩
  obtain ⟨g, c2, cur, rfl, hbg, hg2, _, _, hH⟩ := ho2.form (by omega)
  obtain ⟨cx, fx⟩ := hH i hi
  rw [Nat.zero_add] at cx fx
  have O2 := Lib.hid (ho2.set (i := i) x)
  have B2 := Lib.hid hb2
  have BG := Lib.hid hbg
  clear ho2 hb2 hH hg2 hbg
  go_wp2_with fail
  have L3 : Hid (Below w1.heap.size w1 (w2.setCell ⟨g, i, none⟩ (.int .i64 x))) := Lib.hid (B2.out.grown O2.out.2 B2.out.size (fun k hk => by injection hk with hk; rw [← hk]; exact BG.out))
  generalize hw3 : w2.setCell ⟨g, i, none⟩ (.int .i64 x) = w3 at L3 ⊢
  have O3 : Hid (Rd w3 (.slice (some ⟨g, 0, none⟩) d.size c2) (d.setIfInBounds i x)) := Lib.hid (by rw [← hw3]; have := O2.out.1.rd; exact this)
  clear hw3
  refine (same_any _ _ (fixA (d.setIfInBounds i x) i d.size) (d.setIfInBounds i x) w3 (by exact O1.out.rd.below L3.out) O3.out HP.out (by rw [HZ.out]; omega)).mono ?_
  rintro e w4 ⟨rfl, hb4⟩
  have B4 : Hid (Below w1.heap.size w1 w4) := Lib.hid (L3.out.trans (hb4.mono L3.out.size))
  clear hb4
  go_wp2_with fail
  refine (heap_any _ (fixA (d.setIfInBounds i x) i d.size) (fixA (d.setIfInBounds i x) i d.size).size w4 (by exact O1.out.rd.below B4.out) (Nat.le_refl _) (by rw [HZ.out]; omega)).mono ?_
  rintro e w5 ⟨rfl, q5, rfl⟩
  have HE' : heapB (fixA (d.setIfInBounds i x) i d.size) (fixA (d.setIfInBounds i x) i d.size).size = true := by rw [HZ.out]; exact HE.out
  rw [HE']
  clear HE'
  go_wp2_with fail
  go_ret
  exact ⟨rfl, below_drewN (B1.out.trans (B4.out.mono B1.out.size)) q5⟩

set_option maxHeartbeats 1000000 in
theorem law_Fix (v : Value) (d : Array Int) (i : Int) (x : Int) (w : World) (hr : Rd w v d) (hi1 : -9223372036854775808 ≤ i) (hi2 : i ≤ 9223372036854775807) (_hx1 : -9223372036854775808 ≤ x) (_hx2 : x ≤ 9223372036854775807) :
    Calls Try.prog 11 #[v, .int .i64 i, .int .i64 x] w fun e w' => e = .returned (.bool true) ∧ Below w.heap.size w w' := by
  obtain ⟨A, c, rfl, hdc, hcm, _⟩ := id hr
  have HR := Lib.hid hr
  have hdm : d.size ≤ 9223372036854775807 := by simp only [maxLen] at hcm; omega
  clear hr hdc hcm
  by_cases h1 : 2147483647 < d.size
  · have h1' : (2147483647 : Int) < (d.size : Int) := by omega
    go_enter Try.func11, Try.ntmps11
    go_wp2_with fail
    go_ret
    exact ⟨rfl, Below.refl _ _⟩
  · by_cases h2 : i < 0
    · go_enter Try.func11, Try.ntmps11
      go_wp2_with fail
      go_ret
      exact ⟨rfl, Below.refl _ _⟩
    · by_cases h3 : (d.size : Int) ≤ i
      · go_enter Try.func11, Try.ntmps11
        go_wp2_with fail
        go_ret
        exact ⟨rfl, Below.refl _ _⟩
      · by_cases h4 : 1048576 < d.size
        · have h4' : (1048576 : Int) < (d.size : Int) := by omega
          go_enter Try.func11, Try.ntmps11
          go_wp2_with fail
          go_ret
          exact ⟨rfl, Below.refl _ _⟩
        · obtain ⟨k, rfl⟩ : ∃ k : Nat, i = (k : Int) := ⟨i.toNat, by omega⟩
          cases hh : heapB d d.size with
          | true => exact fix_heap_law _ d k x w HR.out (by omega) (by omega) hh
          | false =>
            have HH := Lib.hid hh
            clear hh
            go_enter Try.func11, Try.ntmps11
            go_wp2_with fail
            refine (heap_any _ d d.size w HR.out (Nat.le_refl _) (by omega)).mono ?_
            rintro e w0 ⟨rfl, q, rfl⟩
            rw [HH.out]
            go_wp2_with fail
            go_ret
            exact ⟨rfl, below_drewN (Below.refl _ _) q⟩
end Go.Proofs.Ytkceigigdklaoaa
