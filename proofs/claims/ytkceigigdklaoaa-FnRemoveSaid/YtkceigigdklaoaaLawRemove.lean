/-
  The law FnRemove: the call returns true at every input, and turns nothing that was there. No conditions.
-/
import Derived.Test.YtkceigigdklaoaaSame
import Derived.Test.YtkceigigdklaoaaHeaps
import Derived.Test.YtkceigigdklaoaaLawExactUp
import Derived.Test.YtkceigigdklaoaaMore
namespace Go.Proofs.Ytkceigigdklaoaa
open Go.RowKit Go.Sort

set_option maxHeartbeats 2000000 in
theorem remove_heap_law (v : Value) (d : Array Int) (i : Nat) (w : World) (hr : Rd w v d) (h1 : d.size ≤ 1048576) (hi : i < d.size) (hh : heapB d d.size = true) :
    Calls Try.prog 14 #[v, .int .i64 i] w fun e w' => e = .returned (.bool true) ∧ Below w.heap.size w w' := by
  obtain ⟨r, hrr⟩ : ∃ r, (removeA d i).pop = r := ⟨_, rfl⟩
  have hpe := remove_heap d i ((heapB_iff _ _).1 hh) hi
  have hpp := remove_push d i hi
  have hpz : (removeA d i).pop.size = d.size - 1 := by rw [size_pos_pop, removeA_size d i hi]
  rw [hrr] at hpe hpp hpz
  have HRR := Lib.hid hrr
  have HE := Lib.hid ((heapB_iff _ _).2 hpe)
  have HP := Lib.hid hpp
  have HZ : Hid (r.size = d.size - 1) := Lib.hid hpz
  have HV := Lib.hid (removeA_last d i hi)
  clear hpe hpp hpz hrr
  have HH := Lib.hid hh
  obtain ⟨A, c, rfl, _, _, hcl⟩ := id hr
  have HR := Lib.hid hr
  have g1 : decide ((2147483647 : Int) < (d.size : Int)) = false := decide_eq_false (by omega)
  have g2 : decide ((1048576 : Int) < (d.size : Int)) = false := decide_eq_false (by omega)
  have g3 : decide ((i : Int) < 0) = false := decide_eq_false (by omega)
  have g4 : decide ((d.size : Int) ≤ (i : Int)) = false := decide_eq_false (by omega)
  obtain ⟨b, o, ha, hlt, hcells⟩ := hcl (by omega)
  obtain ⟨x, hx⟩ : ∃ x, d[i]! = x := ⟨_, rfl⟩
  have hcx := hcells i hi
  rw [hx] at hcx
  have HC : Hid (∀ w', Below w.heap.size w w' → w'.cell? ⟨b, o + i, none⟩ = some (.int .i64 x)) := Lib.hid fun w' hb => (hb.cell (p := ⟨b, o + i, none⟩) hlt).trans hcx
  have HX := Lib.hid hx
  have hii : (i : Int) < (d.size : Int) := by omega
  subst ha
  clear hr hcl hh hcells hcx hx hlt
  go_enter Try.func14, Try.ntmps14
  go_wp2_with fail
  refine (heap_any _ d d.size w HR.out (Nat.le_refl _) (by omega)).mono ?_
  rintro e w0 ⟨rfl, q, rfl⟩
  rw [HH.out]
  go_wp2_with fail
  refine (impl_Remove _ d i (w.drewN q) (HR.out.drewN q) hi (by omega)).mono ?_
  rintro e w1 ⟨v1, rfl, ho1, hb1⟩
  rw [HRR.out] at ho1
  rw [HV.out, HX.out]
  obtain ⟨A1, c1, rfl⟩ := ho1.shape
  have B1 : Hid (Below w.heap.size w w1) := Lib.hid ((below_drewN (Below.refl _ _) q).trans hb1)
  have O1 := Lib.hid ho1
  have hc1 := HC.out w1 B1.out
  clear ho1 hb1
  go_wp2_with fail
  refine (sclone_any _ r w1 O1.out.rd (by rw [HZ.out]; omega)).mono ?_
  rintro e w2 ⟨v2, rfl, ho2, hb2⟩
  obtain ⟨A2, c2, rfl⟩ := ho2.shape
  have O2 := Lib.hid ho2
  have B2 := Lib.hid hb2
  clear ho2 hb2
  go_wp2_with (at_builtin; refine wpList_app_g _ rfl _ _ 22 22 rfl Try.underlying22 Try.underlying22 w1.heap.size (.slice A2 r.size c2) (.slice (some ⟨w2.heap.size, 0, none⟩) 1 1) r #[x] (r.push x) (r.size + 1) rfl rfl (by exact O2.out.alloc _) (Rd.one (by simp) (by simp)) (by rw [HZ.out]; simp; omega) (by have := B2.out.size; simp; omega) (by simp) (by simp) ?_; intro A3 c3 w3 hown hg hb; have O3 := Lib.hid hown; have L3 : Hid (Below w1.heap.size w1 w3) := Lib.hid ((B2.out.alloc B2.out.size _).grown hg (by have := B2.out.size; simp; omega) (fun k hk => (O2.out.lt k hk).1)); clear hown hg hb)
  refine (same_any _ _ (r.push x) d w3 (by exact O3.out.rd) (HR.out.below (B1.out.trans (L3.out.mono B1.out.size))) (by rw [← HX.out]; exact HP.out) (by rw [Array.size_push, HZ.out]; omega)).mono ?_
  rintro e w4 ⟨rfl, hb4⟩
  have B4 : Hid (Below w1.heap.size w1 w4) := Lib.hid (L3.out.trans (hb4.mono L3.out.size))
  clear hb4
  go_wp2_with fail
  refine (heap_any _ r r.size w4 (by exact O1.out.rd.below B4.out) (Nat.le_refl _) (by rw [HZ.out]; omega)).mono ?_
  rintro e w5 ⟨rfl, q5, rfl⟩
  have HE' : heapB r r.size = true := by rw [HZ.out]; exact HE.out
  rw [HE']
  clear HE'
  go_wp2_with fail
  go_ret
  exact ⟨rfl, below_drewN (B1.out.trans (B4.out.mono B1.out.size)) q5⟩

set_option maxHeartbeats 1000000 in
theorem law_Remove (v : Value) (d : Array Int) (i : Int) (w : World) (hr : Rd w v d) (hi1 : -9223372036854775808 ≤ i) (hi2 : i ≤ 9223372036854775807) :
    Calls Try.prog 14 #[v, .int .i64 i] w fun e w' => e = .returned (.bool true) ∧ Below w.heap.size w w' := by
  obtain ⟨A, c, rfl, hdc, hcm, _⟩ := id hr
  have HR := Lib.hid hr
  have hdm : d.size ≤ 9223372036854775807 := by simp only [maxLen] at hcm; omega
  clear hr hdc hcm
  by_cases h1 : 2147483647 < d.size
  · have h1' : (2147483647 : Int) < (d.size : Int) := by omega
    go_enter Try.func14, Try.ntmps14
    go_wp2_with fail
    go_ret
    exact ⟨rfl, Below.refl _ _⟩
  · by_cases h2 : i < 0
    · go_enter Try.func14, Try.ntmps14
      go_wp2_with fail
      go_ret
      exact ⟨rfl, Below.refl _ _⟩
    · by_cases h3 : (d.size : Int) ≤ i
      · go_enter Try.func14, Try.ntmps14
        go_wp2_with fail
        go_ret
        exact ⟨rfl, Below.refl _ _⟩
      · by_cases h4 : 1048576 < d.size
        · have h4' : (1048576 : Int) < (d.size : Int) := by omega
          go_enter Try.func14, Try.ntmps14
          go_wp2_with fail
          go_ret
          exact ⟨rfl, Below.refl _ _⟩
        · obtain ⟨k, rfl⟩ : ∃ k : Nat, i = (k : Int) := ⟨i.toNat, by omega⟩
          cases hh : heapB d d.size with
          | true => exact remove_heap_law _ d k w HR.out (by omega) (by omega) hh
          | false =>
            have HH := Lib.hid hh
            clear hh
            go_enter Try.func14, Try.ntmps14
            go_wp2_with fail
            refine (heap_any _ d d.size w HR.out (Nat.le_refl _) (by omega)).mono ?_
            rintro e w0 ⟨rfl, q, rfl⟩
            rw [HH.out]
            go_wp2_with fail
            go_ret
            exact ⟨rfl, below_drewN (Below.refl _ _) q⟩
end Go.Proofs.Ytkceigigdklaoaa
