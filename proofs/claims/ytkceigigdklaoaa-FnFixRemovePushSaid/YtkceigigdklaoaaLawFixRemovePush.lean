/-
  The law FnFixRemovePush: the call returns true at every input, and turns nothing that was there. No conditions.
-/
import Derived.Test.YtkceigigdklaoaaSame
import Derived.Test.YtkceigigdklaoaaHeaps
import Derived.Test.YtkceigigdklaoaaLawExactUp
import Derived.Test.YtkceigigdklaoaaMore
namespace Go.Proofs.Ytkceigigdklaoaa
open Go.RowKit Go.Sort

theorem set_push_perm (d r : Array Int) (i : Nat) (x : Int) (hi : i < d.size) (h : (r.push d[i]!).Perm d) : (r.push x).Perm (d.setIfInBounds i x) := by
  rw [Array.perm_iff_toList_perm] at h ⊢
  rw [List.perm_iff_count] at h ⊢
  intro y
  have hy := h y
  rw [getElem!_pos d i hi] at hy
  simp only [Array.toList_push, List.count_append, Array.toList_setIfInBounds] at hy ⊢
  have hc : 0 < d.toList.count d[i] := List.count_pos_iff.2 (by simp)
  rw [List.count_set (by simpa using hi)]
  simp only [Array.getElem_toList, List.count_singleton] at hy ⊢
  by_cases e1 : d[i] = y <;> by_cases e2 : x = y <;> simp_all <;> omega

set_option maxHeartbeats 2000000 in
theorem fixRemovePush_heap_law (v : Value) (d : Array Int) (i : Nat) (x : Int) (w : World) (hr : Rd w v d) (h1 : d.size ≤ 1048576) (hi : i < d.size) (hh : heapB d d.size = true) :
    Calls Try.prog 15 #[v, .int .i64 i, .int .i64 x] w fun e w' => e = .returned (.bool true) ∧ Below w.heap.size w w' := by
  obtain ⟨f, hf⟩ : ∃ f, fixA (d.setIfInBounds i x) i d.size = f := ⟨_, rfl⟩
  obtain ⟨r, hrr⟩ : ∃ r, (removeA d i).pop = r := ⟨_, rfl⟩
  obtain ⟨p, hp⟩ : ∃ p, pushA r x = p := ⟨_, rfl⟩
  have hsz : (d.setIfInBounds i x).size = d.size := by simp
  have hrs : r.size = d.size - 1 := by rw [← hrr, size_pos_pop, removeA_size d i hi]
  have hfe := set_fix d i x ((heapB_iff _ _).1 hh) hi
  have hfp := fixA_perm (d.setIfInBounds i x) i d.size hi (by rw [hsz]; exact Nat.le_refl _)
  rw [hf] at hfe hfp
  have hre := remove_heap d i ((heapB_iff _ _).1 hh) hi
  have hrp := remove_push d i hi
  rw [hrr] at hre hrp
  have hpe := push_heap r x (by rw [hrs]; exact hre)
  have hpp := pushA_perm r x
  rw [hp] at hpe hpp
  have HFP := Lib.hid (hfp.trans (hpp.trans (set_push_perm d r i x hi hrp)).symm)
  have HFS : Hid (f.size = d.size) := Lib.hid (by rw [hfp.size_eq, hsz])
  have HPS : Hid (p.size = d.size) := Lib.hid (by rw [hpp.size_eq, Array.size_push, hrs]; omega)
  have HFE : Hid (heapB f f.size = true) := Lib.hid (by rw [HFS.out]; exact (heapB_iff _ _).2 hfe)
  have HPE : Hid (heapB p p.size = true) := Lib.hid (by rw [hpp.size_eq, Array.size_push]; exact (heapB_iff _ _).2 hpe)
  have HRS := Lib.hid hrs
  have HF := Lib.hid hf
  have HRR := Lib.hid hrr
  have HPP := Lib.hid hp
  have HV := Lib.hid (removeA_last d i hi)
  have HH := Lib.hid hh
  obtain ⟨A, c, rfl, _, _, hcl⟩ := id hr
  have HR := Lib.hid hr
  have g1 : decide ((2147483647 : Int) < (d.size : Int)) = false := decide_eq_false (by omega)
  have g2 : decide ((1048576 : Int) < (d.size : Int)) = false := decide_eq_false (by omega)
  have g3 : decide ((i : Int) < 0) = false := decide_eq_false (by omega)
  have g4 : decide ((d.size : Int) ≤ (i : Int)) = false := decide_eq_false (by omega)
  obtain ⟨b, o, ha, hlt, hcells⟩ := hcl (by omega)
  obtain ⟨y, hy⟩ : ∃ y, d[i]! = y := ⟨_, rfl⟩
  have hcx := hcells i hi
  rw [hy] at hcx
  have HC : Hid (∀ w', Below w.heap.size w w' → w'.cell? ⟨b, o + i, none⟩ = some (.int .i64 y)) := Lib.hid fun w' hb => (hb.cell (p := ⟨b, o + i, none⟩) hlt).trans hcx
  have HX := Lib.hid hy
  have hii : (i : Int) < (d.size : Int) := by omega
  subst ha
  clear hr hcl hh hcells hcx hy hlt hf hrr hp hsz hrs hfe hfp hre hrp hpe hpp
  go_enter Try.func15, Try.ntmps15
  go_wp2_with fail
  refine (heap_any _ d d.size w HR.out (Nat.le_refl _) (by omega)).mono ?_
  rintro e w0 ⟨rfl, q, rfl⟩
  rw [HH.out]
  go_wp2_with fail
  refine (impl_Fix _ d i x (w.drewN q) (HR.out.drewN q) hi (by omega)).mono ?_
  rintro e w1 ⟨v1, rfl, ho1, hb1⟩
  rw [HF.out] at ho1
  obtain ⟨A1, c1, rfl⟩ := ho1.shape
  have B1 : Hid (Below w.heap.size w w1) := Lib.hid ((below_drewN (Below.refl _ _) q).trans hb1)
  have O1 := Lib.hid ho1.rd
  clear ho1 hb1
  go_wp2_with fail
  refine (impl_Remove _ d i w1 (HR.out.below B1.out) hi (by omega)).mono ?_
  rintro e w2 ⟨v2, rfl, ho2, hb2⟩
  rw [HRR.out] at ho2
  rw [HV.out, HX.out]
  obtain ⟨A2, c2, rfl⟩ := ho2.shape
  have B2 : Hid (Below w.heap.size w w2) := Lib.hid (B1.out.trans (hb2.mono B1.out.size))
  have O2 := Lib.hid ho2.rd
  have R2 : Hid (Rd w2 _ f) := Lib.hid (O1.out.below hb2)
  clear ho2 hb2
  go_wp2_with fail
  refine (impl_Push _ r x w2 O2.out (by rw [HRS.out]; omega)).mono ?_
  rintro e w3 ⟨v3, rfl, ho3, hb3⟩
  rw [HPP.out] at ho3
  obtain ⟨A3, c3, rfl⟩ := ho3.shape
  have B3 : Hid (Below w.heap.size w w3) := Lib.hid (B2.out.trans (hb3.mono B2.out.size))
  have O3 := Lib.hid ho3.rd
  have R3 : Hid (Rd w3 _ f) := Lib.hid (R2.out.below hb3)
  have hc3 := HC.out w3 B3.out
  have hfd : ((f.size : Int) == (d.size : Int)) = true := by rw [HFS.out]; simp
  clear ho3 hb3
  go_wp2_with fail
  refine (same_any _ _ f p w3 R3.out O3.out HFP.out (by rw [HFS.out]; omega)).mono ?_
  rintro e w4 ⟨rfl, hb4⟩
  have B4 : Hid (Below w.heap.size w w4) := Lib.hid (B3.out.trans (hb4.mono B3.out.size))
  have R4 : Hid (Rd w4 _ f) := Lib.hid (R3.out.below hb4)
  have R5 : Hid (Rd w4 _ p) := Lib.hid (O3.out.below hb4)
  clear hb4 hc3
  go_wp2_with fail
  refine (heap_any _ f f.size w4 R4.out (Nat.le_refl _) (by rw [HFS.out]; omega)).mono ?_
  rintro e w5 ⟨rfl, q5, rfl⟩
  rw [HFE.out]
  go_wp2_with fail
  refine (heap_any _ p p.size (w4.drewN q5) (R5.out.drewN q5) (Nat.le_refl _) (by rw [HPS.out]; omega)).mono ?_
  rintro e w6 ⟨rfl, q6, rfl⟩
  rw [HPE.out]
  go_wp2_with fail
  go_ret
  exact ⟨rfl, below_drewN B4.out _⟩

set_option maxHeartbeats 1000000 in
theorem law_FixRemovePush (v : Value) (d : Array Int) (i : Int) (x : Int) (w : World) (hr : Rd w v d) (hi1 : -9223372036854775808 ≤ i) (hi2 : i ≤ 9223372036854775807) (_hx1 : -9223372036854775808 ≤ x) (_hx2 : x ≤ 9223372036854775807) :
    Calls Try.prog 15 #[v, .int .i64 i, .int .i64 x] w fun e w' => e = .returned (.bool true) ∧ Below w.heap.size w w' := by
  obtain ⟨A, c, rfl, hdc, hcm, _⟩ := id hr
  have HR := Lib.hid hr
  have hdm : d.size ≤ 9223372036854775807 := by simp only [maxLen] at hcm; omega
  clear hr hdc hcm
  by_cases h1 : 2147483647 < d.size
  · have h1' : (2147483647 : Int) < (d.size : Int) := by omega
    go_enter Try.func15, Try.ntmps15
    go_wp2_with fail
    go_ret
    exact ⟨rfl, Below.refl _ _⟩
  · by_cases h2 : i < 0
    · go_enter Try.func15, Try.ntmps15
      go_wp2_with fail
      go_ret
      exact ⟨rfl, Below.refl _ _⟩
    · by_cases h3 : (d.size : Int) ≤ i
      · go_enter Try.func15, Try.ntmps15
        go_wp2_with fail
        go_ret
        exact ⟨rfl, Below.refl _ _⟩
      · by_cases h4 : 1048576 < d.size
        · have h4' : (1048576 : Int) < (d.size : Int) := by omega
          go_enter Try.func15, Try.ntmps15
          go_wp2_with fail
          go_ret
          exact ⟨rfl, Below.refl _ _⟩
        · obtain ⟨k, rfl⟩ : ∃ k : Nat, i = (k : Int) := ⟨i.toNat, by omega⟩
          cases hh : heapB d d.size with
          | true => exact fixRemovePush_heap_law _ d k x w HR.out (by omega) (by omega) hh
          | false =>
            have HH := Lib.hid hh
            clear hh
            go_enter Try.func15, Try.ntmps15
            go_wp2_with fail
            refine (heap_any _ d d.size w HR.out (Nat.le_refl _) (by omega)).mono ?_
            rintro e w0 ⟨rfl, q, rfl⟩
            rw [HH.out]
            go_wp2_with fail
            go_ret
            exact ⟨rfl, below_drewN (Below.refl _ _) q⟩
end Go.Proofs.Ytkceigigdklaoaa
