/-
  The law FnExactDown: the call returns true at every list, place and number, and turns nothing that was there. No conditions.
-/
import Derived.Test.YtkceigigdklaoaaSunk
import Derived.Test.YtkceigigdklaoaaLawExactUp
namespace Go.Proofs.Ytkceigigdklaoaa
open Go.RowKit Go.Sort

set_option maxHeartbeats 2000000 in
theorem exactDown_true (v : Value) (d : Array Int) (i n : Nat) (w : World) (hr : Rd w v d) (h1 : d.size ≤ 1048576) (hi : i < n) (hn : n ≤ d.size) (hm : i < (downA d i n).2) :
    Calls Try.prog 5 #[v, .int .i64 i, .int .i64 n] w fun e w' => e = .returned (.bool true) ∧ Below w.heap.size w w' := by
  have hne : ((downA d i n).1[i]! == d[i]!) = false := by
    rw [beq_eq_false_iff_ne]
    have := (downA_all _ d i n (Nat.le_refl _) hi hn).2.2.2.2.1 hm
    omega
  have HM : Hid (decide (i < (downA d i n).2) = true) := Lib.hid (decide_eq_true hm)
  obtain ⟨A, c, rfl, _, _, hcl⟩ := id hr
  have HR := Lib.hid hr
  have HC := Lib.hid hcl
  obtain ⟨x, hx⟩ : ∃ x, d[i]! = x := ⟨_, rfl⟩
  obtain ⟨y, hy⟩ : ∃ y, (downA d i n).1[i]! = y := ⟨_, rfl⟩
  rw [hx, hy] at hne
  have hne2 : (y != x) = true := by rw [bne, hne]; rfl
  have HX := Lib.hid hx
  have HY := Lib.hid hy
  have hz := downA_size d i n hi hn
  have HZ := Lib.hid hz
  clear hr hcl hx hy hm hz
  go_enter Try.func5, Try.ntmps5
  go_wp2_with fail
  refine (impl_Down _ d i n w HR.out (by omega) hn (by omega) (by omega)).mono ?_
  rintro e w1 ⟨v1, rfl, ho1, hb1⟩
  rw [HM.out]
  have O1 := Lib.hid ho1
  have B1 := Lib.hid hb1
  clear ho1 hb1
  go_wp2_with fail
  refine (sunk_any _ d i n w1 (HR.out.below B1.out) hi hn (by omega)).mono ?_
  rintro e w2 ⟨v2, rfl, ho2, hb2⟩
  obtain ⟨g, cap, cur, rfl, _, _, _, _, hH⟩ := ho2.form (by rw [HZ.out]; omega)
  have cy := (hH i (by rw [HZ.out]; omega)).1
  rw [HY.out, Nat.zero_add] at cy
  obtain ⟨b, o, ha, hlt, hcells⟩ := HC.out (by omega)
  have cx := ((B1.out.trans (hb2.mono B1.out.size)).cell (p := ⟨b, o + i, none⟩) hlt).trans (hcells i (by omega))
  rw [HX.out] at cx
  subst ha
  have O2 := Lib.hid ho2
  have B2 := Lib.hid hb2
  have hi1 : (i : Int) < (d.size : Int) := by omega
  have hi2 : (i : Int) < ((downA d i n).1.size : Int) := by rw [HZ.out]; omega
  clear ho2 hb2 hH hcells hlt
  go_wp2_with fail
  go_quiet ((go_at_call 16; exact Calls.quiet_of (equal_same v1 _ (downA d i n).1 _ (by exact (O1.out.rd.below B2.out).drewN _) (by exact O2.out.rd.drewN _) (by rw [HZ.out]; omega))))
  go_wp2_with fail
  go_ret
  exact ⟨rfl, below_drewN (B1.out.trans (B2.out.mono B1.out.size)) _⟩

set_option maxHeartbeats 2000000 in
theorem exactDown_false (v : Value) (d : Array Int) (i n : Nat) (w : World) (hr : Rd w v d) (h1 : d.size ≤ 1048576) (hi : i < n) (hn : n ≤ d.size) (hm : ¬ i < (downA d i n).2) :
    Calls Try.prog 5 #[v, .int .i64 i, .int .i64 n] w fun e w' => e = .returned (.bool true) ∧ Below w.heap.size w w' := by
  have hne : ((downA d i n).1[i]! == d[i]!) = true := by
    have h5 := downA_all _ d i n (Nat.le_refl _) hi hn
    rw [h5.2.2.2.2.2 (by have := h5.2.2.1; omega)]
    simp
  have HM : Hid (decide (i < (downA d i n).2) = false) := Lib.hid (decide_eq_false hm)
  obtain ⟨A, c, rfl, _, _, hcl⟩ := id hr
  have HR := Lib.hid hr
  have HC := Lib.hid hcl
  obtain ⟨x, hx⟩ : ∃ x, d[i]! = x := ⟨_, rfl⟩
  obtain ⟨y, hy⟩ : ∃ y, (downA d i n).1[i]! = y := ⟨_, rfl⟩
  rw [hx, hy] at hne
  have hne2 : (y != x) = false := by rw [bne, hne]; rfl
  have HX := Lib.hid hx
  have HY := Lib.hid hy
  have hz := downA_size d i n hi hn
  have HZ := Lib.hid hz
  clear hr hcl hx hy hm hz
  go_enter Try.func5, Try.ntmps5
  go_wp2_with fail
  refine (impl_Down _ d i n w HR.out (by omega) hn (by omega) (by omega)).mono ?_
  rintro e w1 ⟨v1, rfl, ho1, hb1⟩
  rw [HM.out]
  have O1 := Lib.hid ho1
  have B1 := Lib.hid hb1
  clear ho1 hb1
  go_wp2_with fail
  refine (sunk_any _ d i n w1 (HR.out.below B1.out) hi hn (by omega)).mono ?_
  rintro e w2 ⟨v2, rfl, ho2, hb2⟩
  obtain ⟨g, cap, cur, rfl, _, _, _, _, hH⟩ := ho2.form (by rw [HZ.out]; omega)
  have cy := (hH i (by rw [HZ.out]; omega)).1
  rw [HY.out, Nat.zero_add] at cy
  obtain ⟨b, o, ha, hlt, hcells⟩ := HC.out (by omega)
  have cx := ((B1.out.trans (hb2.mono B1.out.size)).cell (p := ⟨b, o + i, none⟩) hlt).trans (hcells i (by omega))
  rw [HX.out] at cx
  subst ha
  have O2 := Lib.hid ho2
  have B2 := Lib.hid hb2
  have hi1 : (i : Int) < (d.size : Int) := by omega
  have hi2 : (i : Int) < ((downA d i n).1.size : Int) := by rw [HZ.out]; omega
  clear ho2 hb2 hH hcells hlt
  go_wp2_with fail
  go_quiet ((go_at_call 16; exact Calls.quiet_of (equal_same v1 _ (downA d i n).1 _ (by exact (O1.out.rd.below B2.out).drewN _) (by exact O2.out.rd.drewN _) (by rw [HZ.out]; omega))))
  go_wp2_with fail
  go_ret
  exact ⟨rfl, below_drewN (B1.out.trans (B2.out.mono B1.out.size)) _⟩

set_option maxHeartbeats 1000000 in
theorem law_ExactDown (v : Value) (d : Array Int) (i n : Int) (w : World) (hr : Rd w v d) (hi1 : -9223372036854775808 ≤ i) (hi2 : i ≤ 9223372036854775807) (hn1 : -9223372036854775808 ≤ n) (hn2 : n ≤ 9223372036854775807) :
    Calls Try.prog 5 #[v, .int .i64 i, .int .i64 n] w fun e w' => e = .returned (.bool true) ∧ Below w.heap.size w w' := by
  obtain ⟨A, c, rfl, hdc, hcm, _⟩ := id hr
  have HR := Lib.hid hr
  have hdm : d.size ≤ 9223372036854775807 := by simp only [maxLen] at hcm; omega
  clear hr hdc hcm
  by_cases h1 : 2147483647 < d.size
  · have h1' : (2147483647 : Int) < (d.size : Int) := by omega
    go_enter Try.func5, Try.ntmps5
    go_wp2_with fail
    go_ret
    exact ⟨rfl, Below.refl _ _⟩
  · by_cases h2 : i < 0
    · go_enter Try.func5, Try.ntmps5
      go_wp2_with fail
      go_ret
      exact ⟨rfl, Below.refl _ _⟩
    · by_cases h3 : n ≤ i
      · go_enter Try.func5, Try.ntmps5
        go_wp2_with fail
        go_ret
        exact ⟨rfl, Below.refl _ _⟩
      · by_cases h4 : (d.size : Int) < n
        · go_enter Try.func5, Try.ntmps5
          go_wp2_with fail
          go_ret
          exact ⟨rfl, Below.refl _ _⟩
        · by_cases h5 : 1048576 < d.size
          · have h5' : (1048576 : Int) < (d.size : Int) := by omega
            go_enter Try.func5, Try.ntmps5
            go_wp2_with fail
            go_ret
            exact ⟨rfl, Below.refl _ _⟩
          · obtain ⟨k, rfl⟩ : ∃ k : Nat, i = (k : Int) := ⟨i.toNat, by omega⟩
            obtain ⟨m, rfl⟩ : ∃ m : Nat, n = (m : Int) := ⟨n.toNat, by omega⟩
            by_cases hm : k < (downA d k m).2
            · exact exactDown_true _ d k m w HR.out (by omega) (by omega) (by omega) hm
            · exact exactDown_false _ d k m w HR.out (by omega) (by omega) (by omega) hm
end Go.Proofs.Ytkceigigdklaoaa
