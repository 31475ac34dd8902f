/-
  The law FnExactUp: the call returns true at every list and every place, and turns nothing that was there. No conditions.
-/
import Derived.Test.YtkceigigdklaoaaSpec
namespace Go.Proofs.Ytkceigigdklaoaa
open Go.RowKit Go.Sort

theorem rd_of {w : World} {a : Option Addr} {len cap : Nat} {zs : List Int} (h : (a = none ∧ len = 0 ∧ cap = 0 ∧ zs = []) ∨
    ∃ x, a = some x ∧ len ≤ cap ∧ cap ≤ maxLen ∧ zs.length = cap ∧ (∀ i, i < zs.length → w.cell? (x.add i) = some (.int .i64 (zs.getD i 0))) ∧ ∀ n ∈ zs, (Lit.int .i64 n).wf = true) :
    ∃ d : Array Int, d.size = len ∧ Rd w (.slice a len cap) d := by
  rcases h with ⟨rfl, rfl, rfl, rfl⟩ | ⟨x, rfl, h1, h2, h3, h4, _⟩
  · exact ⟨#[], rfl, Rd.nil w⟩
  · have hs : ((zs.take len).toArray).size = len := by simp; omega
    refine ⟨(zs.take len).toArray, hs, some x, cap, by rw [hs], by rw [hs]; exact h1, h2, fun h0 => ?_⟩
    rw [hs] at h0
    obtain ⟨b, o, spot⟩ := x
    have hspot : spot = none := by simpa [Addr.add] using World.cell?_spot (h4 0 (by omega))
    subst hspot
    have hc : ∀ i, i < zs.length → w.cell? ⟨b, o + i, none⟩ = some (.int .i64 (zs.getD i 0)) := fun i hi => by rw [← Go.WideShapes.add_plain]; exact h4 i hi
    obtain ⟨c, e, fr, hb, _⟩ := cells_of_cell? (hc 0 (by omega))
    refine ⟨b, o, rfl, ?_, fun j hj => ?_⟩
    · rcases Nat.lt_or_ge b w.heap.size with hlt | hge
      · exact hlt
      · rw [Array.getElem?_eq_none hge] at hb; cases hb
    · rw [hs] at hj
      rw [hc j (by omega), getElem!_pos (zs.take len).toArray j (by rw [hs]; exact hj)]
      simp [List.getD, show j < zs.length by omega]

set_option maxHeartbeats 1000000 in
theorem law_ExactUp (v : Value) (d : Array Int) (j : Int) (w : World) (hr : Rd w v d) (hj1 : -9223372036854775808 ≤ j) (hj2 : j ≤ 9223372036854775807) :
    Calls Try.prog 3 #[v, .int .i64 j] w fun e w' => e = .returned (.bool true) ∧ Below w.heap.size w w' := by
  obtain ⟨A, c, rfl, hdc, hcm, _⟩ := id hr
  have HR := Lib.hid hr
  have hdm : d.size ≤ 9223372036854775807 := by simp only [maxLen] at hcm; omega
  clear hr hdc hcm
  by_cases h1 : 2147483647 < d.size
  · have h1' : (2147483647 : Int) < (d.size : Int) := by omega
    go_enter Try.func3, Try.ntmps3
    go_wp2_with fail
    go_ret
    exact ⟨rfl, Below.refl _ _⟩
  · by_cases h2 : j < 0
    · go_enter Try.func3, Try.ntmps3
      go_wp2_with fail
      go_ret
      exact ⟨rfl, Below.refl _ _⟩
    · by_cases h3 : (d.size : Int) ≤ j
      · go_enter Try.func3, Try.ntmps3
        go_wp2_with fail
        go_ret
        exact ⟨rfl, Below.refl _ _⟩
      · by_cases h4 : 1048576 < d.size
        · have h4' : (1048576 : Int) < (d.size : Int) := by omega
          go_enter Try.func3, Try.ntmps3
          go_wp2_with fail
          go_ret
          exact ⟨rfl, Below.refl _ _⟩
        · obtain ⟨k, rfl⟩ : ∃ k : Nat, j = (k : Int) := ⟨j.toNat, by omega⟩
          go_enter Try.func3, Try.ntmps3
          go_wp2_with fail
          refine (impl_Up _ d k w HR.out (by omega) (by omega)).mono ?_
          rintro e w1 ⟨v1, rfl, ho1, hb1⟩
          have O1 := Lib.hid ho1
          have B1 := Lib.hid hb1
          clear ho1 hb1
          go_wp2_with fail
          refine (risen_any _ d k w1 (HR.out.below B1.out) (by omega) (by omega)).mono ?_
          rintro e w2 ⟨v2, rfl, ho2, hb2⟩
          have O2 := Lib.hid ho2
          have B2 := Lib.hid hb2
          clear ho2 hb2
          go_wp2_with fail
          refine (equal_same v1 v2 (upA d k) w2 (O1.out.rd.below B2.out) O2.out.rd (by rw [upA_size d k (by omega)]; omega)).mono ?_
          rintro e w3 ⟨rfl, n, rfl⟩
          go_wp2_with fail
          go_ret
          exact ⟨rfl, below_drewN (B1.out.trans (B2.out.mono B1.out.size)) n⟩
end Go.Proofs.Ytkceigigdklaoaa
