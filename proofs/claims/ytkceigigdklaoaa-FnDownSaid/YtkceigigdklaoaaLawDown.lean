/-
  The law FnDown: the call returns true at every list, place and number, and turns nothing that was there. No conditions.
-/
import Derived.Test.YtkceigigdklaoaaUnder
import Derived.Test.YtkceigigdklaoaaCut
import Derived.Test.YtkceigigdklaoaaLawExactUp
namespace Go.Proofs.Ytkceigigdklaoaa
open Go.RowKit Go.Sort

theorem extract_same (a b : Array Int) (k n : Nat) (ha : n ≤ a.size) (hb : n ≤ b.size) (h : ∀ i, k ≤ i → i < n → a[i]! = b[i]!) : a.extract k n = b.extract k n := by
  apply Array.ext
  · simp; omega
  · intro i h1 h2
    simp at h1 h2
    have := h (k + i) (by omega) (by omega)
    rw [Array.getElem_extract, Array.getElem_extract, ← getElem!_pos a (k + i) (by omega), ← getElem!_pos b (k + i) (by omega)]
    exact this

set_option maxHeartbeats 16000000 in
set_option maxRecDepth 100000 in
theorem down_law (v : Value) (d : Array Int) (i n : Nat) (w : World) (hr : Rd w v d) (h1 : d.size ≤ 1048576) (hi : i < n) (hn : n ≤ d.size) (hh : underB d n n i false = true) :
    Calls Try.prog 9 #[v, .int .i64 i, .int .i64 n] w fun e w' => e = .returned (.bool true) ∧ Below w.heap.size w w' := by
  obtain ⟨A, c, rfl, hdc, _, _⟩ := id hr
  obtain ⟨f, hf⟩ : ∃ f, (downA d i n).1 = f := ⟨_, rfl⟩
  obtain ⟨s, hs⟩ : ∃ s : Nat, d.size = s := ⟨_, rfl⟩
  have hall := downA_all _ d i n (Nat.le_refl _) hi hn
  have hu := down_under d i n hi hn hh
  have hz := downA_size d i n hi hn
  have hp := hall.1
  have hfar := hall.2.1
  rw [hf] at hu hz hp hfar
  rw [hs] at hz hdc
  have HX1 : Hid (f.extract 0 i = d.extract 0 i) := Lib.hid (extract_same f d 0 i (by omega) (by omega) (fun k a b => hfar k (.inl b)))
  have HX2 : Hid (f.extract n f.size = d.extract n d.size) := Lib.hid (by
    rw [hz, hs]; exact extract_same f d n s (by omega) (by omega) (fun k a b => hfar k (.inr a)))
  have HU := Lib.hid hu
  have HZ := Lib.hid hz
  have HP := Lib.hid hp
  have HF := Lib.hid hf
  have HH := Lib.hid hh
  have HS := Lib.hid hs
  have HR : Hid (Rd w (.slice A s c) d) := Lib.hid (by rw [← hs]; exact hr)
  obtain ⟨B6, n6, c6, hs6, hr6⟩ := cut_upto A s c i d hs (by omega) hdc
  obtain ⟨B8, n8, c8, hs8, hr8⟩ := cut_from A s c n d hs (by omega) hdc
  have S6 := Lib.hid hs6
  have S8 := Lib.hid hs8
  have R6 := Lib.hid hr6
  have R8 := Lib.hid hr8
  have hsb : s ≤ 1048576 := by omega
  have hns : n ≤ s := by omega
  rw [hs]
  clear hr hh hall hu hz hp hfar hf hs hs6 hs8 hr6 hr8 h1 hn
  have g1 : decide ((2147483647 : Int) < (s : Int)) = false := decide_eq_false (by omega)
  have g2 : decide ((1048576 : Int) < (s : Int)) = false := decide_eq_false (by omega)
  have g3 : decide ((i : Int) < 0) = false := decide_eq_false (by omega)
  have g4 : decide ((n : Int) ≤ (i : Int)) = false := decide_eq_false (by omega)
  have g5 : decide ((s : Int) < (n : Int)) = false := decide_eq_false (by omega)
  go_enter Try.func9, Try.ntmps9
  go_wp2_with fail
  refine (under_any n i n false _ d w (by omega) HR.out (by rw [HS.out]; omega) (by rw [HS.out]; omega) (by omega)).mono ?_
  rintro e w0 ⟨rfl, hb0⟩
  rw [HH.out]
  have B0 := Lib.hid hb0
  clear hb0
  go_wp2_with fail
  refine (impl_Down _ d i n w0 (by exact HR.out.below B0.out) (by rw [HS.out]; omega) (by rw [HS.out]; omega) (by rw [HS.out]; omega) (by rw [HS.out]; omega)).mono ?_
  rintro e w1 ⟨v1, rfl, ho1, hb1⟩
  rw [HF.out] at ho1
  generalize decide (i < (downA d i n).2) = mv
  obtain ⟨A1, c1, rfl⟩ := ho1.shape
  have B1 : Hid (Below w.heap.size w w1) := Lib.hid (B0.out.trans (hb1.mono B0.out.size))
  have O1 : Hid (Rd w1 (.slice A1 s c1) f) := Lib.hid (by have := ho1.rd; rw [HZ.out] at this; exact this)
  have hc1 : s ≤ c1 := by
    obtain ⟨_, c', e, hle, _⟩ := ho1.rd
    cases e; rw [HZ.out] at hle; exact hle
  rw [HZ.out]
  obtain ⟨B5, n5, c5, hs5, hr5⟩ := cut_upto A1 s c1 i f HZ.out (by omega) hc1
  obtain ⟨B7, n7, c7, hs7, hr7⟩ := cut_from A1 s c1 n f HZ.out (by omega) hc1
  have S5 := Lib.hid hs5
  have S7 := Lib.hid hs7
  have R5 := Lib.hid hr5
  have R7 := Lib.hid hr7
  clear ho1 hb1 hs5 hs7 hr5 hr7 hc1
  go_wp2_with fail
  refine wp_region_any (by kernel_rfl) ?_
  change wpAny _ _ _ _ _ _ _ (World.drew _)
  refine wpAny_take (i := 0) (v := .slice A1 s c1) rfl (by kernel_rfl) (by kernel_rfl) (by kernel_rfl) (fun _ _ _ h => h) (Or.inl ⟨by rfl, by (intro w; go_simp)⟩) ?_
  go_simp
  refine wpAny_take (i := 1) (v := .slice A s c) rfl (by kernel_rfl) (by kernel_rfl) (by kernel_rfl) (fun _ _ _ h => h) (Or.inl ⟨by rfl, by (intro w; go_simp)⟩) ?_
  go_simp
  refine wpAny_ready (rs := [2]) (by kernel_rfl) (by simp) ?_
  refine AllReady.cons rfl (fun K hK => ?_) AllReady.nil
  go_simp
  refine (same_any _ _ f d _ (by exact O1.out.drewN 1) (by exact (HR.out.below B1.out).drewN 1) HP.out (by rw [HZ.out]; omega)).mono ?_
  rintro e w2 ⟨rfl, hb2⟩
  have B2 : Hid (Below w.heap.size w w2) := Lib.hid ((below_drewN B1.out 1).trans (hb2.mono B1.out.size))
  have R2 : Hid (Rd w2 (.slice A1 s c1) f) := Lib.hid ((O1.out.drewN 1).below hb2)
  clear hb2
  go_simp
  refine hK _ _ ?_
  clear hK K
  refine wpAny_take (i := 3) (v := .bool true) rfl (by kernel_rfl) (by kernel_rfl) (by kernel_rfl) (fun _ _ _ h => h) (Or.inl ⟨by rfl, by (intro w; go_simp)⟩) ?_
  go_simp
  refine wpAny_take (i := 4) (v := .slice A1 s c1) rfl (by kernel_rfl) (by kernel_rfl) (by kernel_rfl) (fun _ _ _ h => h) (Or.inl ⟨by rfl, by (intro w; go_simp)⟩) ?_
  go_simp
  refine wpAny_take (i := 5) (v := .int .i64 i) rfl (by kernel_rfl) (by kernel_rfl) (by kernel_rfl) (fun _ _ _ h => h) (Or.inl ⟨by rfl, by (intro w; go_simp)⟩) ?_
  go_simp
  refine wpAny_take (i := 6) (v := .int .i64 n) rfl (by kernel_rfl) (by kernel_rfl) (by kernel_rfl) (fun _ _ _ h => h) (Or.inl ⟨by rfl, by (intro w; go_simp)⟩) ?_
  go_simp
  refine wpAny_ready (rs := [7]) (by kernel_rfl) (by simp) ?_
  refine AllReady.cons rfl (fun K hK => ?_) AllReady.nil
  go_simp
  refine (under_any n i n true _ f w2 (by omega) R2.out (by rw [HZ.out]; omega) (by rw [HZ.out]; omega) (by omega)).mono ?_
  rintro e w3 ⟨rfl, hb3⟩
  rw [HU.out]
  have B3 : Hid (Below w.heap.size w w3) := Lib.hid (B2.out.trans (hb3.mono B2.out.size))
  have R3 : Hid (Rd w3 (.slice A1 s c1) f) := Lib.hid (R2.out.below hb3)
  have R4 : Hid (Rd w3 (.slice A s c) d) := Lib.hid (HR.out.below B3.out)
  clear hb3
  go_simp
  refine hK _ _ ?_
  clear hK K
  have s5 := S5.out
  have s6 := S6.out
  refine wpAny_take (i := 8) (v := .bool true) rfl (by kernel_rfl) (by kernel_rfl) (by kernel_rfl) (fun _ _ _ h => h) (Or.inl ⟨by rfl, by (intro w; go_simp)⟩) ?_
  go_simp
  refine wpAny_take (i := 9) (v := .bool true) rfl (by kernel_rfl) (by kernel_rfl) (by kernel_rfl) (fun _ _ _ h => h) (Or.inl ⟨by rfl, by (intro w; go_simp)⟩) ?_
  go_simp
  refine wpAny_take (i := 10) (v := .slice A1 s c1) rfl (by kernel_rfl) (by kernel_rfl) (by kernel_rfl) (fun _ _ _ h => h) (Or.inl ⟨by rfl, by (intro w; go_simp)⟩) ?_
  go_simp
  refine wpAny_take (i := 11) (v := .int .i64 i) rfl (by kernel_rfl) (by kernel_rfl) (by kernel_rfl) (fun _ _ _ h => h) (Or.inl ⟨by rfl, by (intro w; go_simp)⟩) ?_
  go_simp
  refine wpAny_take (i := 12) (v := .slice B5 n5 c5) rfl (by kernel_rfl) (by kernel_rfl) (by kernel_rfl) (fun _ _ _ h => h) (Or.inl ⟨by rfl, by (intro w; go_simp)⟩) ?_
  go_simp
  refine wpAny_take (i := 13) (v := .slice A s c) rfl (by kernel_rfl) (by kernel_rfl) (by kernel_rfl) (fun _ _ _ h => h) (Or.inl ⟨by rfl, by (intro w; go_simp)⟩) ?_
  go_simp
  refine wpAny_take (i := 14) (v := .int .i64 i) rfl (by kernel_rfl) (by kernel_rfl) (by kernel_rfl) (fun _ _ _ h => h) (Or.inl ⟨by rfl, by (intro w; go_simp)⟩) ?_
  go_simp
  refine wpAny_take (i := 15) (v := .slice B6 n6 c6) rfl (by kernel_rfl) (by kernel_rfl) (by kernel_rfl) (fun _ _ _ h => h) (Or.inl ⟨by rfl, by (intro w; go_simp)⟩) ?_
  go_simp
  clear s5 s6
  refine wpAny_ready (rs := [16]) (by kernel_rfl) (by simp) ?_
  refine AllReady.cons rfl (fun K hK => ?_) AllReady.nil
  go_simp
  refine (equal_same _ _ (f.extract 0 i) w3 (R5.out _ R3.out) (by rw [HX1.out]; exact R6.out _ R4.out) (by simp; rw [HZ.out]; omega)).mono ?_
  rintro e w4 ⟨rfl, q4, rfl⟩
  go_simp
  refine hK _ _ ?_
  clear hK K
  have s7 := S7.out
  have s8 := S8.out
  refine wpAny_take (i := 17) (v := .bool true) rfl (by kernel_rfl) (by kernel_rfl) (by kernel_rfl) (fun _ _ _ h => h) (Or.inl ⟨by rfl, by (intro w; go_simp)⟩) ?_
  go_simp
  refine wpAny_take (i := 18) (v := .bool true) rfl (by kernel_rfl) (by kernel_rfl) (by kernel_rfl) (fun _ _ _ h => h) (Or.inl ⟨by rfl, by (intro w; go_simp)⟩) ?_
  go_simp
  refine wpAny_take (i := 19) (v := .slice A1 s c1) rfl (by kernel_rfl) (by kernel_rfl) (by kernel_rfl) (fun _ _ _ h => h) (Or.inl ⟨by rfl, by (intro w; go_simp)⟩) ?_
  go_simp
  refine wpAny_take (i := 20) (v := .int .i64 n) rfl (by kernel_rfl) (by kernel_rfl) (by kernel_rfl) (fun _ _ _ h => h) (Or.inl ⟨by rfl, by (intro w; go_simp)⟩) ?_
  go_simp
  refine wpAny_take (i := 21) (v := .slice B7 n7 c7) rfl (by kernel_rfl) (by kernel_rfl) (by kernel_rfl) (fun _ _ _ h => h) (Or.inl ⟨by rfl, by (intro w; go_simp)⟩) ?_
  go_simp
  refine wpAny_take (i := 22) (v := .slice A s c) rfl (by kernel_rfl) (by kernel_rfl) (by kernel_rfl) (fun _ _ _ h => h) (Or.inl ⟨by rfl, by (intro w; go_simp)⟩) ?_
  go_simp
  refine wpAny_take (i := 23) (v := .int .i64 n) rfl (by kernel_rfl) (by kernel_rfl) (by kernel_rfl) (fun _ _ _ h => h) (Or.inl ⟨by rfl, by (intro w; go_simp)⟩) ?_
  go_simp
  refine wpAny_take (i := 24) (v := .slice B8 n8 c8) rfl (by kernel_rfl) (by kernel_rfl) (by kernel_rfl) (fun _ _ _ h => h) (Or.inl ⟨by rfl, by (intro w; go_simp)⟩) ?_
  go_simp
  clear s7 s8
  refine wpAny_ready (rs := [25]) (by kernel_rfl) (by simp) ?_
  refine AllReady.cons rfl (fun K hK => ?_) AllReady.nil
  go_simp
  refine (equal_same _ _ (f.extract n f.size) _ (by exact (R7.out _ R3.out).drewN q4) (by rw [HX2.out]; exact (R8.out _ R4.out).drewN q4) (by simp; rw [HZ.out]; omega)).mono ?_
  rintro e w5 ⟨rfl, q5, rfl⟩
  go_simp
  refine hK _ _ ?_
  clear hK K
  refine wpAny_take (i := 26) (v := .bool true) rfl (by kernel_rfl) (by kernel_rfl) (by kernel_rfl) (fun _ _ _ h => h) (Or.inl ⟨by rfl, by (intro w; go_simp)⟩) ?_
  go_simp
  refine wpAny_take (i := 27) (v := .bool true) rfl (by kernel_rfl) (by kernel_rfl) (by kernel_rfl) (fun _ _ _ h => h) (Or.inl ⟨by rfl, by (intro w; go_simp)⟩) ?_
  go_simp
  refine wpAny_done (by kernel_rfl) ?_ _
  go_wp2_with fail
  go_ret
  exact ⟨rfl, below_drewN B3.out _⟩

set_option maxHeartbeats 2000000 in
theorem law_Down (v : Value) (d : Array Int) (i n : Int) (w : World) (hr : Rd w v d) (hi1 : -9223372036854775808 ≤ i) (hi2 : i ≤ 9223372036854775807) (hn1 : -9223372036854775808 ≤ n) (hn2 : n ≤ 9223372036854775807) :
    Calls Try.prog 9 #[v, .int .i64 i, .int .i64 n] w fun e w' => e = .returned (.bool true) ∧ Below w.heap.size w w' := by
  obtain ⟨A, c, rfl, hdc, hcm, _⟩ := id hr
  have HR := Lib.hid hr
  have hdm : d.size ≤ 9223372036854775807 := by simp only [maxLen] at hcm; omega
  clear hr hdc hcm
  by_cases h1 : 2147483647 < d.size
  · have h1' : (2147483647 : Int) < (d.size : Int) := by omega
    go_enter Try.func9, Try.ntmps9
    go_wp2_with fail
    go_ret
    exact ⟨rfl, Below.refl _ _⟩
  · by_cases h2 : i < 0
    · go_enter Try.func9, Try.ntmps9
      go_wp2_with fail
      go_ret
      exact ⟨rfl, Below.refl _ _⟩
    · by_cases h3 : n ≤ i
      · go_enter Try.func9, Try.ntmps9
        go_wp2_with fail
        go_ret
        exact ⟨rfl, Below.refl _ _⟩
      · by_cases h4 : (d.size : Int) < n
        · go_enter Try.func9, Try.ntmps9
          go_wp2_with fail
          go_ret
          exact ⟨rfl, Below.refl _ _⟩
        · by_cases h5 : 1048576 < d.size
          · have h5' : (1048576 : Int) < (d.size : Int) := by omega
            go_enter Try.func9, Try.ntmps9
            go_wp2_with fail
            go_ret
            exact ⟨rfl, Below.refl _ _⟩
          · obtain ⟨k, rfl⟩ : ∃ k : Nat, i = (k : Int) := ⟨i.toNat, by omega⟩
            obtain ⟨m, rfl⟩ : ∃ m : Nat, n = (m : Int) := ⟨n.toNat, by omega⟩
            cases hh : underB d m m k false with
            | true => exact down_law _ d k m w HR.out (by omega) (by omega) (by omega) hh
            | false =>
              have HH := Lib.hid hh
              clear hh
              go_enter Try.func9, Try.ntmps9
              go_wp2_with fail
              refine (under_any m k m false _ d w (by omega) HR.out (by omega) (by omega) (by omega)).mono ?_
              rintro e w0 ⟨rfl, hb0⟩
              rw [HH.out]
              have B0 := Lib.hid hb0
              clear hb0
              go_wp2_with fail
              go_ret
              exact ⟨rfl, B0.out⟩

end Go.Proofs.Ytkceigigdklaoaa
