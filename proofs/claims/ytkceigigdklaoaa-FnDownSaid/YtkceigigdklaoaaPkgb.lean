/-
  The walks of Pop, Push and Remove over the list behind a pointer. Conditions: the list is not empty, the place lies in it (Pop, Remove); far shorter than the bounds of the model.
-/
import Derived.Test.YtkceigigdklaoaaPkg
namespace Go.Proofs.Ytkceigigdklaoaa
open Go.RowKit Go.Sort

/-- Pop, ahead of the cut. -/
def popA (d : Array Int) : Array Int := (downA (swp d 0 (d.size - 1)) 0 (d.size - 1)).1
/-- Remove, ahead of the cut. -/
def removeA (d : Array Int) (i : Nat) : Array Int := if d.size - 1 = i then d else fixA (swp d i (d.size - 1)) i (d.size - 1)
def pushA (d : Array Int) (x : Int) : Array Int := upA (d.push x) d.size

theorem fixA_size (d : Array Int) (i n : Nat) (hi : i < d.size) (hn : n ≤ d.size) : (fixA d i n).size = d.size := by
  unfold fixA
  split
  · exact downA_size' d i n hn
  · rw [upA_size _ i (by rw [downA_size' d i n hn]; exact hi)]; exact downA_size' d i n hn
theorem popA_size (d : Array Int) : (popA d).size = d.size := by
  unfold popA
  rw [downA_size' _ _ _ (by rw [size_swp]; omega), size_swp]
theorem removeA_size (d : Array Int) (i : Nat) (hi : i < d.size) : (removeA d i).size = d.size := by
  unfold removeA
  split
  · rfl
  · rw [fixA_size _ _ _ (by rw [size_swp]; exact hi) (by rw [size_swp]; omega), size_swp]

set_option maxHeartbeats 1000000 in
theorem pop_box (base p : Nat) (v : Value) (d : Array Int) (w : World) (h : Boxed w base p v d) (h0 : 0 < d.size) (hs : d.size ≤ 1099511627776) :
    Calls Try.prog 45 #[.iface 41 (.pointer (some ⟨p, 0, none⟩))] w fun e w' => e = .returned (.iface 3 (.int .i64 (popA d)[d.size - 1]!)) ∧ ∃ v', Boxed w' base p v' (popA d).pop ∧ Below base w w' := by
  obtain ⟨g, cap, rfl, _, _, hc, _, hz⟩ := h.open_ h0
  clear hz
  have ml := method_val tm_len ⟨p, 0, none⟩ w _ hc
  have ms := method_val tm_swap ⟨p, 0, none⟩ w _ hc
  have mp := method_ptr tm_pop ⟨p, 0, none⟩
  have HB : Hid (Boxed w base p (.slice (some ⟨g, 0, none⟩) d.size cap) d) := Lib.hid h
  obtain ⟨m, hm⟩ : ∃ m : Nat, m = d.size - 1 := ⟨_, rfl⟩
  have em : (d.size : Int) - 1 = (m : Int) := by omega
  have HM : Hid (m = d.size - 1) := Lib.hid hm
  have hm1 : m < d.size := by omega
  clear h hm hc
  go_enter Try.func45, Try.ntmps45
  go_wp2_with fail
  refine (len_any (some ⟨g, 0, none⟩) d.size cap w).mono ?_
  rintro e w' ⟨rfl, rfl⟩
  go_wp2_with fail
  refine (swap_box base p 0 m g cap d w HB.out h0 hm1).mono ?_
  rintro e w1 ⟨rfl, hb1, hb2⟩
  have H1 := Lib.hid hb1
  have H2 := Lib.hid hb2
  clear hb1 hb2
  go_wp2_with fail
  refine (down_box base p 0 m (.slice (some ⟨g, 0, none⟩) d.size cap) (swp d 0 m) w1 H1.out (by rw [size_swp]; exact h0) (by rw [size_swp]; omega) (by omega) (by rw [size_swp]; exact hs)).mono ?_
  rintro e w2 ⟨rfl, hb1, hb2⟩
  have e3 : (downA (swp d 0 m) 0 m).1 = popA d := by rw [HM.out]; rfl
  rw [e3] at hb1
  have H3 := Lib.hid hb1
  have H4 := Lib.hid hb2
  clear hb1 hb2 e3
  go_wp2_with fail
  have hp : (popA d).size = d.size := popA_size d
  have H5 : Boxed w2 base p (.slice (some ⟨g, 0, none⟩) (popA d).size cap) (popA d) := by rw [hp]; exact H3.out
  refine (mpop_any base p g cap (popA d) w2 H5 (by omega) (by omega)).mono ?_
  rintro e w3 ⟨rfl, hb1, hb2⟩
  rw [hp]
  have H6 := Lib.hid hb1
  have H7 := Lib.hid hb2
  clear hb1 hb2 H5 hp
  go_wp2_with fail
  go_ret
  exact ⟨rfl, _, H6.out, (H2.out.trans H4.out).trans H7.out⟩

set_option maxHeartbeats 1000000 in
theorem push_box (base p : Nat) (v : Value) (d : Array Int) (x : Int) (w : World) (h : Boxed w base p v d) (hs : d.size + 1 ≤ 1099511627776) :
    Calls Try.prog 47 #[.iface 41 (.pointer (some ⟨p, 0, none⟩)), .iface 3 (.int .i64 x)] w fun e w' => e = .returned (.tuple #[]) ∧ ∃ v', Boxed w' base p v' (pushA d x) ∧ Below base w w' := by
  obtain ⟨A, cap, rfl⟩ := h.own.shape
  have mp := method_ptr tm_push ⟨p, 0, none⟩
  have HB : Hid (Boxed w base p (.slice A d.size cap) d) := Lib.hid h
  clear h
  go_enter Try.func47, Try.ntmps47
  go_wp2_with fail
  refine (mpush_any base p A d.size cap d x w HB.out hs).mono ?_
  rintro e w1 ⟨rfl, v', hb1, hb2⟩
  obtain ⟨A', cap', rfl⟩ := hb1.own.shape
  have ml := method_val tm_len ⟨p, 0, none⟩ w1 _ hb1.cell
  have H1 := Lib.hid hb1
  have H2 := Lib.hid hb2
  have hz : (d.push x).size = d.size + 1 := by simp
  rw [hz] at ml
  have HZ := Lib.hid hz
  clear hb1 hb2 hz
  go_wp2_with fail
  refine (len_any A' (d.size + 1) cap' w1).mono ?_
  rintro e w' ⟨rfl, rfl⟩
  have em : ((d.size + 1 : Nat) : Int) - 1 = (d.size : Int) := by omega
  go_wp2_with fail
  refine (up_box base p d.size _ (d.push x) w1 H1.out (by rw [HZ.out]; omega) (by rw [HZ.out]; exact hs)).mono ?_
  rintro e w2 ⟨rfl, hb1, hb2⟩
  have H3 := Lib.hid hb1
  have H4 := Lib.hid hb2
  clear hb1 hb2
  go_wp2_with fail
  go_end0
  exact ⟨rfl, _, H3.out, H2.out.trans H4.out⟩

set_option maxHeartbeats 1000000 in
theorem remove_last (base p i : Nat) (v : Value) (d : Array Int) (w : World) (h : Boxed w base p v d) (hi : i < d.size) (hs : d.size ≤ 1099511627776) (hl : d.size - 1 = i) :
    Calls Try.prog 46 #[.iface 41 (.pointer (some ⟨p, 0, none⟩)), .int .i64 i] w fun e w' => e = .returned (.iface 3 (.int .i64 (removeA d i)[d.size - 1]!)) ∧ ∃ v', Boxed w' base p v' (removeA d i).pop ∧ Below base w w' := by
  obtain ⟨g, cap, rfl, _, _, hc, _, hz⟩ := h.open_ (by omega)
  clear hz
  have ml := method_val tm_len ⟨p, 0, none⟩ w _ hc
  have ms := method_val tm_swap ⟨p, 0, none⟩ w _ hc
  have mp := method_ptr tm_pop ⟨p, 0, none⟩
  have HB : Hid (Boxed w base p (.slice (some ⟨g, 0, none⟩) d.size cap) d) := Lib.hid h
  obtain ⟨m, hm⟩ : ∃ m : Nat, m = d.size - 1 := ⟨_, rfl⟩
  have em : (d.size : Int) - 1 = (m : Int) := by omega
  have HM : Hid (m = d.size - 1) := Lib.hid hm
  have hm1 : m < d.size := by omega
  have heq : ((m : Int) != (i : Int)) = false := by simp; omega
  have hre : removeA d i = d := by unfold removeA; rw [if_pos hl]
  rw [hre]
  have hmi : Hid (m = i) := Lib.hid (by omega)
  clear h hm hc hl hre ms
  go_enter Try.func46, Try.ntmps46
  go_wp2_with fail
  refine (len_any (some ⟨g, 0, none⟩) d.size cap w).mono ?_
  rintro e w' ⟨rfl, rfl⟩
  go_wp2_with fail
  refine (mpop_any base p g cap d w HB.out (by omega) hs).mono ?_
  rintro e w3 ⟨rfl, hb1, hb2⟩
  have H6 := Lib.hid hb1
  have H7 := Lib.hid hb2
  clear hb1 hb2
  go_wp2_with fail
  go_ret
  exact ⟨rfl, _, H6.out, H7.out⟩

set_option maxHeartbeats 1000000 in
theorem remove_down (base p i : Nat) (v : Value) (d : Array Int) (w : World) (h : Boxed w base p v d) (hi : i < d.size) (hs : d.size ≤ 1099511627776) (hl : d.size - 1 ≠ i) (hv : i < (downA (swp d i (d.size - 1)) i (d.size - 1)).2) :
    Calls Try.prog 46 #[.iface 41 (.pointer (some ⟨p, 0, none⟩)), .int .i64 i] w fun e w' => e = .returned (.iface 3 (.int .i64 (removeA d i)[d.size - 1]!)) ∧ ∃ v', Boxed w' base p v' (removeA d i).pop ∧ Below base w w' := by
  obtain ⟨g, cap, rfl, _, _, hc, _, hz⟩ := h.open_ (by omega)
  clear hz
  have ml := method_val tm_len ⟨p, 0, none⟩ w _ hc
  have ms := method_val tm_swap ⟨p, 0, none⟩ w _ hc
  have mp := method_ptr tm_pop ⟨p, 0, none⟩
  have HB : Hid (Boxed w base p (.slice (some ⟨g, 0, none⟩) d.size cap) d) := Lib.hid h
  obtain ⟨m, hm⟩ : ∃ m : Nat, m = d.size - 1 := ⟨_, rfl⟩
  have em : (d.size : Int) - 1 = (m : Int) := by omega
  have HM : Hid (m = d.size - 1) := Lib.hid hm
  have hm1 : m < d.size := by omega
  have hneq : ((m : Int) == (i : Int)) = false := by rw [beq_eq_false_iff_ne]; omega
  have hneq2 : ((m : Int) != (i : Int)) = true := by rw [bne_iff_ne]; omega
  have him : i ≤ m := by omega
  clear h hm hc
  have HV : Hid (i < (downA (swp d i m) i m).2) := Lib.hid (by rw [HM.out]; exact hv)
  have HD : Hid (decide (i < (downA (swp d i m) i m).2) = true) := Lib.hid (decide_eq_true HV.out)
  clear hv
  go_enter Try.func46, Try.ntmps46
  go_wp2_with fail
  refine (len_any (some ⟨g, 0, none⟩) d.size cap w).mono ?_
  rintro e w' ⟨rfl, rfl⟩
  go_wp2_with fail
  refine (swap_box base p i m g cap d w HB.out hi hm1).mono ?_
  rintro e w1 ⟨rfl, hb1, hb2⟩
  have H1 := Lib.hid hb1
  have H2 := Lib.hid hb2
  clear hb1 hb2
  go_wp2_with fail
  refine (down_box base p i m (.slice (some ⟨g, 0, none⟩) d.size cap) (swp d i m) w1 H1.out (by rw [size_swp]; omega) (by rw [size_swp]; omega) (by rw [size_swp]; omega) (by rw [size_swp]; exact hs)).mono ?_
  rintro e w2 ⟨rfl, hb1, hb2⟩
  have e3 : (downA (swp d i m) i m).1 = removeA d i := by unfold removeA fixA; rw [if_neg (by omega), ← HM.out, if_pos HV.out]
  rw [e3] at hb1
  have H3 := Lib.hid hb1
  have H4 := Lib.hid hb2
  clear hb1 hb2 e3
  rw [HD.out]
  go_wp2_with fail
  have hp : (removeA d i).size = d.size := removeA_size d i hi
  have H5 : Boxed w2 base p (.slice (some ⟨g, 0, none⟩) (removeA d i).size cap) (removeA d i) := by rw [hp]; exact H3.out
  refine (mpop_any base p g cap (removeA d i) w2 H5 (by omega) (by omega)).mono ?_
  rintro e w3 ⟨rfl, hb1, hb2⟩
  rw [hp]
  have H6 := Lib.hid hb1
  have H7 := Lib.hid hb2
  clear hb1 hb2 H5 hp
  go_wp2_with fail
  go_ret
  exact ⟨rfl, _, H6.out, (H2.out.trans H4.out).trans H7.out⟩

set_option maxHeartbeats 1000000 in
theorem remove_up (base p i : Nat) (v : Value) (d : Array Int) (w : World) (h : Boxed w base p v d) (hi : i < d.size) (hs : d.size ≤ 1099511627776) (hl : d.size - 1 ≠ i) (hv : ¬ i < (downA (swp d i (d.size - 1)) i (d.size - 1)).2) :
    Calls Try.prog 46 #[.iface 41 (.pointer (some ⟨p, 0, none⟩)), .int .i64 i] w fun e w' => e = .returned (.iface 3 (.int .i64 (removeA d i)[d.size - 1]!)) ∧ ∃ v', Boxed w' base p v' (removeA d i).pop ∧ Below base w w' := by
  obtain ⟨g, cap, rfl, _, _, hc, _, hz⟩ := h.open_ (by omega)
  clear hz
  have ml := method_val tm_len ⟨p, 0, none⟩ w _ hc
  have ms := method_val tm_swap ⟨p, 0, none⟩ w _ hc
  have mp := method_ptr tm_pop ⟨p, 0, none⟩
  have HB : Hid (Boxed w base p (.slice (some ⟨g, 0, none⟩) d.size cap) d) := Lib.hid h
  obtain ⟨m, hm⟩ : ∃ m : Nat, m = d.size - 1 := ⟨_, rfl⟩
  have em : (d.size : Int) - 1 = (m : Int) := by omega
  have HM : Hid (m = d.size - 1) := Lib.hid hm
  have hm1 : m < d.size := by omega
  have hneq : ((m : Int) == (i : Int)) = false := by rw [beq_eq_false_iff_ne]; omega
  have hneq2 : ((m : Int) != (i : Int)) = true := by rw [bne_iff_ne]; omega
  have him : i ≤ m := by omega
  clear h hm hc
  have HV : Hid (¬ i < (downA (swp d i m) i m).2) := (by rw [HM.out]; exact hv : ¬ i < (downA (swp d i m) i m).2)
  have HD : Hid (decide (i < (downA (swp d i m) i m).2) = false) := Lib.hid (decide_eq_false HV.out)
  clear hv
  go_enter Try.func46, Try.ntmps46
  go_wp2_with fail
  refine (len_any (some ⟨g, 0, none⟩) d.size cap w).mono ?_
  rintro e w' ⟨rfl, rfl⟩
  go_wp2_with fail
  refine (swap_box base p i m g cap d w HB.out hi hm1).mono ?_
  rintro e w1 ⟨rfl, hb1, hb2⟩
  have H1 := Lib.hid hb1
  have H2 := Lib.hid hb2
  clear hb1 hb2
  go_wp2_with fail
  refine (down_box base p i m (.slice (some ⟨g, 0, none⟩) d.size cap) (swp d i m) w1 H1.out (by rw [size_swp]; omega) (by rw [size_swp]; omega) (by rw [size_swp]; omega) (by rw [size_swp]; exact hs)).mono ?_
  rintro e w2 ⟨rfl, hb1, hb2⟩
  have H3 := Lib.hid hb1
  have H4 := Lib.hid hb2
  clear hb1 hb2
  rw [HD.out]
  go_wp2_with fail
  have hz2 : (downA (swp d i m) i m).1.size = d.size := by rw [downA_size' _ _ _ (by rw [size_swp]; omega), size_swp]
  refine (up_box base p i (.slice (some ⟨g, 0, none⟩) d.size cap) (downA (swp d i m) i m).1 w2 H3.out (by rw [hz2]; exact hi) (by rw [hz2]; exact hs)).mono ?_
  rintro e w5 ⟨rfl, hb1, hb2⟩
  have e3 : upA (downA (swp d i m) i m).1 i = removeA d i := by unfold removeA fixA; rw [if_neg (by omega), ← HM.out, if_neg HV.out]
  rw [e3] at hb1
  have H8 := Lib.hid hb1
  have H9 := Lib.hid hb2
  clear hb1 hb2 e3 hz2
  go_wp2_with fail
  have hp : (removeA d i).size = d.size := removeA_size d i hi
  have H5 : Boxed w5 base p (.slice (some ⟨g, 0, none⟩) (removeA d i).size cap) (removeA d i) := by rw [hp]; exact H8.out
  refine (mpop_any base p g cap (removeA d i) w5 H5 (by omega) (by omega)).mono ?_
  rintro e w3 ⟨rfl, hb1, hb2⟩
  rw [hp]
  have H6 := Lib.hid hb1
  have H7 := Lib.hid hb2
  clear hb1 hb2 H5 hp
  go_wp2_with fail
  go_ret
  exact ⟨rfl, _, H6.out, ((H2.out.trans H4.out).trans H9.out).trans H7.out⟩

theorem remove_box (base p i : Nat) (v : Value) (d : Array Int) (w : World) (h : Boxed w base p v d) (hi : i < d.size) (hs : d.size ≤ 1099511627776) :
    Calls Try.prog 46 #[.iface 41 (.pointer (some ⟨p, 0, none⟩)), .int .i64 i] w fun e w' => e = .returned (.iface 3 (.int .i64 (removeA d i)[d.size - 1]!)) ∧ ∃ v', Boxed w' base p v' (removeA d i).pop ∧ Below base w w' := by
  by_cases hl : d.size - 1 = i
  · exact remove_last base p i v d w h hi hs hl
  · by_cases hv : i < (downA (swp d i (d.size - 1)) i (d.size - 1)).2
    · exact remove_down base p i v d w h hi hs hl hv
    · exact remove_up base p i v d w h hi hs hl hv

end Go.Proofs.Ytkceigigdklaoaa
