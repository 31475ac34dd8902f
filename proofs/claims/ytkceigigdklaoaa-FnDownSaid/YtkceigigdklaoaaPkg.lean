/-
  The walks of Init and Fix over the list behind a pointer. Conditions: the place lies in the list; far shorter than the bounds of the model.
-/
import Derived.Test.YtkceigigdklaoaaEnds
namespace Go.Proofs.Ytkceigigdklaoaa
open Go.RowKit Go.Sort

/-- Init: k rounds are left. -/
def initA (n : Nat) : Nat → Array Int → Array Int
  | 0, d => d
  | k + 1, d => initA n k (downA d k n).1

set_option maxHeartbeats 1000000 in
theorem init_box (base p : Nat) (v : Value) (d : Array Int) (w : World) (h : Boxed w base p v d) (hs : d.size ≤ 1099511627776) :
    Calls Try.prog 43 #[.iface 41 (.pointer (some ⟨p, 0, none⟩))] w fun e w' => e = .returned (.tuple #[]) ∧ Boxed w' base p v (initA d.size (d.size / 2) d) ∧ Below base w w' := by
  obtain ⟨A, cap, rfl⟩ := h.own.shape
  have ml := method_val tm_len ⟨p, 0, none⟩ w _ h.cell
  obtain ⟨n, hn⟩ : ∃ n : Nat, d.size = n := ⟨_, rfl⟩
  rw [hn] at ml
  have hnb : n ≤ 1099511627776 := by omega
  have HB : Hid (Boxed w base p (.slice A d.size cap) d) := Lib.hid h
  have HN : Hid (d.size = n) := Lib.hid hn
  clear h hn hs
  go_enter Try.func43, Try.ntmps43
  go_wp2_with fail
  refine (len_any A n cap w).mono ?_
  rintro e w' ⟨rfl, rfl⟩
  go_wp2_with fail
  go_loopw [3] (fun vi wr => ∃ (k : Nat) (dk : Array Int), vi = .int .i64 ((k : Int) - 1) ∧ k ≤ n / 2 ∧ Hid (dk.size = n) ∧ Hid (Boxed wr base p (.slice A d.size cap) dk) ∧ Hid (Below base w wr) ∧ Hid (initA n k dk = initA n (n / 2) d)) (fun vi _ => (intOf vi + 1).toNat)
  case atStart => exact ⟨n / 2, d, by congr 1, Nat.le_refl _, HN, HB, Lib.hid (Below.refl _ _), rfl⟩
  case round =>
    obtain ⟨k, dk, rfl, hk, HS, HBk, HL, HU⟩ := hrel
    clear ml
    by_cases h0 : 0 < k
    · obtain ⟨m, hm⟩ : ∃ m : Nat, k = m + 1 := ⟨k - 1, by omega⟩
      subst hm
      have em : ((m + 1 : Nat) : Int) - 1 = (m : Int) := by omega
      have hm2 : m < n := by omega
      rw [em]
      go_wp2_with fail
      refine (down_box base p m n (.slice A d.size cap) dk wr HBk.out (by rw [HS.out]; omega) (by rw [HS.out]; omega) (by rw [HS.out]; omega) (by rw [HS.out]; omega)).mono ?_
      rintro e w' ⟨rfl, hb1, hb2⟩
      have H1 := Lib.hid hb1
      have H2 := Lib.hid hb2
      clear hb1 hb2
      go_wp2_with fail
      go_roundw
      case rel => exact ⟨m, (downA dk m n).1, rfl, by omega, Lib.hid ((downA_size' dk m n (by rw [HS.out]; omega)).trans HS.out), H1, Lib.hid (HL.out.trans H2.out), HU⟩
      case measure => simp [intOf]
    · obtain rfl : k = 0 := by omega
      go_wp2_with fail
      go_end0
      refine ⟨rfl, ?_, HL.out⟩
      rw [HN.out, ← HU.out, ← HN.out]; exact HBk.out

/-- Fix: down, and up where it does not move down. -/
def fixA (d : Array Int) (i n : Nat) : Array Int := if i < (downA d i n).2 then (downA d i n).1 else upA (downA d i n).1 i

set_option maxHeartbeats 1000000 in
theorem fix_box (base p i : Nat) (v : Value) (d : Array Int) (w : World) (h : Boxed w base p v d) (hi : i < d.size) (hs : d.size ≤ 1099511627776) :
    Calls Try.prog 48 #[.iface 41 (.pointer (some ⟨p, 0, none⟩)), .int .i64 i] w fun e w' => e = .returned (.tuple #[]) ∧ Boxed w' base p v (fixA d i d.size) ∧ Below base w w' := by
  obtain ⟨A, cap, rfl⟩ := h.own.shape
  have ml := method_val tm_len ⟨p, 0, none⟩ w _ h.cell
  have HB : Hid (Boxed w base p (.slice A d.size cap) d) := Lib.hid h
  clear h
  by_cases hm : i < (downA d i d.size).2
  · have hd : decide (i < (downA d i d.size).2) = true := decide_eq_true hm
    have HM : Hid (i < (downA d i d.size).2) := Lib.hid hm
    have HD : Hid (decide (i < (downA d i d.size).2) = true) := Lib.hid hd
    clear hm hd
    go_enter Try.func48, Try.ntmps48
    go_wp2_with fail
    refine (len_any A d.size cap w).mono ?_
    rintro e w' ⟨rfl, rfl⟩
    go_wp2_with fail
    refine (down_box base p i d.size (.slice A d.size cap) d w HB.out (by omega) (Nat.le_refl _) (by omega) hs).mono ?_
    rintro e w' ⟨rfl, hb1, hb2⟩
    have H1 := Lib.hid hb1
    have H2 := Lib.hid hb2
    clear hb1 hb2
    rw [HD.out]
    go_wp2_with fail
    go_end0
    refine ⟨rfl, ?_, H2.out⟩
    unfold fixA
    rw [if_pos HM.out]; exact H1.out
  · have hd : decide (i < (downA d i d.size).2) = false := decide_eq_false hm
    have HM : Hid (¬ i < (downA d i d.size).2) := hm
    have HD : Hid (decide (i < (downA d i d.size).2) = false) := Lib.hid hd
    clear hm hd
    go_enter Try.func48, Try.ntmps48
    go_wp2_with fail
    refine (len_any A d.size cap w).mono ?_
    rintro e w' ⟨rfl, rfl⟩
    go_wp2_with fail
    refine (down_box base p i d.size (.slice A d.size cap) d w HB.out (by omega) (Nat.le_refl _) (by omega) hs).mono ?_
    rintro e w' ⟨rfl, hb1, hb2⟩
    have H1 := Lib.hid hb1
    have H2 := Lib.hid hb2
    clear hb1 hb2
    rw [HD.out]
    go_wp2_with fail
    refine (up_box base p i (.slice A d.size cap) (downA d i d.size).1 w' H1.out (by rw [downA_size' d i d.size (Nat.le_refl _)]; exact hi) (by rw [downA_size' d i d.size (Nat.le_refl _)]; exact hs)).mono ?_
    rintro e w'' ⟨rfl, hb1, hb2⟩
    have H3 := Lib.hid hb1
    have H4 := Lib.hid hb2
    clear hb1 hb2
    go_wp2_with fail
    go_end0
    refine ⟨rfl, ?_, H2.out.trans H4.out⟩
    unfold fixA
    rw [if_neg HM.out]; exact H3.out

end Go.Proofs.Ytkceigigdklaoaa
