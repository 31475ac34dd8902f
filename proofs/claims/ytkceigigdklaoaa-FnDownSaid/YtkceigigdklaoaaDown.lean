/-
  The walk of down: over a list in memory it computes downA. Conditions: the first n lie in the list, and the place among them (or n is 0).
-/
import Derived.Test.YtkceigigdklaoaaMeths
import Derived.Test.YtkceigigdklaoaaPlain
namespace Go.Proofs.Ytkceigigdklaoaa
open Go.RowKit Go.Sort

theorem kidA_right (d : Array Int) (i n : Nat) (h : 2 * i + 2 < n) (hl : d[2 * i + 2]! < d[2 * i + 1]!) : kidA d i n = 2 * i + 2 := by unfold kidA; rw [if_pos ⟨h, hl⟩]
theorem kidA_left (d : Array Int) (i n : Nat) (h : ¬ (2 * i + 2 < n ∧ d[2 * i + 2]! < d[2 * i + 1]!)) : kidA d i n = 2 * i + 1 := by unfold kidA; rw [if_neg h]

set_option maxHeartbeats 4000000 in
set_option maxRecDepth 100000 in
/-- down: the element at i0 moves down among the first n, and it is told whether it does. -/
theorem down_any (p : Addr) (g cap i0 n : Nat) (d : Array Int) (w : World) (hp : w.cell? p = some (.slice (some ⟨g, 0, none⟩) d.size cap)) (hpg : p.block ≠ g)
    (hH : Holds (Value.int .i64) w g 0 d) (hn : n ≤ d.size) (hi1 : i0 ≤ d.size) (hs : d.size ≤ 1099511627776) :
    Calls Try.prog 44 #[.iface 41 (.pointer (some p)), .int .i64 i0, .int .i64 n] w fun e w' =>
      e = .returned (.bool (decide (i0 < (downA d i0 n).2))) ∧ ∃ q, w' = (putRow (Value.int .i64) w g 0 (downA d i0 n).1).drewN q := by
  go_enter Try.func44, Try.ntmps44
  go_wp2_with fail
  go_loopw [7] (fun vi wr => ∃ (k q : Nat) (dk : Array Int), vi = .int .i64 k ∧ i0 ≤ k ∧ k ≤ d.size ∧ dk.size = d.size ∧ wr = (putRow (Value.int .i64) w g 0 dk).drewN q ∧ Hid (downA dk k n = downA d i0 n)) (fun vi _ => n - (intOf vi).toNat)
  case atStart => exact ⟨i0, 0, d, rfl, Nat.le_refl _, hi1, rfl, by rw [putRow_self _ w g 0 d hH]; rfl, rfl⟩
  case round =>
    obtain ⟨k, q, dk, rfl, hik, hk, hsz, hw, HU⟩ := hrel
    have hcw : ∀ n, (wr.drewN n).cell? p = some (.slice (some ⟨g, 0, none⟩) dk.size cap) := fun n => by
      rw [hw, hsz]; exact (cell?_putRow_other _ w g 0 dk p (.inl hpg)).trans hp
    have hHw : Holds (Value.int .i64) wr g 0 dk := by rw [hw]; exact holds_putRow _ w g 0 d dk hH hsz
    have HW : Hid (wr = (putRow (Value.int .i64) w g 0 dk).drewN q) := Lib.hid hw
    have HS : Hid (dk.size = d.size) := Lib.hid hsz
    have HD : Hid (Holds (Value.int .i64) wr g 0 dk) := Lib.hid hHw
    have HP : Hid (∀ n, (wr.drewN n).cell? p = some (.slice (some ⟨g, 0, none⟩) dk.size cap)) := Lib.hid hcw
    have hk' : k ≤ dk.size := by omega
    have hn' : n ≤ dk.size := by omega
    have hs' : dk.size ≤ 1099511627776 := by omega
    clear hw hsz hHw hcw hp hH
    obtain ⟨j1, hj1⟩ : ∃ j1 : Nat, 2 * k + 1 = j1 := ⟨_, rfl⟩
    have e1 : 2 * (k : Int) + 1 = (j1 : Int) := by omega
    have b1 : 1 ≤ j1 := by omega
    have HJ1 : Hid (2 * k + 1 = j1) := Lib.hid hj1
    by_cases h1 : j1 < n
    · have kn : k < n := by omega
      have g1 : decide ((n : Int) ≤ (j1 : Int)) = false := decide_eq_false (by omega)
      have g0 : decide ((j1 : Int) < 0) = false := decide_eq_false (by omega)
      obtain ⟨j2, hj2⟩ : ∃ j2 : Nat, j1 + 1 = j2 := ⟨_, rfl⟩
      have e2 : (j1 : Int) + 1 = (j2 : Int) := by omega
      have HJ2 : Hid (2 * k + 2 = j2) := Lib.hid (by omega)
      have hkj : k < j1 := by omega
      clear hj1
      by_cases h2 : j2 < n
      · have g2 : (j2 : Int) < (n : Int) := by omega
        have hkj2 : k < j2 := by omega
        clear hj2
        by_cases hl : dk[j2]! < dk[j1]!
        · have HC : Hid (kidA dk k n = j2) := Lib.hid (by rw [kidA_right dk k n (by rw [HJ2.out]; exact h2) (by rw [HJ1.out, HJ2.out]; exact hl), HJ2.out])
          have HL : Hid (dk[j2]! < dk[j1]!) := Lib.hid hl
          clear hl
          have ml : (method 193 41 (.pointer (some p)) "Less").run Try.prog wr = .ok (84, .slice (some ⟨g, 0, none⟩) dk.size cap) wr := method_val tm_less p wr _ (HP.out 0)
          go_wp2_with fail
          refine (less_yes g cap j2 j1 dk wr HD.out (by omega) (by omega) HL.out).mono ?_
          rintro e w' ⟨rfl, n1, rfl⟩
          clear ml
          by_cases hm : dk[j2]! < dk[k]!
          · have HM : Hid (dk[j2]! < dk[k]!) := Lib.hid hm
            clear hm
            have ml : (method 193 41 (.pointer (some p)) "Less").run Try.prog (wr.drewN n1) = .ok (84, .slice (some ⟨g, 0, none⟩) dk.size cap) (wr.drewN n1) := method_val tm_less p _ _ (HP.out n1)
            go_wp2_with fail
            refine (less_yes g cap j2 k dk (wr.drewN n1) HD.out (by omega) (by omega) HM.out).mono ?_
            rintro e w' ⟨rfl, n2, rfl⟩
            clear ml
            have ms : (method 193 41 (.pointer (some p)) "Swap").run Try.prog (wr.drewN (n1 + n2)) = .ok (87, .slice (some ⟨g, 0, none⟩) dk.size cap) (wr.drewN (n1 + n2)) := method_val tm_swap p _ _ (HP.out _)
            go_wp2_with fail
            refine (swap_any g cap k j2 dk (wr.drewN (n1 + n2)) HD.out (by omega) (by omega) (by omega)).mono ?_
            rintro e w' ⟨rfl, n3, rfl⟩
            clear ms
            go_wp2_with fail
            go_roundw
            case rel =>
              refine ⟨j2, q + (n1 + n2) + n3, swp dk k j2, rfl, by omega, by omega, by rw [size_swp]; exact HS.out, ?_, ?_⟩
              · rw [HW.out, World.drewN_drewN]; exact put_put w g _ n3 dk _ (size_swp dk k j2)
              · exact Lib.hid (by rw [← HU.out, downA_go dk k n (by rw [HJ1.out]; exact h1) (by rw [HC.out]; exact HM.out), HC.out])
            case measure => simp [intOf]; omega
          · have HM : Hid (dk[k]! ≤ dk[j2]!) := Lib.hid (by omega)
            clear hm
            have ml : (method 193 41 (.pointer (some p)) "Less").run Try.prog (wr.drewN n1) = .ok (84, .slice (some ⟨g, 0, none⟩) dk.size cap) (wr.drewN n1) := method_val tm_less p _ _ (HP.out n1)
            go_wp2_with fail
            refine (less_no g cap j2 k dk (wr.drewN n1) HD.out (by omega) (by omega) HM.out).mono ?_
            rintro e w' ⟨rfl, n2, rfl⟩
            clear ml
            go_wp2_with fail
            go_ret
            have HZ : ¬ (2 * k + 1 < n ∧ dk[kidA dk k n]! < dk[k]!) := by rw [HC.out]; exact fun hh => absurd hh.2 (Int.not_lt.2 HM.out)
            refine ⟨?_, q + (n1 + n2), ?_⟩
            · rw [← HU.out, downA_stop dk k n HZ]; congr 2
            · rw [← HU.out, downA_stop dk k n HZ, HW.out, World.drewN_drewN]
        · have HC : Hid (kidA dk k n = j1) := Lib.hid (by rw [kidA_left dk k n (by rw [HJ1.out, HJ2.out]; exact fun hh => hl hh.2), HJ1.out])
          have HL : Hid (dk[j1]! ≤ dk[j2]!) := Lib.hid (by omega)
          clear hl
          have ml : (method 193 41 (.pointer (some p)) "Less").run Try.prog wr = .ok (84, .slice (some ⟨g, 0, none⟩) dk.size cap) wr := method_val tm_less p wr _ (HP.out 0)
          go_wp2_with fail
          refine (less_no g cap j2 j1 dk wr HD.out (by omega) (by omega) HL.out).mono ?_
          rintro e w' ⟨rfl, n1, rfl⟩
          clear ml
          by_cases hm : dk[j1]! < dk[k]!
          · have HM : Hid (dk[j1]! < dk[k]!) := Lib.hid hm
            clear hm
            have ml : (method 193 41 (.pointer (some p)) "Less").run Try.prog (wr.drewN n1) = .ok (84, .slice (some ⟨g, 0, none⟩) dk.size cap) (wr.drewN n1) := method_val tm_less p _ _ (HP.out n1)
            go_wp2_with fail
            refine (less_yes g cap j1 k dk (wr.drewN n1) HD.out (by omega) (by omega) HM.out).mono ?_
            rintro e w' ⟨rfl, n2, rfl⟩
            clear ml
            have ms : (method 193 41 (.pointer (some p)) "Swap").run Try.prog (wr.drewN (n1 + n2)) = .ok (87, .slice (some ⟨g, 0, none⟩) dk.size cap) (wr.drewN (n1 + n2)) := method_val tm_swap p _ _ (HP.out _)
            go_wp2_with fail
            refine (swap_any g cap k j1 dk (wr.drewN (n1 + n2)) HD.out (by omega) (by omega) (by omega)).mono ?_
            rintro e w' ⟨rfl, n3, rfl⟩
            clear ms
            go_wp2_with fail
            go_roundw
            case rel =>
              refine ⟨j1, q + (n1 + n2) + n3, swp dk k j1, rfl, by omega, by omega, by rw [size_swp]; exact HS.out, ?_, ?_⟩
              · rw [HW.out, World.drewN_drewN]; exact put_put w g _ n3 dk _ (size_swp dk k j1)
              · exact Lib.hid (by rw [← HU.out, downA_go dk k n (by rw [HJ1.out]; exact h1) (by rw [HC.out]; exact HM.out), HC.out])
            case measure => simp [intOf]; omega
          · have HM : Hid (dk[k]! ≤ dk[j1]!) := Lib.hid (by omega)
            clear hm
            have ml : (method 193 41 (.pointer (some p)) "Less").run Try.prog (wr.drewN n1) = .ok (84, .slice (some ⟨g, 0, none⟩) dk.size cap) (wr.drewN n1) := method_val tm_less p _ _ (HP.out n1)
            go_wp2_with fail
            refine (less_no g cap j1 k dk (wr.drewN n1) HD.out (by omega) (by omega) HM.out).mono ?_
            rintro e w' ⟨rfl, n2, rfl⟩
            clear ml
            go_wp2_with fail
            go_ret
            have HZ : ¬ (2 * k + 1 < n ∧ dk[kidA dk k n]! < dk[k]!) := by rw [HC.out]; exact fun hh => absurd hh.2 (Int.not_lt.2 HM.out)
            refine ⟨?_, q + (n1 + n2), ?_⟩
            · rw [← HU.out, downA_stop dk k n HZ]; congr 2
            · rw [← HU.out, downA_stop dk k n HZ, HW.out, World.drewN_drewN]
      · have g2 : decide ((j2 : Int) < (n : Int)) = false := decide_eq_false (by omega)
        have HC : Hid (kidA dk k n = j1) := Lib.hid (by rw [kidA_left dk k n (by rw [HJ1.out, HJ2.out]; exact fun hh => h2 hh.1), HJ1.out])
        clear hj2
        by_cases hm : dk[j1]! < dk[k]!
        · have HM : Hid (dk[j1]! < dk[k]!) := Lib.hid hm
          clear hm
          have ml : (method 193 41 (.pointer (some p)) "Less").run Try.prog wr = .ok (84, .slice (some ⟨g, 0, none⟩) dk.size cap) wr := method_val tm_less p _ _ (HP.out 0)
          go_wp2_with fail
          refine (less_yes g cap j1 k dk wr HD.out (by omega) (by omega) HM.out).mono ?_
          rintro e w' ⟨rfl, n2, rfl⟩
          clear ml
          have ms : (method 193 41 (.pointer (some p)) "Swap").run Try.prog (wr.drewN n2) = .ok (87, .slice (some ⟨g, 0, none⟩) dk.size cap) (wr.drewN n2) := method_val tm_swap p _ _ (HP.out _)
          go_wp2_with fail
          refine (swap_any g cap k j1 dk (wr.drewN n2) HD.out (by omega) (by omega) (by omega)).mono ?_
          rintro e w' ⟨rfl, n3, rfl⟩
          clear ms
          go_wp2_with fail
          go_roundw
          case rel =>
            refine ⟨j1, q + n2 + n3, swp dk k j1, rfl, by omega, by omega, by rw [size_swp]; exact HS.out, ?_, ?_⟩
            · rw [HW.out, World.drewN_drewN]; exact put_put w g _ n3 dk _ (size_swp dk k j1)
            · exact Lib.hid (by rw [← HU.out, downA_go dk k n (by rw [HJ1.out]; exact h1) (by rw [HC.out]; exact HM.out), HC.out])
          case measure => simp [intOf]; omega
        · have HM : Hid (dk[k]! ≤ dk[j1]!) := Lib.hid (by omega)
          clear hm
          have ml : (method 193 41 (.pointer (some p)) "Less").run Try.prog wr = .ok (84, .slice (some ⟨g, 0, none⟩) dk.size cap) wr := method_val tm_less p _ _ (HP.out 0)
          go_wp2_with fail
          refine (less_no g cap j1 k dk wr HD.out (by omega) (by omega) HM.out).mono ?_
          rintro e w' ⟨rfl, n2, rfl⟩
          clear ml
          go_wp2_with fail
          go_ret
          have HZ : ¬ (2 * k + 1 < n ∧ dk[kidA dk k n]! < dk[k]!) := by rw [HC.out]; exact fun hh => absurd hh.2 (Int.not_lt.2 HM.out)
          refine ⟨?_, q + n2, ?_⟩
          · rw [← HU.out, downA_stop dk k n HZ]; congr 2
          · rw [← HU.out, downA_stop dk k n HZ, HW.out, World.drewN_drewN]
    · have g1 : decide ((n : Int) ≤ (j1 : Int)) = true := decide_eq_true (by omega)
      clear hj1
      go_wp2_with fail
      go_ret
      refine ⟨?_, q, ?_⟩
      · rw [← HU.out, downA_stop dk k n (by rw [HJ1.out]; exact fun hh => h1 hh.1)]; congr 2
      · rw [← HU.out, downA_stop dk k n (by rw [HJ1.out]; exact fun hh => h1 hh.1)]; exact HW.out

end Go.Proofs.Ytkceigigdklaoaa
