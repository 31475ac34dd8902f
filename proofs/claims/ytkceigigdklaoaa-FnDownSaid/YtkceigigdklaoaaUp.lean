/-
  The walk of up: over a list in memory it computes upA. Conditions: the place lies in the list.
-/
import Derived.Test.YtkceigigdklaoaaMeths
import Derived.Test.YtkceigigdklaoaaPlain
namespace Go.Proofs.Ytkceigigdklaoaa
open Go.RowKit Go.Sort

set_option maxHeartbeats 800000 in
theorem up_any (p : Addr) (g cap j : Nat) (d : Array Int) (w : World) (hp : w.cell? p = some (.slice (some ⟨g, 0, none⟩) d.size cap)) (hpg : p.block ≠ g)
    (hH : Holds (Value.int .i64) w g 0 d) (hj : j < d.size) (hs : d.size ≤ 1099511627776) :
    Calls Try.prog 42 #[.iface 41 (.pointer (some p)), .int .i64 j] w fun e w' => e = .returned (.tuple #[]) ∧ ∃ n, w' = (putRow (Value.int .i64) w g 0 (upA d j)).drewN n := by
  go_enter Try.func42, Try.ntmps42
  go_wp2_with fail
  go_loopw [1] (fun vj wr => ∃ (k q : Nat) (dk : Array Int), vj = .int .i64 k ∧ k < d.size ∧ dk.size = d.size ∧ wr = (putRow (Value.int .i64) w g 0 dk).drewN q ∧ Hid (upA dk k = upA d j)) (fun vj _ => (intOf vj).toNat)
  case atStart => exact ⟨j, 0, d, rfl, hj, rfl, by rw [putRow_self _ w g 0 d hH]; rfl, rfl⟩
  case round =>
    obtain ⟨k, q, dk, rfl, hk, hsz, hw, HU⟩ := hrel
    have hcw : ∀ n, (wr.drewN n).cell? p = some (.slice (some ⟨g, 0, none⟩) dk.size cap) := fun n => by
      rw [hw, hsz]; exact (cell?_putRow_other _ w g 0 dk p (.inl hpg)).trans hp
    have hHw : Holds (Value.int .i64) wr g 0 dk := by rw [hw]; exact holds_putRow _ w g 0 d dk hH hsz
    have HW : Hid (wr = (putRow (Value.int .i64) w g 0 dk).drewN q) := Lib.hid hw
    have HS : Hid (dk.size = d.size) := Lib.hid hsz
    have HD : Hid (Holds (Value.int .i64) wr g 0 dk) := Lib.hid hHw
    have HP : Hid (∀ n, (wr.drewN n).cell? p = some (.slice (some ⟨g, 0, none⟩) dk.size cap)) := Lib.hid hcw
    have hk' : k < dk.size := by omega
    have hs' : dk.size ≤ 1099511627776 := by omega
    have hcw0 : wr.cell? p = some (.slice (some ⟨g, 0, none⟩) dk.size cap) := hcw 0
    have ml : (method 193 41 (.pointer (some p)) "Less").run Try.prog wr = .ok (84, .slice (some ⟨g, 0, none⟩) dk.size cap) wr := method_val tm_less p wr _ hcw0
    clear hw hsz hHw hcw hcw0 hp hH
    by_cases h0 : 0 < k
    · obtain ⟨i, hi⟩ : ∃ i : Nat, i = (k - 1) / 2 := ⟨_, rfl⟩
      have ei : ((k : Int) - 1) / 2 = (i : Int) := by omega
      have hik : i < k := by omega
      have hne : ((i : Int) == (k : Int)) = false := by rw [beq_eq_false_iff_ne]; omega
      have hi' : i < dk.size := by omega
      have HI : Hid (i = (k - 1) / 2) := Lib.hid hi
      clear hi
      by_cases hl : dk[k]! < dk[i]!
      · have HL : Hid (dk[k]! < dk[i]!) := Lib.hid hl
        clear hl
        go_wp2_with fail
        refine (less_yes g cap k i dk wr HD.out hk' hi' HL.out).mono ?_
        rintro e w' ⟨rfl, n, rfl⟩
        have ms : (method 193 41 (.pointer (some p)) "Swap").run Try.prog (wr.drewN n) = .ok (87, .slice (some ⟨g, 0, none⟩) dk.size cap) (wr.drewN n) := method_val tm_swap p _ _ (HP.out n)
        go_wp2_with fail
        refine (swap_any g cap i k dk (wr.drewN n) HD.out hi' hk' (by omega)).mono ?_
        rintro e w' ⟨rfl, n2, rfl⟩
        go_wp2_with fail
        go_roundw
        case rel =>
          refine ⟨i, q + n + n2, swp dk i k, rfl, by omega, by rw [size_swp]; exact HS.out, ?_, ?_⟩
          · rw [HW.out, World.drewN_drewN]; exact put_put w g (q + n) n2 dk _ (size_swp dk i k)
          · exact Lib.hid (by rw [← HU.out, upA_go dk k h0 (by rw [← HI.out]; exact HL.out), ← HI.out])
        case measure => simp [intOf]; omega
      · have HL : Hid (dk[i]! ≤ dk[k]!) := Lib.hid (by omega)
        clear hl
        go_wp2_with fail
        refine (less_no g cap k i dk wr HD.out hk' hi' HL.out).mono ?_
        rintro e w' ⟨rfl, n, rfl⟩
        go_wp2_with fail
        go_end0
        exact ⟨rfl, q + n, by rw [← HU.out, upA_stop dk k (by rw [← HI.out]; exact fun hh => absurd hh.2 (Int.not_lt.2 HL.out)), HW.out, World.drewN_drewN]⟩
    · obtain rfl : k = 0 := by omega
      go_wp2_with fail
      go_end0
      exact ⟨rfl, q, by rw [← HU.out, upA_stop dk 0 (by omega), HW.out]⟩
end Go.Proofs.Ytkceigigdklaoaa
