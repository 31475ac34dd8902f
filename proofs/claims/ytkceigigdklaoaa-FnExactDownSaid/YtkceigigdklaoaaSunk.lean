/-
  The walk of spec.Sunk. Conditions: the place is among the first n, which lie in the list; far shorter than the bounds of the model.
-/
import Derived.Test.YtkceigigdklaoaaSpec
namespace Go.Proofs.Ytkceigigdklaoaa
open Go.RowKit Go.Sort

/-- The two stores of an exchange, behind n draws. -/
theorem swap_worldN (w : World) (g : Nat) (dk : Array Int) (n i j : Nat) (hi : i < dk.size) (hj : j < dk.size) :
    (((putRow (Value.int .i64) w g 0 dk).drewN n).setCell ⟨g, i, none⟩ (.int .i64 dk[j]!)).setCell ⟨g, j, none⟩ (.int .i64 dk[i]!) = (putRow (Value.int .i64) w g 0 (swp dk i j)).drewN n := by
  have e := putRow_swp (Value.int .i64) w g 0 dk i j hi hj
  rw [Nat.zero_add, Nat.zero_add] at e
  rw [← e]
  rfl

set_option maxHeartbeats 8000000 in
set_option maxRecDepth 100000 in
theorem sunk_any (v : Value) (d : Array Int) (i0 n : Nat) (w : World) (hr : Rd w v d) (hi0 : i0 < n) (hn : n ≤ d.size) (hs : d.size ≤ 1099511627776) :
    Calls Try.prog 22 #[v, .int .i64 i0, .int .i64 n] w (Hands w.heap.size w (downA d i0 n).1) := by
  have HR := Lib.hid hr
  clear hr
  go_enter Try.func22, Try.ntmps22
  go_wp2_with fail
  refine (sclone_any v d w HR.out hs).mono ?_
  rintro e w1 ⟨v1, rfl, ho, hb⟩
  obtain ⟨g, cap, cur, rfl, hBg, hg, _, _, hH⟩ := ho.form (by omega)
  have HO := Lib.hid ho
  have HL := Lib.hid hb
  have HH := Lib.hid hH
  clear ho hb hH hg
  go_wp2_with fail
  go_loopw [1] (fun vi wr => ∃ (k q : Nat) (dk : Array Int), vi = .int .i64 k ∧ k < n ∧ Hid (dk.size = d.size) ∧ wr = (putRow (Value.int .i64) w1 g 0 dk).drewN q ∧ Hid (downA dk k n = downA d i0 n)) (fun vi _ => n - (intOf vi).toNat)
  case atStart => exact ⟨i0, 0, d, rfl, hi0, rfl, by rw [putRow_self _ w1 g 0 d HH.out]; rfl, rfl⟩
  case round =>
    obtain ⟨k, q, dk, rfl, hk, HS, hw, HU⟩ := hrel
    have HD : Hid (Holds (Value.int .i64) wr g 0 dk) := Lib.hid (by rw [hw]; exact holds_putRow _ w1 g 0 d dk HH.out HS.out)
    have HW : Hid (wr = (putRow (Value.int .i64) w1 g 0 dk).drewN q) := Lib.hid hw
    clear hw
    have fin : ∀ nq, (∀ z, z = downA dk k n → z.1 = dk) → ∃ v', Ending.returned (.slice (some ⟨g, 0, none⟩) d.size cap) = .returned v' ∧ Own (wr.drewN nq) w.heap.size v' (downA d i0 n).1 ∧ Below w.heap.size w (wr.drewN nq) := fun nq hz => by
      have hz' : (downA d i0 n).1 = dk := by rw [← HU.out]; exact hz _ rfl
      rw [hz', HW.out, World.drewN_drewN]
      exact ⟨_, rfl, by have := HO.out.put (q := q + nq) HS.out; rw [HS.out] at this; exact this, HL.out.trans (below_putRow _ w1 g _ dk hBg)⟩
    have FIN := Lib.hid fin
    clear fin
    obtain ⟨x, hx⟩ : ∃ x, dk[k]! = x := ⟨_, rfl⟩
    obtain ⟨c1, f1⟩ := HD.out k (by rw [HS.out]; omega)
    rw [hx, Nat.zero_add] at c1
    rw [Nat.zero_add] at f1
    have hki : (k : Int) < (d.size : Int) := by omega
    have HX := Lib.hid hx
    clear hx
    obtain ⟨j1, hj1⟩ : ∃ j1 : Nat, 2 * k + 1 = j1 := ⟨_, rfl⟩
    have e1 : 2 * (k : Int) + 1 = (j1 : Int) := by omega
    have b1 : 1 ≤ j1 := by omega
    have hkj : k < j1 := by omega
    have HJ1 : Hid (2 * k + 1 = j1) := Lib.hid hj1
    by_cases h1 : j1 < n
    · have g1 : decide ((n : Int) ≤ (j1 : Int)) = false := decide_eq_false (by omega)
      obtain ⟨j2, hj2⟩ : ∃ j2 : Nat, j1 + 1 = j2 := ⟨_, rfl⟩
      have e2 : (j1 : Int) + 1 = (j2 : Int) := by omega
      have HJ2 : Hid (2 * k + 2 = j2) := Lib.hid (by omega)
      have hj1d : (j1 : Int) < (d.size : Int) := by omega
      obtain ⟨y, hy⟩ : ∃ y, dk[j1]! = y := ⟨_, rfl⟩
      obtain ⟨c2, f2⟩ := HD.out j1 (by rw [HS.out]; omega)
      rw [hy, Nat.zero_add] at c2
      rw [Nat.zero_add] at f2
      have HY := Lib.hid hy
      clear hj1 hy
      by_cases h2 : j2 < n
      · have g2 : (j2 : Int) < (n : Int) := by omega
        have hj2d : (j2 : Int) < (d.size : Int) := by omega
        have hkj2 : k < j2 := by omega
        obtain ⟨z, hz⟩ : ∃ z, dk[j2]! = z := ⟨_, rfl⟩
        obtain ⟨c3, f3⟩ := HD.out j2 (by rw [HS.out]; omega)
        rw [hz, Nat.zero_add] at c3
        rw [Nat.zero_add] at f3
        have HZ := Lib.hid hz
        clear hj2 hz
        by_cases hl : z < y
        · have HC : Hid (kidA dk k n = j2) := Lib.hid (by rw [kidA_right dk k n (by rw [HJ2.out]; exact h2) (by rw [HJ1.out, HJ2.out, HZ.out, HY.out]; exact hl), HJ2.out])
          have hli : decide (z < y) = true := decide_eq_true hl
          by_cases hm : z < x
          · go_wp2_with fail
            go_quiet (fail)
            go_wp2_with fail
            go_quiet (fail)
            go_wp2_with fail
            generalize hwq : wr.drewN _ = wq
            have a1 : wq.cell? ⟨g, k, none⟩ = some (.int .i64 x) := by rw [← hwq]; exact c1
            have a2 : wq.cell? ⟨g, j2, none⟩ = some (.int .i64 z) := by rw [← hwq]; exact c3
            have a3 : wq.frozen? ⟨g, k, none⟩ = false := by rw [← hwq]; exact f1
            have a4 : wq.frozen? ⟨g, j2, none⟩ = false := by rw [← hwq]; exact f3
            have HQ : Hid (∃ n, wq = wr.drewN n) := Lib.hid ⟨_, hwq.symm⟩
            clear hwq c1 c2 f1 f2
            go_region
            go_wp2_with fail
            go_roundw
            case rel =>
              obtain ⟨nn, hnn⟩ := HQ.out
              refine ⟨j2, q + (nn + (nq + 1)), swp dk k j2, by go_num, by omega, (by rw [size_swp]; exact HS.out : (swp dk k j2).size = d.size), ?_, ?_⟩
              · rw [hnn, HW.out, ← HX.out, ← HZ.out, World.drewN_drewN, World.drewN_drewN]
                exact swap_worldN w1 g dk _ k j2 (by rw [HS.out]; omega) (by rw [HS.out]; omega)
              · exact Lib.hid (by rw [← HU.out, downA_go dk k n (by rw [HJ1.out]; exact h1) (by rw [HC.out, HZ.out, HX.out]; exact hm), HC.out])
            case measure => simp [intOf]; omega
          · have hmi : decide (x ≤ z) = true := decide_eq_true (by omega)
            have HM : Hid (x ≤ z) := Lib.hid (by omega)
            go_wp2_with fail
            go_quiet (fail)
            go_wp2_with fail
            go_quiet (fail)
            go_wp2_with fail
            go_ret
            simp only [World.drewN_drewN]
            exact FIN.out _ (fun z hz => by rw [hz, downA_stop dk k n (by rw [HC.out, HZ.out, HX.out]; exact fun hh => absurd hh.2 (Int.not_lt.2 HM.out))])
        · have HC : Hid (kidA dk k n = j1) := Lib.hid (by rw [kidA_left dk k n (by rw [HJ1.out, HJ2.out, HZ.out, HY.out]; exact fun hh => hl hh.2), HJ1.out])
          have hli : decide (z < y) = false := decide_eq_false hl
          by_cases hm : y < x
          · go_wp2_with fail
            go_quiet (fail)
            go_wp2_with fail
            go_quiet (fail)
            go_wp2_with fail
            generalize hwq : wr.drewN _ = wq
            have a1 : wq.cell? ⟨g, k, none⟩ = some (.int .i64 x) := by rw [← hwq]; exact c1
            have a2 : wq.cell? ⟨g, j1, none⟩ = some (.int .i64 y) := by rw [← hwq]; exact c2
            have a3 : wq.frozen? ⟨g, k, none⟩ = false := by rw [← hwq]; exact f1
            have a4 : wq.frozen? ⟨g, j1, none⟩ = false := by rw [← hwq]; exact f2
            have HQ : Hid (∃ n, wq = wr.drewN n) := Lib.hid ⟨_, hwq.symm⟩
            clear hwq c1 c2 f1 f2
            go_region
            go_wp2_with fail
            go_roundw
            case rel =>
              obtain ⟨nn, hnn⟩ := HQ.out
              refine ⟨j1, q + (nn + (nq + 1)), swp dk k j1, by go_num, by omega, (by rw [size_swp]; exact HS.out : (swp dk k j1).size = d.size), ?_, ?_⟩
              · rw [hnn, HW.out, ← HX.out, ← HY.out, World.drewN_drewN, World.drewN_drewN]
                exact swap_worldN w1 g dk _ k j1 (by rw [HS.out]; omega) (by rw [HS.out]; omega)
              · exact Lib.hid (by rw [← HU.out, downA_go dk k n (by rw [HJ1.out]; exact h1) (by rw [HC.out, HY.out, HX.out]; exact hm), HC.out])
            case measure => simp [intOf]; omega
          · have hmi : decide (x ≤ y) = true := decide_eq_true (by omega)
            have HM : Hid (x ≤ y) := Lib.hid (by omega)
            go_wp2_with fail
            go_quiet (fail)
            go_wp2_with fail
            go_quiet (fail)
            go_wp2_with fail
            go_ret
            simp only [World.drewN_drewN]
            exact FIN.out _ (fun z hz => by rw [hz, downA_stop dk k n (by rw [HC.out, HY.out, HX.out]; exact fun hh => absurd hh.2 (Int.not_lt.2 HM.out))])
      · have g2 : decide ((j2 : Int) < (n : Int)) = false := decide_eq_false (by omega)
        have HC : Hid (kidA dk k n = j1) := Lib.hid (by rw [kidA_left dk k n (by rw [HJ1.out, HJ2.out]; exact fun hh => h2 hh.1), HJ1.out])
        clear hj2
        by_cases hm : y < x
        · go_wp2_with fail
          go_quiet (fail)
          go_wp2_with fail
          go_quiet (fail)
          go_wp2_with fail
          generalize hwq : wr.drewN _ = wq
          have a1 : wq.cell? ⟨g, k, none⟩ = some (.int .i64 x) := by rw [← hwq]; exact c1
          have a2 : wq.cell? ⟨g, j1, none⟩ = some (.int .i64 y) := by rw [← hwq]; exact c2
          have a3 : wq.frozen? ⟨g, k, none⟩ = false := by rw [← hwq]; exact f1
          have a4 : wq.frozen? ⟨g, j1, none⟩ = false := by rw [← hwq]; exact f2
          have HQ : Hid (∃ n, wq = wr.drewN n) := Lib.hid ⟨_, hwq.symm⟩
          clear hwq c1 c2 f1 f2
          go_region
          go_wp2_with fail
          go_roundw
          case rel =>
            obtain ⟨nn, hnn⟩ := HQ.out
            refine ⟨j1, q + (nn + (nq + 1)), swp dk k j1, by go_num, by omega, (by rw [size_swp]; exact HS.out : (swp dk k j1).size = d.size), ?_, ?_⟩
            · rw [hnn, HW.out, ← HX.out, ← HY.out, World.drewN_drewN, World.drewN_drewN]
              exact swap_worldN w1 g dk _ k j1 (by rw [HS.out]; omega) (by rw [HS.out]; omega)
            · exact Lib.hid (by rw [← HU.out, downA_go dk k n (by rw [HJ1.out]; exact h1) (by rw [HC.out, HY.out, HX.out]; exact hm), HC.out])
          case measure => simp [intOf]; omega
        · have hmi : decide (x ≤ y) = true := decide_eq_true (by omega)
          have HM : Hid (x ≤ y) := Lib.hid (by omega)
          go_wp2_with fail
          go_quiet (fail)
          go_wp2_with fail
          go_quiet (fail)
          go_wp2_with fail
          go_ret
          simp only [World.drewN_drewN]
          exact FIN.out _ (fun z hz => by rw [hz, downA_stop dk k n (by rw [HC.out, HY.out, HX.out]; exact fun hh => absurd hh.2 (Int.not_lt.2 HM.out))])
    · have g1 : decide ((n : Int) ≤ (j1 : Int)) = true := decide_eq_true (by omega)
      clear hj1
      go_wp2_with fail
      go_ret
      exact FIN.out 0 (fun z hz => by rw [hz, downA_stop dk k n (by rw [HJ1.out]; exact fun hh => h1 hh.1)])

end Go.Proofs.Ytkceigigdklaoaa
