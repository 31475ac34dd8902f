/-
  The walks of the reference: spec.Heap (at a heap, at no heap), spec.Risen. Conditions: the place lies in the list; far shorter than the bounds of the model.
-/
import Derived.Test.YtkceigigdklaoaaLib
namespace Go.Proofs.Ytkceigigdklaoaa
open Go.RowKit Go.Sort

/-- spec.Heap as a test. -/
def heapB (d : Array Int) (n : Nat) : Bool := (List.range n).all fun k => decide (1 ≤ k → d[(k - 1) / 2]! ≤ d[k]!)
theorem heapB_iff (d : Array Int) (n : Nat) : heapB d n = true ↔ HeapA d n := by
  unfold heapB HeapA Edge
  simp only [List.all_eq_true, List.mem_range, decide_eq_true_eq]
  exact ⟨fun h k a b => h k b a, fun h k a b => h k b a⟩
theorem heapB_stop (d : Array Int) (n k : Nat) (h1 : 1 ≤ k) (hk : k < n) (hl : d[k]! < d[(k - 1) / 2]!) : heapB d n = false := by
  cases hb : heapB d n with
  | false => rfl
  | true =>
    have := (heapB_iff d n).1 hb k h1 hk
    unfold Edge at this
    omega

set_option maxHeartbeats 1000000 in
theorem heap_any (v : Value) (d : Array Int) (n : Nat) (w : World) (h : Rd w v d) (hn : n ≤ d.size) (hs : d.size ≤ 1099511627776) :
    Calls Try.prog 19 #[v, .int .i64 n] w fun e w' => e = .returned (.bool (heapB d n)) ∧ ∃ q, w' = w.drewN q := by
  obtain ⟨A, c, rfl, _, _, h1⟩ := h
  obtain ⟨m, hm⟩ : ∃ m : Nat, d.size = m := ⟨_, rfl⟩
  rw [hm]
  have hnb : n ≤ m := by omega
  have hmb : m ≤ 1099511627776 := by omega
  have H1 := Lib.hid h1
  have HM : Hid (d.size = m) := Lib.hid hm
  clear h1 hm hs hn
  go_enter Try.func19, Try.ntmps19
  go_wp2_with fail
  go_loopw [5] (fun vi wr => ∃ (k q : Nat), vi = .int .i64 k ∧ 1 ≤ k ∧ k ≤ n + 1 ∧ wr = w.drewN q ∧ Hid (∀ j, 1 ≤ j → j < k → j < n → Edge d j)) (fun vi _ => n + 1 - (intOf vi).toNat)
  case atStart => exact ⟨1, 0, rfl, Nat.le_refl _, by omega, rfl, fun j a b => by omega⟩
  case round =>
    obtain ⟨k, q, rfl, h1k, hk, hw, HE⟩ := hrel
    have HW := Lib.hid hw
    by_cases hlt : k < n
    · obtain ⟨b1, o1, e1, _, g1⟩ := H1.out (by rw [HM.out]; omega)
      subst e1
      obtain ⟨i, hi⟩ : ∃ i : Nat, i = (k - 1) / 2 := ⟨_, rfl⟩
      have ei : ((k : Int) - 1) / 2 = (i : Int) := by omega
      have hin : i < k := by omega
      obtain ⟨x, hx⟩ : ∃ x, d[k]! = x := ⟨_, rfl⟩
      obtain ⟨y, hy⟩ : ∃ y, d[i]! = y := ⟨_, rfl⟩
      have x1 := g1 k (by rw [HM.out]; omega)
      have x2 := g1 i (by rw [HM.out]; omega)
      rw [hx] at x1
      rw [hy] at x2
      have y1 : wr.cell? ⟨b1, o1 + k, none⟩ = some (.int .i64 x) := by rw [hw]; exact x1
      have y2 : wr.cell? ⟨b1, o1 + i, none⟩ = some (.int .i64 y) := by rw [hw]; exact x2
      have hki : (k : Int) < (m : Int) := by omega
      have hii : (i : Int) < (m : Int) := by omega
      have HI := Lib.hid hi
      have HX := Lib.hid hx
      have HY := Lib.hid hy
      clear g1 hx hy x1 x2 hw hi
      by_cases hl : x < y
      · go_wp2_with fail
        go_quiet (fail)
        go_wp2_with fail
        go_ret
        exact ⟨by rw [heapB_stop d n k h1k hlt (by rw [HX.out, ← HI.out, HY.out]; exact hl)]; rfl, q + nq, by rw [HW.out, World.drewN_drewN]⟩
      · go_wp2_with fail
        go_quiet (fail)
        go_wp2_with fail
        go_roundw
        case rel =>
          refine ⟨k + 1, q + nq, by go_num, by omega, by omega, by rw [HW.out, World.drewN_drewN], (fun j a b c => ?_ : ∀ j, 1 ≤ j → j < k + 1 → j < n → Edge d j)⟩
          by_cases e : j = k
          · subst e; unfold Edge; rw [HX.out, ← HI.out, HY.out]; omega
          · exact HE.out j a (by omega) c
        case measure => simp [intOf]; omega
    · clear hw
      go_wp2_with fail
      go_ret
      exact ⟨by rw [(heapB_iff d n).2 fun j a b => HE.out j a (by omega) b]; rfl, q, HW.out⟩

theorem own_below {w w' : World} {B : Nat} {v : Value} {d : Array Int} (h : Own w B v d) (hb : Below w.heap.size w w') : Own w' B v d := by
  refine ⟨h.1, ?_⟩
  rcases h.2 with hn | ⟨g, cap, cur, hv, hB, hg, hr⟩
  · exact .inl hn
  · refine .inr ⟨g, cap, cur, hv, hB, ?_, hr⟩
    rw [hb.block g ?_]; exact hg
    rcases Nat.lt_or_ge g w.heap.size with hlt | hge
    · exact hlt
    · rw [Array.getElem?_eq_none hge] at hg; cases hg

theorem swp_comm (d : Array Int) (i j : Nat) : swp d i j = swp d j i := by
  by_cases hij : i = j
  · subst hij; rfl
  · unfold swp
    rw [Array.setIfInBounds_comm _ _ hij]

set_option maxHeartbeats 4000000 in
set_option maxRecDepth 100000 in
theorem risen_any (v : Value) (d : Array Int) (j : Nat) (w : World) (hr : Rd w v d) (hj : j < d.size) (hs : d.size ≤ 1099511627776) :
    Calls Try.prog 18 #[v, .int .i64 j] w (Hands w.heap.size w (upA d j)) := by
  have HR := Lib.hid hr
  clear hr
  go_enter Try.func18, Try.ntmps18
  go_wp2_with fail
  refine (sclone_any v d w HR.out hs).mono ?_
  rintro e w1 ⟨v1, rfl, ho, hb⟩
  obtain ⟨g, cap, cur, rfl, hBg, hg, _, _, hH⟩ := ho.form (by omega)
  have HO := Lib.hid ho
  have HL := Lib.hid hb
  have HH := Lib.hid hH
  clear ho hb hH hg
  go_wp2_with fail
  go_loopw [1] (fun vj wr => ∃ (k q : Nat) (dk : Array Int), vj = .int .i64 k ∧ k < d.size ∧ Hid (dk.size = d.size) ∧ wr = (putRow (Value.int .i64) w1 g 0 dk).drewN q ∧ Hid (upA dk k = upA d j)) (fun vj _ => (intOf vj).toNat)
  case atStart => exact ⟨j, 0, d, rfl, hj, rfl, by rw [putRow_self _ w1 g 0 d HH.out]; rfl, rfl⟩
  case round =>
    obtain ⟨k, q, dk, rfl, hk, HS, hw, HU⟩ := hrel
    have HD : Hid (Holds (Value.int .i64) wr g 0 dk) := Lib.hid (by rw [hw]; exact holds_putRow _ w1 g 0 d dk HH.out HS.out)
    have HW : Hid (wr = (putRow (Value.int .i64) w1 g 0 dk).drewN q) := Lib.hid hw
    clear hw
    obtain ⟨x, hx⟩ : ∃ x, dk[k]! = x := ⟨_, rfl⟩
    obtain ⟨c1, f1⟩ := HD.out k (by rw [HS.out]; exact hk)
    rw [hx, Nat.zero_add] at c1
    rw [Nat.zero_add] at f1
    have hki : (k : Int) < (d.size : Int) := by omega
    have HX := Lib.hid hx
    clear hx
    by_cases h0 : 0 < k
    · obtain ⟨i, hi⟩ : ∃ i : Nat, i = (k - 1) / 2 := ⟨_, rfl⟩
      have ei : ((k : Int) - 1) / 2 = (i : Int) := by omega
      have hik : i < k := by omega
      have hii : (i : Int) < (d.size : Int) := by omega
      obtain ⟨y, hy⟩ : ∃ y, dk[i]! = y := ⟨_, rfl⟩
      obtain ⟨c2, f2⟩ := HD.out i (by rw [HS.out]; omega)
      rw [hy, Nat.zero_add] at c2
      rw [Nat.zero_add] at f2
      have HY := Lib.hid hy
      have HI : Hid (i = (k - 1) / 2) := Lib.hid hi
      have h0' : (0 : Int) < (k : Int) := by omega
      clear hi hy
      by_cases hl : x < y
      · go_wp2_with fail
        go_quiet (fail)
        go_wp2_with fail
        generalize hwq : wr.drewN _ = wq
        have c1' : wq.cell? ⟨g, k, none⟩ = some (.int .i64 x) := by rw [← hwq]; exact c1
        have c2' : wq.cell? ⟨g, i, none⟩ = some (.int .i64 y) := by rw [← hwq]; exact c2
        have f1' : wq.frozen? ⟨g, k, none⟩ = false := by rw [← hwq]; exact f1
        have f2' : wq.frozen? ⟨g, i, none⟩ = false := by rw [← hwq]; exact f2
        have HQ : Hid (∃ n, wq = wr.drewN n) := Lib.hid ⟨_, hwq.symm⟩
        clear hwq c1 c2 f1 f2
        go_region
        go_wp2_with fail
        go_roundw
        case rel =>
          obtain ⟨n, hn⟩ := HQ.out
          refine ⟨i, q + n + 1, swp dk i k, by rw [ei], by omega, (by rw [size_swp]; exact HS.out : (swp dk i k).size = d.size), ?_, ?_⟩
          · rw [hn, HW.out, ← HX.out, ← HY.out, swp_comm dk i k, World.drewN_drewN]
            have e := swap_worldC (Value.int .i64) w1 g 0 dk (q + n) k i (by rw [HS.out]; exact hk) (by rw [HS.out]; omega)
            rw [Nat.zero_add, Nat.zero_add] at e
            exact e
          · exact Lib.hid (by rw [← HU.out, upA_go dk k h0 (by rw [← HI.out, HX.out, HY.out]; exact hl), ← HI.out])
        case measure => simp [intOf]; omega
      · go_wp2_with fail
        go_quiet (fail)
        go_wp2_with fail
        go_ret
        have hz : upA d j = dk := by rw [← HU.out, upA_stop dk k (by rw [← HI.out, HX.out, HY.out]; exact fun hh => absurd hh.2 (Int.not_lt.2 hl))]
        rw [hz, HW.out, World.drewN_drewN]
        exact ⟨_, rfl, by have := HO.out.put (q := q + nq) HS.out; rw [HS.out] at this; exact this, HL.out.trans (below_putRow _ w1 g _ dk hBg)⟩
    · have hd : decide ((0 : Int) < (k : Int)) = false := decide_eq_false (by omega)
      go_wp2_with fail
      go_quiet (fail)
      go_wp2_with fail
      go_ret
      have hz : upA d j = dk := by rw [← HU.out, upA_stop dk k (by omega)]
      rw [hz, HW.out, World.drewN_drewN]
      exact ⟨_, rfl, by have := HO.out.put (q := q + nq) HS.out; rw [HS.out] at this; exact this, HL.out.trans (below_putRow _ w1 g _ dk hBg)⟩

end Go.Proofs.Ytkceigigdklaoaa
