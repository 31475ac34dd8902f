/-
  What the last laws need besides: the guarded append, a store into a list of the call's own, slices.Min at a list. Conditions as stated.
-/
import Derived.Test.YtkceigigdklaoaaSame
import Derived.Test.YtkceigigdklaoaaHeaps
namespace Go.Proofs.Ytkceigigdklaoaa
open Go.RowKit Go.Sort

/-- AT A GUARDED OPERATION THAT IS WANTED. -/
theorem wpList_app_g {ops : Array Oper} {rest : List Oper} {o : Oper} {a : Act} {Q : Exit → Act → World → Prop} (w : World) (hgd : Region.wanted o (yielded ops a.tmps) = true) (s x : Operand) (t t2 : TypeId)
    (ho : o.op = .call { callee := .builtin .append, args := #[s, x], argTypes := #[t, t2] })
    (ht : Try.prog.underlying t = some (.slice 3)) (ht2 : Try.prog.underlying t2 = some (.slice 3)) (base : Nat) (v y : Value) (d e f : Array Int) (n : Nat)
    (hv : a.eval s = v) (hy : a.eval x = y) (hown : Own w base v d) (hr : Rd w y e) (hs : d.size + e.size ≤ 1099511627776) (hbase : base ≤ w.heap.size) (hf : d ++ e = f) (hn : f.size = n)
    (h : ∀ A c w', Own w' base (.slice A n c) f → w.grownBy w' v.ownBlock → ((Value.slice A n c).ownBlock = v.ownBlock ∨ (Value.slice A n c).ownBlock = some w.heap.size) → wpList Try.prog ops Q rest (a.put o.dst (.slice A n c)) w') :
    wpList Try.prog ops Q (o :: rest) a w :=
  wpList_step fun K hK => by
    rw [if_pos hgd]
    exact wp_app w s x t t2 ho ht ht2 base v y d e f n hv hy hown hr hs hbase hf hn fun A c w' q1 q2 q3 => hK _ _ (h A c w' q1 q2 q3)

/-- A store into a list of the call's own. -/
theorem Own.set {w : World} {base g cap i : Nat} {d : Array Int} (x : Int) (h : Own w base (.slice (some ⟨g, 0, none⟩) d.size cap) d) :
    Own (w.setCell ⟨g, i, none⟩ (.int .i64 x)) base (.slice (some ⟨g, 0, none⟩) d.size cap) (d.setIfInBounds i x) ∧ w.grownBy (w.setCell ⟨g, i, none⟩ (.int .i64 x)) (some g) := by
  have := World.ownsRow.stored h i (.int .i64 x)
  refine ⟨?_, this.2⟩
  have e : nums (d.setIfInBounds i x) = (nums d).set i (.int .i64 x) := by simp [nums, List.map_set]
  unfold Own
  rw [e, Array.size_setIfInBounds]
  exact this.1

set_option maxHeartbeats 1000000 in
theorem min_any (v : Value) (d : Array Int) (w : World) (h : Rd w v d) (h0 : 0 < d.size) (hs : d.size ≤ 1099511627776) (hm : ∀ k, k < d.size → d[0]! ≤ d[k]!) :
    Calls Try.prog 30 #[v] w fun e w' => e = .returned (.int .i64 d[0]!) ∧ w = w' := by
  obtain ⟨A, c, rfl, _, _, hcl⟩ := h
  obtain ⟨b, o, rfl, _, hcells⟩ := hcl h0
  obtain ⟨n, hn⟩ : ∃ n : Nat, d.size = n := ⟨_, rfl⟩
  obtain ⟨x, hx⟩ : ∃ x, d[0]! = x := ⟨_, rfl⟩
  have cx := hcells 0 h0
  rw [hx, Nat.add_zero] at cx
  rw [hx, hn]
  have HC := Lib.hid hcells
  have HM := Lib.hid hm
  have HN : Hid (d.size = n) := Lib.hid hn
  have HX := Lib.hid hx
  have hn0 : 0 < n := by omega
  have hnb : n ≤ 1099511627776 := by omega
  have h00 : (0 : Int) < (n : Int) := by omega
  clear hcells hm hn hx hcl h0 hs
  go_enter Try.func30, Try.ntmps30
  go_wp2_with fail
  go_loop [3, 4] (fun m i => ∃ k : Nat, 1 ≤ k ∧ k ≤ n ∧ i = .int .i64 k ∧ m = .int .i64 x) (fun _ i => n - (intOf i).toNat)
  case atStart => exact ⟨1, Nat.le_refl _, hn0, rfl, rfl⟩
  case round =>
    obtain ⟨k, hk1, hk, rfl, rfl⟩ := hrel
    by_cases hlt : k < n
    · obtain ⟨y, hy⟩ : ∃ y, d[k]! = y := ⟨_, rfl⟩
      have cy := HC.out k (by rw [HN.out]; exact hlt)
      have hxy := HM.out k (by rw [HN.out]; exact hlt)
      rw [HX.out, hy] at hxy
      rw [hy] at cy
      have hki : (k : Int) < (n : Int) := by omega
      have hmin : min x y = x := by omega
      clear hy
      go_wp2_with fail
      go_round
      case rel => exact ⟨k + 1, by omega, by omega, by go_num, rfl⟩
      case measure => simp [intOf]; omega
    · go_wp2_with fail
      go_ret
      exact ⟨rfl, rfl⟩
end Go.Proofs.Ytkceigigdklaoaa
