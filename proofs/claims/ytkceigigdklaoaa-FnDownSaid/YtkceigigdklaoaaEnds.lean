/-
  The methods Pop and Push of the list behind a pointer. Conditions: a list that is not empty (Pop); far shorter than the bounds of the model.
-/
import Derived.Test.YtkceigigdklaoaaBox
namespace Go.Proofs.Ytkceigigdklaoaa
open Go.RowKit Go.Sort

theorem size_pos_pop (d : Array Int) : (d.pop).size = d.size - 1 := by simp
theorem getElem!_pop (d : Array Int) (k : Nat) (h : k + 1 < d.size) : (d.pop)[k]! = d[k]! := by
  rw [getElem!_pos d.pop k (by simp; omega), getElem!_pos d k (by omega), Array.getElem_pop]

/-- A row of the call's own with the last one cut off. -/
theorem Own.pop {w : World} {base g cap : Nat} {d : Array Int} (h : Own w base (.slice (some ⟨g, 0, none⟩) d.size cap) d) : Own w base (.slice (some ⟨g, 0, none⟩) d.pop.size cap) d.pop := by
  rcases h.2 with ⟨hv, _⟩ | ⟨g', cap', cur, hv, hb, hg, hc, hm, hcs, ht⟩
  · cases hv
  · injection hv with h1 h2 h3
    injection h1 with h1
    injection h1 with h1
    subst h1; subst h3
    refine ⟨by rw [nums_length]; simp, .inr ⟨g, cap, cur, rfl, hb, hg, by simp; omega, hm, hcs, ?_⟩⟩
    have e : nums d.pop = (nums d).take (d.size - 1) := by
      simp [nums, List.dropLast_eq_take]
    rw [e, ← ht, List.take_take]
    congr 1
    simp

/-- A store elsewhere leaves a row of the call's own. -/
theorem Own.far {w : World} {base p : Nat} {v u : Value} {d : Array Int} (h : Own w base v d) (hp : v.ownBlock ≠ some p) : Own (w.setCell ⟨p, 0, none⟩ u) base v d := by
  refine ⟨h.1, ?_⟩
  rcases h.2 with hn | ⟨g, cap, cur, rfl, hb, hg, hr⟩
  · exact .inl hn
  · exact .inr ⟨g, cap, cur, rfl, hb, (Below.heap_setCell w ⟨p, 0, none⟩ u g (fun e => hp (by rw [e]; rfl))).trans hg, hr⟩

theorem Boxed.store {w : World} {base p : Nat} {v v' : Value} {d d' : Array Int} (h : Boxed w base p v d) (ho : Own w base v' d') (hne : v'.ownBlock ≠ some p) :
    Boxed (w.setCell ⟨p, 0, none⟩ v') base p v' d' ∧ Below base w (w.setCell ⟨p, 0, none⟩ v') :=
  ⟨⟨h.le, by simpa [World.setCell] using h.lt, ho.far hne, World.cell?_setCell_same _ _ _ h.cell, by rw [World.frozen?_setCell]; exact h.free, hne⟩, (Below.refl _ _).setCell h.le _⟩

set_option maxHeartbeats 400000 in
theorem mpop_any (base p g cap : Nat) (d : Array Int) (w : World) (h : Boxed w base p (.slice (some ⟨g, 0, none⟩) d.size cap) d) (h0 : 0 < d.size) (hs : d.size ≤ 1099511627776) :
    Calls Try.prog 85 #[.pointer (some ⟨p, 0, none⟩)] w fun e w' => e = .returned (.iface 3 (.int .i64 d[d.size - 1]!)) ∧ Boxed w' base p (.slice (some ⟨g, 0, none⟩) d.pop.size cap) d.pop ∧ Below base w w' := by
  obtain ⟨g', cap', e, hb, hgp, hc, hH, hz⟩ := h.open_ h0
  cases e
  clear hz
  have hf := h.free
  obtain ⟨x, hx⟩ : ∃ x, d[d.size - 1]! = x := ⟨_, rfl⟩
  have cx := (hH (d.size - 1) (by omega)).1
  have hcap : d.size ≤ cap := by
    obtain ⟨_, _, _, e, _, _, hcap, _⟩ := h.own.form h0
    cases e; exact hcap
  rw [hx, Nat.zero_add] at cx
  rw [hx]
  obtain ⟨m, hm⟩ : ∃ m : Nat, d.size - 1 = m := ⟨_, rfl⟩
  obtain ⟨n, hn⟩ : ∃ n : Nat, d.size = n := ⟨_, rfl⟩
  have hmn : (n : Int) - 1 = (m : Int) := by omega
  have hmn1 : m < n := by omega
  have hnb : n ≤ 1099511627776 := by omega
  have hmn2 : m ≤ cap := by omega
  rw [hm] at cx
  rw [hn] at hc
  have HB := Lib.hid h
  have HN : Hid (d.size = n) := Lib.hid hn
  have HM : Hid (d.size - 1 = m) := Lib.hid hm
  clear h hn hm hx hH hcap hs h0
  go_enter Try.func85, Try.ntmps85
  go_wp2_with fail
  go_ret
  have hm' : d.pop.size = m := by rw [size_pos_pop, HM.out]
  have ho := HB.out.own.pop
  have := HB.out.store ho HB.out.ne
  rw [hm'] at this ⊢
  exact ⟨rfl, this⟩
theorem Rd.one {w : World} {g : Nat} {x : Int} (hg : g < w.heap.size) (hc : w.cell? ⟨g, 0, none⟩ = some (.int .i64 x)) : Rd w (.slice (some ⟨g, 0, none⟩) 1 1) #[x] :=
  ⟨_, 1, rfl, Nat.le_refl _, by simp [maxLen], fun _ => ⟨g, 0, rfl, hg, fun j hj => by
    obtain rfl : j = 0 := by simpa using hj
    exact hc⟩⟩

theorem Boxed.alloc {w : World} {base p : Nat} {v : Value} {d : Array Int} (h : Boxed w base p v d) (o : Obj) : Boxed (w.alloc o) base p v d :=
  ⟨h.le, by have := h.lt; simp; omega, World.ownsRow.alloc h.own o, (World.cell?_alloc_lt w o _ h.lt).trans h.cell, (World.frozen?_alloc_old w o _ (by have := h.lt; simp; omega)).trans h.free, h.ne⟩
theorem Boxed.drewN {w : World} {base p : Nat} {v : Value} {d : Array Int} (h : Boxed w base p v d) (n : Nat) : Boxed (w.drewN n) base p v d := ⟨h.le, h.lt, h.own, h.cell, h.free, h.ne⟩

/-- Behind an append onto the variable's slice: the variable holds what it held. -/
theorem Boxed.grown {w w' : World} {base p : Nat} {v : Value} {d : Array Int} (h : Boxed w base p v d) (hg : w.grownBy w' v.ownBlock) :
    w'.cell? ⟨p, 0, none⟩ = some v ∧ w'.frozen? ⟨p, 0, none⟩ = false ∧ p < w'.heap.size :=
  ⟨(World.cell?_of_block (w := w) (hg.block p h.lt (fun e => h.ne e.symm))).trans h.cell, (World.frozen?_of_block (w := w) (hg.block p h.lt (fun e => h.ne e.symm))).trans h.free, Nat.lt_of_lt_of_le h.lt hg.size⟩

theorem Boxed.pushed {w w' : World} {base p : Nat} {v v' : Value} {d d' : Array Int} (h : Boxed w base p v d) (hg : w.grownBy w' v.ownBlock) (ho : Own w' base v' d') (hb : v'.ownBlock = v.ownBlock ∨ v'.ownBlock = some w.heap.size) :
    Boxed (w'.setCell ⟨p, 0, none⟩ v') base p v' d' ∧ Below base w (w'.setCell ⟨p, 0, none⟩ v') := by
  obtain ⟨h1, h2, h3⟩ := h.grown hg
  have hne : v'.ownBlock ≠ some p := by
    rcases hb with e | e <;> rw [e]
    · exact h.ne
    · have := h.lt
      intro e'
      injection e' with e'
      omega
  refine ⟨⟨h.le, by simpa [World.setCell] using h3, ho.far hne, World.cell?_setCell_same _ _ _ h1, by rw [World.frozen?_setCell]; exact h2, hne⟩, ?_⟩
  refine Below.setCell ((Below.refl _ _).grown hg (by have := h.le; have := h.lt; omega) (fun k hk => (h.own.lt k hk).1)) h.le _

theorem assert_int (x : Int) (w : World) : (Instr.typeAssert (.iface 3 (.int .i64 x)) 20 3 false).run Try.prog w = .ok (.int .i64 x) w := by kernel_rfl

set_option maxHeartbeats 1000000 in
theorem mpush_any (base p : Nat) (A : Option Addr) (n cap : Nat) (d : Array Int) (x : Int) (w : World) (h : Boxed w base p (.slice A n cap) d) (hs : d.size + 1 ≤ 1099511627776) :
    Calls Try.prog 86 #[.pointer (some ⟨p, 0, none⟩), .iface 3 (.int .i64 x)] w fun e w' => e = .returned (.tuple #[]) ∧ ∃ v', Boxed w' base p v' (d.push x) ∧ Below base w w' := by
  have hc := h.cell
  have hf := h.free
  have hlt := h.lt
  have hle := h.le
  have HB := Lib.hid h
  have hta := assert_int x
  clear h
  go_enter Try.func86, Try.ntmps86
  go_wp2_with fail
  go_region_law (refine step_app _ rfl (.tmp 7) (.tmp 10) 44 44 rfl Try.underlying44 Try.underlying44 base (.slice A n cap) (.slice (some ⟨w.heap.size, 0, none⟩) 1 1) d #[x] (d.push x) (d.size + 1) (by simp [Act.eval]) (by simp [Act.eval]) (by exact HB.out.own.alloc _) (Rd.one (by simp) (by simp)) (by simp; omega) (by simp; omega) (by simp) (by simp) ?_; intro A' c' w1 hown hg hb; have HG := Lib.hid hg; have HO := Lib.hid hown; have HE := Lib.hid hb; have hc1 := ((HB.out.alloc (.cells #[.int .i64 x] 3)).drewN 1).grown hg; obtain ⟨hc1, hc2, _⟩ := hc1; clear hg hown hb)
  all_goals
    go_end0
    have hp := ((HB.out.alloc (.cells #[.int .i64 x] 3)).drewN 1).pushed HG.out HO.out HE.out
    have hb : Below base w (w.alloc (.cells #[.int .i64 x] 3)).drew := ((Below.refl base w).alloc (by omega) _).drew
    exact ⟨rfl, _, hp.1, hb.trans hp.2⟩
end Go.Proofs.Ytkceigigdklaoaa
