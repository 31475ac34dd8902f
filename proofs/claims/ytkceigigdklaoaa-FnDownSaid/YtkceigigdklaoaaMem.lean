/-
  The words for memory: a slice of numbers that reads as an array ('Rd'), one that the call owns ('Own'), and append onto an owned one. Conditions: the lengths together stay far below the model's bounds.
-/
import Derived.Test.YtkceigigdklaoaaMeths
import Derived.Maps.AppendAt
import Derived.Sort.OwnSortedInts
namespace Go.Proofs.Ytkceigigdklaoaa
open Go.RowKit Go.Sort

/-- The numbers as cells. -/
def nums (d : Array Int) : List Value := d.toList.map (Value.int .i64)

theorem nums_length (d : Array Int) : (nums d).length = d.size := by simp [nums]
theorem nums_get (d : Array Int) (j : Nat) (u : Value) : (nums d)[j]? = some u ↔ j < d.size ∧ u = .int .i64 d[j]! := by
  unfold nums
  rw [List.getElem?_map]
  by_cases h : j < d.size
  · rw [Array.getElem?_toList, Array.getElem?_eq_getElem h, getElem!_pos d j h]
    simp [h, eq_comm]
  · rw [Array.getElem?_toList, Array.getElem?_eq_none (by omega)]
    simp [h]
theorem nums_append (a b : Array Int) : nums (a ++ b) = nums a ++ nums b := by simp [nums]
theorem nums_one (d : Array Int) : ∀ u ∈ nums d, u.oneCell' = true := by
  intro u hu
  simp only [nums, List.mem_map] at hu
  obtain ⟨x, _, rfl⟩ := hu
  rfl

/-- The slice value v reads as d. -/
def Rd (w : World) (v : Value) (d : Array Int) : Prop :=
  ∃ A c, v = .slice A d.size c ∧ d.size ≤ c ∧ c ≤ maxLen ∧ (0 < d.size → ∃ b o, A = some ⟨b, o, none⟩ ∧ b < w.heap.size ∧ ∀ j, j < d.size → w.cell? ⟨b, o + j, none⟩ = some (.int .i64 d[j]!))

/-- The slice value v reads as d, and the call owns it. -/
def Own (w : World) (base : Nat) (v : Value) (d : Array Int) : Prop := w.ownsRow base 3 1 v d.size (nums d)

theorem Rd.below {w w' : World} {v : Value} {d : Array Int} (h : Rd w v d) (hb : Below w.heap.size w w') : Rd w' v d := by
  obtain ⟨A, c, hv, h1, h2, h3⟩ := h
  refine ⟨A, c, hv, h1, h2, fun h0 => ?_⟩
  obtain ⟨b, o, ha, hlt, hc⟩ := h3 h0
  exact ⟨b, o, ha, Nat.lt_of_lt_of_le hlt hb.size, fun j hj => (hb.cell (p := ⟨b, o + j, none⟩) hlt).trans (hc j hj)⟩
theorem Rd.drewN {w : World} {v : Value} {d : Array Int} (h : Rd w v d) (n : Nat) : Rd (w.drewN n) v d := h
theorem Rd.nil (w : World) : Rd w (.slice none 0 0) #[] := ⟨none, 0, rfl, Nat.le_refl _, Nat.zero_le _, fun h => absurd h (by simp)⟩

theorem Own.form {w : World} {base : Nat} {v : Value} {d : Array Int} (h : Own w base v d) (h0 : 0 < d.size) :
    ∃ g cap cur, v = .slice (some ⟨g, 0, none⟩) d.size cap ∧ base ≤ g ∧ w.heap[g]? = some (.cells cur 3 (0, 0)) ∧ d.size ≤ cap ∧ cap ≤ maxLen ∧ Holds (Value.int .i64) w g 0 d := by
  rcases h.2 with ⟨_, hn⟩ | ⟨g, cap, cur, hv, hb, hg, hc, hm, _, ht⟩
  · omega
  · refine ⟨g, cap, cur, hv, hb, hg, hc, hm, ?_⟩
    have := holds_of_blockI (ss := d.toList) hg (by simpa [nums] using ht)
    simpa using this

theorem Own.shape {w : World} {base : Nat} {v : Value} {d : Array Int} (h : Own w base v d) : ∃ A c, v = .slice A d.size c := by
  rcases h.2 with ⟨hv, hn⟩ | ⟨g, cap, cur, hv, _⟩
  · exact ⟨none, 0, by rw [hv, hn]⟩
  · exact ⟨_, cap, hv⟩

theorem Own.rd {w : World} {base : Nat} {v : Value} {d : Array Int} (h : Own w base v d) : Rd w v d := by
  rcases h.2 with ⟨hv, hn⟩ | ⟨g, cap, cur, hv, hb, hg, hc, hm, _, ht⟩
  · rw [hv]; exact ⟨none, 0, by rw [hn], by omega, Nat.zero_le _, fun h => by omega⟩
  · refine ⟨_, cap, hv, hc, hm, fun h0 => ⟨g, 0, rfl, ?_, ?_⟩⟩
    · rcases Nat.lt_or_ge g w.heap.size with hlt | hge
      · exact hlt
      · rw [Array.getElem?_eq_none hge] at hg; cases hg
    · have hH := holds_of_blockI (ss := d.toList) hg (by simpa [nums] using ht)
      intro j hj
      have := (hH j (by simpa using hj)).1
      simpa using this

/-- A row of the call's own, laid anew. -/
theorem Own.put {w : World} {base g cap q : Nat} {d d' : Array Int} (h : Own w base (.slice (some ⟨g, 0, none⟩) d.size cap) d) (hs : d'.size = d.size) :
    Own ((putRow (Value.int .i64) w g 0 d').drewN q) base (.slice (some ⟨g, 0, none⟩) d'.size cap) d' := by
  rcases h.2 with ⟨hv, _⟩ | ⟨g', cap', cur, hv, hb, hg, hc, hm, hcs, ht⟩
  · cases hv
  · injection hv with h1 h2 h3
    injection h1 with h1
    injection h1 with h1
    subst h1; subst h3
    refine ⟨by rw [nums_length]; simp, .inr ⟨g, cap, putCells (Value.int .i64) 0 d' cur, rfl, hb, ?_, by omega, hm, ?_, ?_⟩⟩
    · show (mapBlock w g _).heap[g]? = _
      simp [mapBlock, Array.getElem?_modify, hg, onCells]
    · simp [putCells, hcs]
    · have := take_putCellsI cur d'.toList (by simp; omega)
      simpa [nums] using this

theorem int_info : (Try.prog.info? 3).map (fun i => (i.zero, i.size, i.bytes)) = some (some (.int .i64 0), 1, 8) := by kernel_rfl

section
variable (w : World)

theorem append_types (t t2 ty : TypeId) (ht : Try.prog.underlying t = some (.slice 3)) (ht2 : Try.prog.underlying t2 = some (.slice 3)) (v x : Value) :
    (Builtin.append_ #[t, t2] ty #[v, x]).run Try.prog w = (Builtin.append_ #[t, t] ty #[v, x]).run Try.prog w := by
  unfold Builtin.append_
  cases v <;> simp [run_underlying ht, run_underlying ht2]

/-- append onto a row of the call's own: the source nil, empty or not. -/
theorem run_app (t t2 ty : TypeId) (ht : Try.prog.underlying t = some (.slice 3)) (ht2 : Try.prog.underlying t2 = some (.slice 3)) (base : Nat) (v x : Value) (d e : Array Int)
    (hown : Own w base v d) (hr : Rd w x e) (hs : d.size + e.size ≤ 1099511627776) (hbase : base ≤ w.heap.size) :
    ∃ v' w', (Builtin.append_ #[t, t2] ty #[v, x]).run Try.prog w = .ok v' w' ∧ Own w' base v' (d ++ e) ∧ w.grownBy w' v.ownBlock ∧ (v'.ownBlock = v.ownBlock ∨ v'.ownBlock = some w.heap.size) := by
  obtain ⟨i0, hi0, hz0, hz1, hz2⟩ := info_parts int_info
  rw [append_types w t t2 ty ht ht2 v x]
  obtain ⟨A, c, rfl, h1, h2, h3⟩ := hr
  by_cases h0 : 0 < e.size
  · obtain ⟨b, o, rfl, hlt, hc⟩ := h3 h0
    obtain ⟨v', w', hrun, q1, q2, _, q4⟩ := run_append_own_at (P := Try.prog) w base t ty 3 i0 (.int .i64 0) 1 8 ht hi0 hz0 hz1 hz2 rfl (by omega) v d.size (nums d) hown ⟨b, o, none⟩ e.size c (nums e)
      (by rw [nums_length]; omega) (fun j u hu => by
        obtain ⟨hj, rfl⟩ := (nums_get e j u).1 hu
        rw [Go.WideShapes.add_plain]; exact hc j hj) (nums_one e) (by simp only [maxLen]; omega) (by omega) hbase
    exact ⟨v', w', hrun, by unfold Own; rw [nums_append, Array.size_append]; exact q1, q2, q4⟩
  · have e0 : e = #[] := Array.eq_empty_of_size_eq_zero (by omega)
    subst e0
    refine ⟨v, w, ?_, by rw [Array.append_empty]; exact hown, World.grownBy.refl w _, .inl rfl⟩
    rcases hown.2 with ⟨rfl, hn⟩ | ⟨g, cap, cur, rfl, _, _, hnc, _⟩
    · cases A <;> simp [Builtin.append_, run_underlying ht, sizeOf, typeInfo, hi0, Builtin.lenOf, Builtin.firstCells, loadCells, loadCellsFrom]
    · cases A <;> simp [Builtin.append_, run_underlying ht, sizeOf, typeInfo, hi0, Builtin.lenOf, Builtin.firstCells, loadCells, loadCellsFrom, hnc, storeCells]

theorem wp_app {o : Oper} {a : Act} {K : Act → World → Prop} {Q : Exit → Act → World → Prop} (s x : Operand) (t t2 : TypeId)
    (ho : o.op = .call { callee := .builtin .append, args := #[s, x], argTypes := #[t, t2] })
    (ht : Try.prog.underlying t = some (.slice 3)) (ht2 : Try.prog.underlying t2 = some (.slice 3)) (base : Nat) (v y : Value) (d e f : Array Int) (n : Nat)
    (hv : a.eval s = v) (hy : a.eval x = y) (hown : Own w base v d) (hr : Rd w y e) (hs : d.size + e.size ≤ 1099511627776) (hbase : base ≤ w.heap.size) (hf : d ++ e = f) (hn : f.size = n)
    (h : ∀ A c w', Own w' base (.slice A n c) f → w.grownBy w' v.ownBlock → ((Value.slice A n c).ownBlock = v.ownBlock ∨ (Value.slice A n c).ownBlock = some w.heap.size) → K (a.put o.dst (.slice A n c)) w') : o.wp Try.prog a w K Q := by
  subst hf; subst hn
  obtain ⟨v', w', hrun, q1, q2, q3⟩ := run_app w t t2 o.type ht ht2 base v y d e hown hr hs hbase
  obtain ⟨A, c, rfl⟩ := q1.shape
  unfold Oper.wp execOp
  simp only [ho, resolve, invoke, builtin, Sem.run_bind, Sem.run_pure, Result.andThen_ok, List.map_toArray, List.map_cons, List.map_nil, hv, hy, hrun]
  exact h A c w' q1 q2 q3

/-- AT THE OPERATION, FOR THE WALK. -/
theorem wpList_app {ops : Array Oper} {rest : List Oper} {o : Oper} {a : Act} {Q : Exit → Act → World → Prop} (hgd : o.guard = none) (s x : Operand) (t t2 : TypeId)
    (ho : o.op = .call { callee := .builtin .append, args := #[s, x], argTypes := #[t, t2] })
    (ht : Try.prog.underlying t = some (.slice 3)) (ht2 : Try.prog.underlying t2 = some (.slice 3)) (base : Nat) (v y : Value) (d e f : Array Int) (n : Nat)
    (hv : a.eval s = v) (hy : a.eval x = y) (hown : Own w base v d) (hr : Rd w y e) (hs : d.size + e.size ≤ 1099511627776) (hbase : base ≤ w.heap.size) (hf : d ++ e = f) (hn : f.size = n)
    (h : ∀ A c w', Own w' base (.slice A n c) f → w.grownBy w' v.ownBlock → ((Value.slice A n c).ownBlock = v.ownBlock ∨ (Value.slice A n c).ownBlock = some w.heap.size) → wpList Try.prog ops Q rest (a.put o.dst (.slice A n c)) w') :
    wpList Try.prog ops Q (o :: rest) a w :=
  wpList_plain hgd fun _ hK => wp_app w s x t t2 ho ht ht2 base v y d e f n hv hy hown hr hs hbase hf hn fun A c w' q1 q2 q3 => hK _ _ (h A c w' q1 q2 q3)

/-- AT A STEP OF A REGION THAT DRAWS ITS ORDER. -/
theorem step_app {ops : Array Oper} {o : Oper} {a : Act} {K : Act → World → Prop} {Q : Exit → Act → World → Prop} {E : Prop} (hgd : o.guard = none) (s x : Operand) (t t2 : TypeId)
    (ho : o.op = .call { callee := .builtin .append, args := #[s, x], argTypes := #[t, t2] })
    (ht : Try.prog.underlying t = some (.slice 3)) (ht2 : Try.prog.underlying t2 = some (.slice 3)) (base : Nat) (v y : Value) (d e f : Array Int) (n : Nat)
    (hv : a.eval s = v) (hy : a.eval x = y) (hown : Own w base v d) (hr : Rd w y e) (hs : d.size + e.size ≤ 1099511627776) (hbase : base ≤ w.heap.size) (hf : d ++ e = f) (hn : f.size = n)
    (h : ∀ A c w', Own w' base (.slice A n c) f → w.grownBy w' v.ownBlock → ((Value.slice A n c).ownBlock = v.ownBlock ∨ (Value.slice A n c).ownBlock = some w.heap.size) → K (a.put o.dst (.slice A n c)) w') :
    if Region.wanted o (yielded ops a.tmps) = true then Oper.wp Try.prog o a w K Q else E := by
  have hw : Region.wanted o (yielded ops a.tmps) = true := by simp [Region.wanted, hgd]
  rw [if_pos hw]
  exact wp_app w s x t t2 ho ht ht2 base v y d e f n hv hy hown hr hs hbase hf hn h
end
end Go.Proofs.Ytkceigigdklaoaa
