/-
  The list of numbers behind a pointer (Boxed): its copy, and what moving up, moving down and exchanging make of it. Conditions: the places lie in the list, which is far shorter than the bounds of the model.
-/
import Derived.Test.YtkceigigdklaoaaMem
import Derived.Test.YtkceigigdklaoaaUp
import Derived.Test.YtkceigigdklaoaaDown
import Derived.Deep.RegionLaw
namespace Go.Proofs.Ytkceigigdklaoaa
open Go.RowKit Go.Sort

/-- The variable at block p holds the slice v, which reads as d and is the call's own. -/
structure Boxed (w : World) (base p : Nat) (v : Value) (d : Array Int) : Prop where
  le : base ≤ p
  lt : p < w.heap.size
  own : Own w base v d
  cell : w.cell? ⟨p, 0, none⟩ = some v
  free : w.frozen? ⟨p, 0, none⟩ = false
  ne : v.ownBlock ≠ some p

set_option maxHeartbeats 400000 in
theorem clone_any (v : Value) (d : Array Int) (w : World) (hr : Rd w v d) (hs : d.size ≤ 1099511627776) :
    Calls Try.prog 41 #[v] w fun e w' => ∃ p v', e = .returned (.pointer (some ⟨p, 0, none⟩)) ∧ Boxed w' w.heap.size p v' d ∧ Below w.heap.size w w' := by
  go_enter Try.func41, Try.ntmps41
  go_wp2_with (at_builtin; refine wpList_app _ rfl _ _ 44 22 rfl Try.underlying44 Try.underlying22 w.heap.size (.slice none 0 0) v #[] d d d.size rfl rfl (World.ownsRow_nil w _ _ _) hr (by simp; omega) (Nat.le_refl _) Array.empty_append rfl ?_; intro A c w1 hown hg hb)
  go_ret
  have hbel : Below w.heap.size w w1 := (Below.refl _ _).grown hg (Nat.le_refl _) (by simp [Value.ownBlock])
  refine ⟨w1.heap.size, .slice A d.size c, rfl, ⟨hbel.size, by simp, hown.alloc _, by simp, by simp, fun hk => ?_⟩, hbel.alloc hbel.size _⟩
  have := (hown.lt _ hk).2
  omega
theorem below_putRow (B : Nat) (w : World) (g q : Nat) (d : Array Int) (hg : B ≤ g) : Below B w ((putRow (Value.int .i64) w g 0 d).drewN q) :=
  ⟨rfl, rfl, rfl, by show _ ≤ (putRow (Value.int .i64) w g 0 d).heap.size; rw [size_putRow]; exact Nat.le_refl _, fun k hk => by
    show (mapBlock w g _).heap[k]? = _
    simp only [mapBlock, Array.getElem?_modify]
    rw [if_neg (by omega)]⟩

theorem Boxed.open_ {w : World} {base p : Nat} {v : Value} {d : Array Int} (h : Boxed w base p v d) (h0 : 0 < d.size) :
    ∃ g cap, v = .slice (some ⟨g, 0, none⟩) d.size cap ∧ base ≤ g ∧ g ≠ p ∧ w.cell? ⟨p, 0, none⟩ = some (.slice (some ⟨g, 0, none⟩) d.size cap) ∧ Holds (Value.int .i64) w g 0 d ∧
      ∀ d' q, d'.size = d.size → Boxed ((putRow (Value.int .i64) w g 0 d').drewN q) base p v d' ∧ Below base w ((putRow (Value.int .i64) w g 0 d').drewN q) := by
  obtain ⟨g, cap, cur, rfl, hb, _, _, _, hH⟩ := h.own.form h0
  have hgp : g ≠ p := fun e => h.ne (by rw [e]; rfl)
  refine ⟨g, cap, rfl, hb, hgp, h.cell, hH, fun d' q hs => ⟨⟨h.le, ?_, ?_, ?_, ?_, h.ne⟩, below_putRow base w g q d' hb⟩⟩
  · show p < (putRow (Value.int .i64) w g 0 d').heap.size
    rw [size_putRow]; exact h.lt
  · have := Own.put (q := q) h.own hs
    rw [hs] at this; exact this
  · exact (cell?_putRow_other _ w g 0 d' ⟨p, 0, none⟩ (.inl fun e => hgp e.symm)).trans h.cell
  · exact (frozen?_putRow (Value.int .i64) w g 0 d' ⟨p, 0, none⟩).trans h.free

theorem up_box (base p j : Nat) (v : Value) (d : Array Int) (w : World) (h : Boxed w base p v d) (hj : j < d.size) (hs : d.size ≤ 1099511627776) :
    Calls Try.prog 42 #[.iface 41 (.pointer (some ⟨p, 0, none⟩)), .int .i64 j] w fun e w' => e = .returned (.tuple #[]) ∧ Boxed w' base p v (upA d j) ∧ Below base w w' := by
  obtain ⟨g, cap, rfl, hb, hgp, hc, hH, hput⟩ := h.open_ (by omega)
  refine (up_any ⟨p, 0, none⟩ g cap j d w hc (fun e => hgp e.symm) hH hj hs).mono ?_
  rintro e w' ⟨rfl, n, rfl⟩
  exact ⟨rfl, hput _ _ (upA_size d j hj)⟩

theorem downA_size' (d : Array Int) (i n : Nat) (hn : n ≤ d.size) : (downA d i n).1.size = d.size := by
  by_cases hi : i < n
  · exact downA_size d i n hi hn
  · rw [downA_stop d i n (by omega)]

theorem down_box (base p i n : Nat) (v : Value) (d : Array Int) (w : World) (h : Boxed w base p v d) (h0 : 0 < d.size) (hn : n ≤ d.size) (hi : i ≤ d.size) (hs : d.size ≤ 1099511627776) :
    Calls Try.prog 44 #[.iface 41 (.pointer (some ⟨p, 0, none⟩)), .int .i64 i, .int .i64 n] w fun e w' =>
      e = .returned (.bool (decide (i < (downA d i n).2))) ∧ Boxed w' base p v (downA d i n).1 ∧ Below base w w' := by
  obtain ⟨g, cap, rfl, hb, hgp, hc, hH, hput⟩ := h.open_ h0
  refine (down_any ⟨p, 0, none⟩ g cap i n d w hc (fun e => hgp e.symm) hH hn hi hs).mono ?_
  rintro e w' ⟨rfl, q, rfl⟩
  exact ⟨rfl, hput _ _ (downA_size' d i n hn)⟩

theorem swap_box (base p i j g cap : Nat) (d : Array Int) (w : World) (h : Boxed w base p (.slice (some ⟨g, 0, none⟩) d.size cap) d) (hi : i < d.size) (hj : j < d.size) :
    Calls Try.prog 87 #[.slice (some ⟨g, 0, none⟩) d.size cap, .int .i64 i, .int .i64 j] w fun e w' => e = .returned (.tuple #[]) ∧ Boxed w' base p (.slice (some ⟨g, 0, none⟩) d.size cap) (swp d i j) ∧ Below base w w' := by
  obtain ⟨g', cap', e, hb, hgp, hc, hH, hput⟩ := h.open_ (by omega)
  cases e
  by_cases hij : i = j
  · subst hij
    refine (swap_same g cap i d w hH hi).mono ?_
    rintro e w' ⟨rfl, n, rfl⟩
    exact ⟨rfl, hput _ _ (size_swp d i i)⟩
  · refine (swap_any g cap i j d w hH hi hj hij).mono ?_
    rintro e w' ⟨rfl, n, rfl⟩
    exact ⟨rfl, hput _ _ (size_swp d i j)⟩

end Go.Proofs.Ytkceigigdklaoaa
