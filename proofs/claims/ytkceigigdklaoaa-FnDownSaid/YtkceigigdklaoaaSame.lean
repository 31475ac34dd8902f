/-
  The walks over slices.Sort (by the shelf's contract), spec.Same at two lists with the same elements, and slices.Min. Conditions: far shorter than the bounds of the model; Min: not empty.
-/
import Derived.Test.YtkceigigdklaoaaSpec
import Derived.Test.YtkceigigdklaoaaShelf
namespace Go.Proofs.Ytkceigigdklaoaa
open Go.RowKit Go.Sort

/-- The elements in order. -/
def sortA (d : Array Int) : Array Int := (d.toList.mergeSort fun x y => decide (x ≤ y)).toArray
theorem sortA_size (d : Array Int) : (sortA d).size = d.size := by simp [sortA]
theorem sortA_perm (d : Array Int) : (sortA d).Perm d := by
  rw [Array.perm_iff_toList_perm]
  exact List.mergeSort_perm _ _
theorem sorted_eq {a b : List Int} (ha : a.Pairwise (· ≤ ·)) (hb : b.Pairwise (· ≤ ·)) (h : a.Perm b) : a = b :=
  List.Perm.eq_of_pairwise (fun _ _ _ _ h1 h2 => Int.le_antisymm h1 h2) ha hb h
theorem sortA_sorted (d : Array Int) : (sortA d).toList.Pairwise (· ≤ ·) := by
  have := List.pairwise_mergeSort (le := fun x y : Int => decide (x ≤ y)) (fun a b c h1 h2 => by simp at *; omega) (fun a b => by simp; omega) d.toList
  simpa [sortA] using this
theorem sortA_congr {a b : Array Int} (h : a.Perm b) : sortA a = sortA b := by
  apply Array.ext'
  refine sorted_eq (sortA_sorted a) (sortA_sorted b) ?_
  have := (sortA_perm a).trans (h.trans (sortA_perm b).symm)
  rwa [Array.perm_iff_toList_perm] at this

theorem sort_own (B : Nat) (v : Value) (d : Array Int) (w : World) (h : Own w B v d) (hs : d.size ≤ 1099511627776) :
    Calls Try.prog 31 #[v] w fun e w' => e = .returned (.tuple #[]) ∧ Own w' B v (sortA d) ∧ w.grownBy w' v.ownBlock := by
  by_cases h0 : d.size = 0
  · obtain ⟨A, c, rfl⟩ := h.shape
    have e0 : d = #[] := Array.eq_empty_of_size_eq_zero h0
    subst e0
    have es : sortA #[] = #[] := by simp [sortA]
    rw [es]
    refine (Try.slices_Sort_int_none A c w).mono ?_
    rintro e w' ⟨rfl, rfl⟩
    exact ⟨rfl, h, World.grownBy.refl _ _⟩
  · rcases h.2 with ⟨_, hn⟩ | ⟨g, cap, cur, rfl, hb, hg, hc, hm, hcs, ht⟩
    · omega
    · have hH := holds_of_blockI (ss := d.toList) hg (by simpa [nums] using ht)
      have hlt : g < w.heap.size := (Array.getElem?_eq_some_iff.1 hg).1
      have := Try.slices_Sort_int g 0 cap d.toList w hH hlt (by simp; omega)
      simp only [Array.length_toList] at this
      refine this.mono ?_
      rintro e w' ⟨rfl, n, os, rfl⟩
      refine ⟨rfl, ?_, grownBy_sortedI _⟩
      have ho := ownsRow_sortedI (w := w) (base := B) (g := g) (cap := cap) (n := n) (e := 3) (os := os) (cur := cur) (ss := d.toList) (ts := d.toList.mergeSort fun x y => decide (x ≤ y)) (by simp) hb hg (by simpa using hc) hm hcs
      unfold Own nums
      rw [sortA_size]
      simpa [sortA] using ho

set_option maxHeartbeats 1000000 in
theorem same_any (v1 v2 : Value) (d1 d2 : Array Int) (w : World) (h1 : Rd w v1 d1) (h2 : Rd w v2 d2) (hp : d1.Perm d2) (hs : d1.size ≤ 1099511627776) :
    Calls Try.prog 25 #[v1, v2] w fun e w' => e = .returned (.bool true) ∧ Below w.heap.size w w' := by
  have hs2 : d2.size ≤ 1099511627776 := by rw [← hp.size_eq]; exact hs
  have H1 := Lib.hid h1
  have H2 := Lib.hid h2
  have HP := Lib.hid (sortA_congr hp)
  have HZ : Hid ((sortA d2).size ≤ 1099511627776) := Lib.hid (by rw [sortA_size]; exact hs2)
  clear h1 h2 hp
  go_enter Try.func25, Try.ntmps25
  go_wp2_with fail
  refine (sclone_any v1 d1 w H1.out hs).mono ?_
  rintro e w1 ⟨a, rfl, ho1, hb1⟩
  have O1 := Lib.hid ho1
  have B1 := Lib.hid hb1
  clear ho1 hb1
  go_wp2_with fail
  refine (sclone_any v2 d2 w1 (H2.out.below B1.out) hs2).mono ?_
  rintro e w2 ⟨b, rfl, ho2, hb2⟩
  have hne : a.ownBlock = none ∨ a.ownBlock ≠ b.ownBlock := by
    cases ha : a.ownBlock with
    | none => exact .inl rfl
    | some k =>
      refine .inr fun e => ?_
      have h1 := (O1.out.lt k ha).2
      have h2 := (ho2.lt k e.symm).1
      omega
  have HN := Lib.hid hne
  have O1' := Lib.hid (own_below O1.out hb2)
  have O2 := Lib.hid ho2
  have B2 := Lib.hid (B1.out.trans (hb2.mono B1.out.size))
  have L1 := Lib.hid O1.out.lt
  have B2s := Lib.hid hb2.size
  clear ho2 hb2 hne
  go_wp2_with fail
  refine (sort_own w.heap.size a d1 w2 O1'.out hs).mono ?_
  rintro e w3 ⟨rfl, ho3, hg3⟩
  have O3 := Lib.hid ho3
  have O4 : Hid (Own w3 w1.heap.size b d2) := Lib.hid (World.ownsRow.kept O2.out hg3 (by
    rcases HN.out with e | e
    · rw [e]
      cases hbb : b.ownBlock with
      | none => exact .inl rfl
      | some k => exact .inr (by simp)
    · exact .inr fun e' => e e'.symm))
  have B3 : Hid (Below w.heap.size w w3) := Lib.hid (B2.out.grown hg3 B2.out.size (fun k hk => (L1.out k hk).1))
  clear ho3 hg3
  go_wp2_with fail
  refine (sort_own w1.heap.size b d2 w3 O4.out hs2).mono ?_
  rintro e w4 ⟨rfl, ho5, hg5⟩
  have O5 : Hid (Own w4 w.heap.size a (sortA d1)) := Lib.hid (World.ownsRow.kept O3.out hg5 HN.out)
  have O6 := Lib.hid ho5
  have B4 : Hid (Below w.heap.size w w4) := Lib.hid (B3.out.grown hg5 B3.out.size (fun k hk => Nat.le_trans B1.out.size (O4.out.lt k hk).1))
  clear ho5 hg5
  go_wp2_with fail
  refine (equal_same a b (sortA d2) w4 (by rw [← HP.out]; exact O5.out.rd) O6.out.rd HZ.out).mono ?_
  rintro e w5 ⟨rfl, n, rfl⟩
  go_wp2_with fail
  go_ret
  exact ⟨rfl, below_drewN B4.out n⟩

end Go.Proofs.Ytkceigigdklaoaa
