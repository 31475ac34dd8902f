/-
  What a heap becomes: pushed onto, its least element taken, an element taken, another number put in a place; the plain laws, with no program in sight.
-/
import Derived.Test.YtkceigigdklaoaaPkgb
namespace Go.Proofs.Ytkceigigdklaoaa
open Go.RowKit Go.Sort

theorem getElem!_push_lt (d : Array Int) (x : Int) (k : Nat) (h : k < d.size) : (d.push x)[k]! = d[k]! := by
  rw [getElem!_pos (d.push x) k (by simp; omega), getElem!_pos d k h, Array.getElem_push_lt h]

theorem push_heap (d : Array Int) (x : Int) (h : HeapA d d.size) : HeapA (pushA d x) (d.size + 1) := by
  unfold pushA
  refine up_edges (d.size + 1) d.size (d.push x) (by omega) (by simp) (fun k a b e => ?_) (fun a k b e f => by omega)
  unfold Edge
  rw [getElem!_push_lt d x k (by omega), getElem!_push_lt d x _ (by omega)]
  exact h k a (by omega)

theorem pushA_size (d : Array Int) (x : Int) : (pushA d x).size = d.size + 1 := by
  unfold pushA; rw [upA_size _ _ (by simp)]; simp
theorem pushA_perm (d : Array Int) (x : Int) : (pushA d x).Perm (d.push x) := by
  unfold pushA; exact upA_perm _ _ (by simp)

/-- Fix, over the first n: at i alone the order may be wrong, and the one above i is not greater than those below it. -/
theorem fix_edges (d : Array Int) (i n : Nat) (hi : i < n) (hn : n ≤ d.size)
    (hE : ∀ k, 1 ≤ k → k < n → (k - 1) / 2 ≠ i → k ≠ i → Edge d k)
    (hG : 1 ≤ i → ∀ k, 1 ≤ k → k < n → (k - 1) / 2 = i → d[(i - 1) / 2]! ≤ d[k]!) : HeapA (fixA d i n) n := by
  obtain ⟨A, B⟩ := down_edges (fun _ => True) (fun _ _ _ => trivial) _ d i n (Nat.le_refl _) hi hn (fun _ _ _ => trivial) (fun k a b _ e f => hE k a b e f) (fun _ a k b e f => hG a k b e f)
  have hall := downA_all _ d i n (Nat.le_refl _) hi hn
  unfold fixA
  by_cases hm : i < (downA d i n).2
  · rw [if_pos hm]
    intro k a b
    by_cases e : k = i
    · subst e; exact B trivial a (.inl hm)
    · exact A k a b trivial e
  · rw [if_neg hm]
    have hd : (downA d i n).1 = d := hall.2.2.2.2.2 (by have := hall.2.2.1; omega)
    rw [hd] at A ⊢
    exact up_edges n i d hi hn (fun k a b e => A k a b trivial e) hG

theorem fixA_perm (d : Array Int) (i n : Nat) (hi : i < n) (hn : n ≤ d.size) : (fixA d i n).Perm d := by
  unfold fixA
  split
  · exact downA_perm d i n hi hn
  · exact (upA_perm _ i (by rw [downA_size d i n hi hn]; omega)).trans (downA_perm d i n hi hn)
theorem fixA_far (d : Array Int) (i n : Nat) (hi : i < n) (hn : n ≤ d.size) (k : Nat) (hk : n ≤ k) : (fixA d i n)[k]! = d[k]! := by
  have h1 := (downA_all _ d i n (Nat.le_refl _) hi hn).2.1 k (.inr hk)
  unfold fixA
  split
  · exact h1
  · rw [(upA_all _ i (by rw [downA_size d i n hi hn]; omega)).2 k (by omega)]; exact h1

/-- Another number at a place of a heap. -/
theorem set_fix (d : Array Int) (i : Nat) (x : Int) (h : HeapA d d.size) (hi : i < d.size) : HeapA (fixA (d.setIfInBounds i x) i d.size) d.size := by
  refine fix_edges _ i d.size hi (by simp) (fun k a b e f => ?_) (fun a k b e f => ?_)
  · unfold Edge
    rw [getElem!_set_other d i k x f, getElem!_set_other d i _ x e]; exact h k a b
  · rw [getElem!_set_other d i k x (by omega), getElem!_set_other d i _ x (by omega)]
    have h1 := h i a hi
    have h2 := h k b e
    unfold Edge at h1 h2
    rw [f] at h2; omega

/-- The last one put in the place of another, over those ahead of it. -/
theorem swap_fix (d : Array Int) (i : Nat) (h : HeapA d d.size) (hi : i < d.size - 1) : HeapA (fixA (swp d i (d.size - 1)) i (d.size - 1)) (d.size - 1) := by
  refine fix_edges _ i (d.size - 1) hi (by rw [size_swp]; omega) (fun k a b e f => ?_) (fun a k b e f => ?_)
  · unfold Edge
    rw [swp_other d _ _ k f (by omega), swp_other d _ _ _ e (by omega)]; exact h k a (by omega)
  · rw [swp_other d _ _ k (by omega) (by omega), swp_other d _ _ _ (by omega) (by omega)]
    have h1 := h i a (by omega)
    have h2 := h k b (by omega)
    unfold Edge at h1 h2
    rw [f] at h2; omega

theorem heap_pop (e : Array Int) (n : Nat) (h : HeapA e n) (hn : n + 1 = e.size) : HeapA e.pop n := by
  intro k a b
  unfold Edge
  rw [getElem!_pop e k (by omega), getElem!_pop e _ (by omega)]; exact h k a b

theorem push_pop (e : Array Int) (h : 0 < e.size) : e.pop.push e[e.size - 1]! = e := by
  apply Array.ext
  · simp; omega
  · intro k h1 h2
    rw [Array.getElem_push]
    split
    · rw [Array.getElem_pop]
    · simp at h1
      rw [← getElem!_pos e k h2]
      congr 1
      rename_i hh
      simp at hh
      omega

theorem removeA_perm (d : Array Int) (i : Nat) (hi : i < d.size) : (removeA d i).Perm d := by
  unfold removeA
  split
  · exact Array.Perm.rfl
  · exact (fixA_perm _ _ _ (by omega) (by rw [size_swp]; omega)).trans (swp_perm d _ _ hi (by omega))
theorem removeA_last (d : Array Int) (i : Nat) (hi : i < d.size) : (removeA d i)[d.size - 1]! = d[i]! := by
  unfold removeA
  split
  · rename_i h; rw [h]
  · rw [fixA_far _ _ _ (by omega) (by rw [size_swp]; omega) _ (Nat.le_refl _), swp_right d _ _ (by omega)]
theorem remove_heap (d : Array Int) (i : Nat) (h : HeapA d d.size) (hi : i < d.size) : HeapA (removeA d i).pop (d.size - 1) := by
  refine heap_pop _ _ ?_ (by rw [removeA_size d i hi]; omega)
  unfold removeA
  split
  · intro k a b; exact h k a (by omega)
  · exact swap_fix d i h (by omega)
theorem remove_push (d : Array Int) (i : Nat) (hi : i < d.size) : ((removeA d i).pop.push d[i]!).Perm d := by
  have h := push_pop (removeA d i) (by rw [removeA_size d i hi]; omega)
  rw [removeA_size d i hi, removeA_last d i hi] at h
  rw [h]; exact removeA_perm d i hi

/-- Of any list a heap. -/
theorem initA_spec (n : Nat) : ∀ (k : Nat) (d : Array Int), n = d.size → k ≤ n / 2 → (∀ j, 1 ≤ j → j < n → k ≤ (j - 1) / 2 → Edge d j) → HeapA (initA n k d) n ∧ (initA n k d).Perm d := by
  intro k
  induction k with
  | zero => intro d _ _ h; exact ⟨fun j a b => h j a b (Nat.zero_le _), Array.Perm.rfl⟩
  | succ k ih =>
    intro d hn hk h
    rw [initA]
    obtain ⟨A, B⟩ := down_edges (fun j => k ≤ (j - 1) / 2) (fun j a b => by omega) _ d k n (Nat.le_refl _) (by omega) (by omega) (fun j a b => by omega)
      (fun j a b c e f => h j a b (by omega)) (fun a b => by omega)
    obtain ⟨C, D⟩ := ih (downA d k n).1 (by rw [downA_size d k n (by omega) (by omega)]; exact hn) (by omega) (fun j a b c => A j a b c (by omega))
    exact ⟨C, D.trans (downA_perm d k n (by omega) (by omega))⟩
theorem init_heap (d : Array Int) : HeapA (initA d.size (d.size / 2) d) d.size ∧ (initA d.size (d.size / 2) d).Perm d :=
  initA_spec d.size (d.size / 2) d rfl (Nat.le_refl _) (fun j a b c => by omega)

end Go.Proofs.Ytkceigigdklaoaa
