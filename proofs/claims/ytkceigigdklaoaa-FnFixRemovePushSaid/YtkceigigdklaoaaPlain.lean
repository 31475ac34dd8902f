/-
  The plain law, with no program in sight: an element that moves up or down in an array of numbers as container/heap moves it ('upA', 'downA'), and when the array is a heap behind it.
-/
import Derived.Sort.Lot0
namespace Go.Proofs.Ytkceigigdklaoaa
open Go.Sort

/-- The element at j moves up as long as it is less than the one above; f: as many steps at most. -/
def upF : Nat → Nat → Array Int → Array Int
  | 0, _, d => d
  | f + 1, j, d => if 0 < j ∧ d[j]! < d[(j - 1) / 2]! then upF f ((j - 1) / 2) (swp d ((j - 1) / 2) j) else d

/-- The element at j moves up as long as it is less than the one above. -/
def upA (d : Array Int) (j : Nat) : Array Int := upF j j d

theorem upF_zero (f : Nat) (d : Array Int) : upF f 0 d = d := by
  cases f with
  | zero => rfl
  | succ f => rw [upF, if_neg (by omega)]
theorem upF_fuel (f : Nat) : ∀ (g j : Nat) (d : Array Int), j ≤ f → j ≤ g → upF f j d = upF g j d := by
  induction f with
  | zero =>
    intro g j d h _
    obtain rfl : j = 0 := by omega
    rw [upF_zero, upF_zero]
  | succ f ih =>
    intro g j d h1 h2
    cases g with
    | zero =>
      obtain rfl : j = 0 := by omega
      rw [upF_zero, upF_zero]
    | succ g =>
      rw [upF, upF]
      split
      · exact ih g _ _ (by omega) (by omega)
      · rfl

/-- The lesser one of those right below i, the first one if they are equal. -/
def kidA (d : Array Int) (i n : Nat) : Nat := if 2 * i + 2 < n ∧ d[2 * i + 2]! < d[2 * i + 1]! then 2 * i + 2 else 2 * i + 1

theorem kidA_bd (d : Array Int) (i n : Nat) (h : 2 * i + 1 < n) : i < kidA d i n ∧ kidA d i n < n ∧ (kidA d i n = 2 * i + 1 ∨ kidA d i n = 2 * i + 2) := by
  unfold kidA; split <;> omega

/-- The element at i moves down among the first n: the array behind, and where it stands; f: as many steps at most. -/
def downF (n : Nat) : Nat → Nat → Array Int → Array Int × Nat
  | 0, i, d => (d, i)
  | f + 1, i, d => if 2 * i + 1 < n ∧ d[kidA d i n]! < d[i]! then downF n f (kidA d i n) (swp d i (kidA d i n)) else (d, i)

/-- The element at i moves down among the first n: the array behind, and where it stands. -/
def downA (d : Array Int) (i n : Nat) : Array Int × Nat := downF n (n - i) i d

theorem downF_end (n f i : Nat) (d : Array Int) (h : n ≤ i) : downF n f i d = (d, i) := by
  cases f with
  | zero => rfl
  | succ f => rw [downF, if_neg (by omega)]
theorem downF_fuel (n f : Nat) : ∀ (g i : Nat) (d : Array Int), n - i ≤ f → n - i ≤ g → downF n f i d = downF n g i d := by
  induction f with
  | zero =>
    intro g i d h _
    rw [downF_end n 0 i d (by omega), downF_end n g i d (by omega)]
  | succ f ih =>
    intro g i d h1 h2
    cases g with
    | zero => rw [downF_end n 0 i d (by omega), downF_end n (f + 1) i d (by omega)]
    | succ g =>
      rw [downF, downF]
      split
      · rename_i hh
        obtain ⟨k1, _, _⟩ := kidA_bd d i n hh.1
        exact ih g _ _ (by omega) (by omega)
      · rfl

theorem upA_go (d : Array Int) (j : Nat) (h0 : 0 < j) (h : d[j]! < d[(j - 1) / 2]!) : upA d j = upA (swp d ((j - 1) / 2) j) ((j - 1) / 2) := by
  obtain ⟨f, hf⟩ : ∃ f, j = f + 1 := ⟨j - 1, by omega⟩
  have e : upF j j d = upF (f + 1) j d := upF_fuel _ _ _ _ (Nat.le_refl _) (by omega)
  unfold upA
  rw [e, upF, if_pos ⟨h0, h⟩]
  exact upF_fuel _ _ _ _ (by omega) (Nat.le_refl _)
theorem upA_stop (d : Array Int) (j : Nat) (h : ¬ (0 < j ∧ d[j]! < d[(j - 1) / 2]!)) : upA d j = d := by
  unfold upA
  rw [upF_fuel j (j + 1) j d (Nat.le_refl _) (by omega), upF, if_neg h]
theorem downA_go (d : Array Int) (i n : Nat) (h0 : 2 * i + 1 < n) (h : d[kidA d i n]! < d[i]!) : downA d i n = downA (swp d i (kidA d i n)) (kidA d i n) n := by
  obtain ⟨f, hf⟩ : ∃ f, n - i = f + 1 := ⟨n - i - 1, by omega⟩
  obtain ⟨k1, _, _⟩ := kidA_bd d i n h0
  unfold downA
  rw [hf, downF, if_pos ⟨h0, h⟩]
  exact downF_fuel _ _ _ _ _ (by omega) (Nat.le_refl _)
theorem downA_stop (d : Array Int) (i n : Nat) (h : ¬ (2 * i + 1 < n ∧ d[kidA d i n]! < d[i]!)) : downA d i n = (d, i) := by
  unfold downA
  rw [downF_fuel n (n - i) (n - i + 1) i d (Nat.le_refl _) (by omega), downF, if_neg h]

/-! ### Sizes, permutations, what is left alone -/
theorem swp_perm (d : Array Int) (i j : Nat) (hi : i < d.size) (hj : j < d.size) : (swp d i j).Perm d := by
  have e : swp d i j = d.swap i j hi hj := by
    apply Array.ext
    · simp [size_swp]
    · intro k h1 h2
      have hk : k < d.size := by simpa [size_swp] using h1
      rw [← getElem!_pos (swp d i j) k h1, Array.getElem_swap]
      by_cases a : k = i
      · subst a
        by_cases b : k = j
        · subst b; rw [swp_right d k k hi, if_pos rfl, getElem!_pos d k hi]
        · rw [swp_left d k j hi b, if_pos rfl, getElem!_pos d j hj]
      · by_cases b : k = j
        · subst b; rw [swp_right d i k hj, if_neg a, if_pos rfl, getElem!_pos d i hi]
        · rw [swp_other d i j k a b, if_neg a, if_neg b, getElem!_pos d k hk]
  rw [e]; exact Array.swap_perm hi hj

theorem upA_all (d : Array Int) (j : Nat) (hj : j < d.size) : (upA d j).Perm d ∧ (∀ k, j < k → (upA d j)[k]! = d[k]!) := by
  induction j using Nat.strongRecOn generalizing d with
  | ind j ih =>
    by_cases h : 0 < j ∧ d[j]! < d[(j - 1) / 2]!
    · rw [upA_go d j h.1 h.2]
      have hp : (j - 1) / 2 < j := by omega
      obtain ⟨a, b⟩ := ih _ hp (swp d ((j - 1) / 2) j) (by rw [size_swp]; omega)
      refine ⟨a.trans (swp_perm d _ _ (by omega) hj), fun k hk => ?_⟩
      rw [b k (by omega), swp_other d _ _ k (by omega) (by omega)]
    · rw [upA_stop d j h]; exact ⟨Array.Perm.rfl, fun _ _ => rfl⟩

theorem downA_all (m : Nat) : ∀ (d : Array Int) (i n : Nat), n - i ≤ m → i < n → n ≤ d.size →
    (downA d i n).1.Perm d ∧ (∀ k, k < i ∨ n ≤ k → (downA d i n).1[k]! = d[k]!) ∧ i ≤ (downA d i n).2 ∧ (downA d i n).2 < n ∧ (i < (downA d i n).2 → (downA d i n).1[i]! < d[i]!) ∧ ((downA d i n).2 = i → (downA d i n).1 = d) := by
  induction m with
  | zero => intro d i n h1 h2; omega
  | succ m ih =>
    intro d i n hm hi hn
    by_cases h : 2 * i + 1 < n ∧ d[kidA d i n]! < d[i]!
    · rw [downA_go d i n h.1 h.2]
      obtain ⟨k1, k2, k3⟩ := kidA_bd d i n h.1
      obtain ⟨a, b, c, e, _⟩ := ih (swp d i (kidA d i n)) (kidA d i n) n (by omega) k2 (by rw [size_swp]; exact hn)
      refine ⟨a.trans (swp_perm d _ _ (by omega) (by omega)), fun k hk => ?_, by omega, e, fun _ => ?_, fun _ => by omega⟩
      · rw [b k (by omega), swp_other d _ _ k (by omega) (by omega)]
      · rw [b i (by omega), swp_left d _ _ (by omega) (by omega)]; exact h.2
    · rw [downA_stop d i n h]; exact ⟨Array.Perm.rfl, fun _ _ => rfl, Nat.le_refl _, hi, fun hh => absurd hh (Nat.lt_irrefl _), fun _ => rfl⟩

theorem upA_perm (d : Array Int) (j : Nat) (hj : j < d.size) : (upA d j).Perm d := (upA_all d j hj).1
theorem upA_size (d : Array Int) (j : Nat) (hj : j < d.size) : (upA d j).size = d.size := (upA_perm d j hj).size_eq
theorem downA_perm (d : Array Int) (i n : Nat) (hi : i < n) (hn : n ≤ d.size) : (downA d i n).1.Perm d := (downA_all _ d i n (Nat.le_refl _) hi hn).1
theorem downA_size (d : Array Int) (i n : Nat) (hi : i < n) (hn : n ≤ d.size) : (downA d i n).1.size = d.size := (downA_perm d i n hi hn).size_eq

/-! ### Edges -/
/-- The element at k is not less than the one above it. -/
def Edge (d : Array Int) (k : Nat) : Prop := d[(k - 1) / 2]! ≤ d[k]!

/-- The first n are a heap. -/
def HeapA (d : Array Int) (n : Nat) : Prop := ∀ k, 1 ≤ k → k < n → Edge d k

theorem edge_swp_other (d : Array Int) (i j k : Nat) (h1 : k ≠ i) (h2 : k ≠ j) (h3 : (k - 1) / 2 ≠ i) (h4 : (k - 1) / 2 ≠ j) (h : Edge d k) : Edge (swp d i j) k := by
  unfold Edge at *
  rw [swp_other d i j k h1 h2, swp_other d i j _ h3 h4]; exact h

/-- WHAT MOVING DOWN MAKES. Q: the edges that are spoken of: with an edge those below it, and those right below i. -/
theorem down_edges (Q : Nat → Prop) (hQ : ∀ k, 1 ≤ k → Q ((k - 1) / 2) → Q k) (m : Nat) : ∀ (d : Array Int) (i n : Nat), n - i ≤ m → i < n → n ≤ d.size →
    (∀ k, 1 ≤ k → (k - 1) / 2 = i → Q k) →
    (∀ k, 1 ≤ k → k < n → Q k → (k - 1) / 2 ≠ i → k ≠ i → Edge d k) →
    (Q i → 1 ≤ i → ∀ k, 1 ≤ k → k < n → (k - 1) / 2 = i → d[(i - 1) / 2]! ≤ d[k]!) →
    (∀ k, 1 ≤ k → k < n → Q k → k ≠ i → Edge (downA d i n).1 k) ∧ (Q i → 1 ≤ i → (i < (downA d i n).2 ∨ Edge d i) → Edge (downA d i n).1 i) := by
  induction m with
  | zero => intro d i n h1 h2; omega
  | succ m ih =>
    intro d i n hm hi hn hqi hE hG
    by_cases h : 2 * i + 1 < n ∧ d[kidA d i n]! < d[i]!
    · obtain ⟨k1, k2, k3⟩ := kidA_bd d i n h.1
      rw [downA_go d i n h.1 h.2]
      have hmin : ∀ k, 1 ≤ k → k < n → (k - 1) / 2 = i → d[kidA d i n]! ≤ d[k]! := by
        intro k a b c
        have : k = 2 * i + 1 ∨ k = 2 * i + 2 := by omega
        unfold kidA
        rcases this with rfl | rfl <;> split <;> omega
      have hlt := h.2
      generalize hj : kidA d i n = j at *
      have pj : (j - 1) / 2 = i := by omega
      have e1 : (swp d i j)[i]! = d[j]! := swp_left d i j (by omega) (by omega)
      have e2 : (swp d i j)[j]! = d[i]! := swp_right d i j (by omega)
      have qj : Q j := hqi j (by omega) pj
      obtain ⟨A, B⟩ := ih (swp d i j) j n (by omega) k2 (by rw [size_swp]; exact hn) (fun k a b => hQ k a (by rw [b]; exact qj))
        (fun k a b c e f => by
          by_cases hp : (k - 1) / 2 = i
          · have ki : k ≠ i := by omega
            unfold Edge; rw [hp, e1, swp_other d i j k ki f]; exact hmin k a b hp
          · by_cases hk : k = i
            · subst hk
              unfold Edge; rw [e1, swp_other d k j _ (by omega) (by omega)]
              exact hG c a j (by omega) k2 pj
            · exact edge_swp_other d i j k hk f hp e (hE k a b c hp hk))
        (fun _ _ k a b c => by
          rw [pj, e1, swp_other d i j k (by omega) (by omega)]
          have := hE k a b (hQ k a (by rw [c]; exact qj)) (by omega) (by omega)
          unfold Edge at this; rw [c] at this; exact this)
      have Ej : Edge (swp d i j) j := by unfold Edge; rw [pj, e1, e2]; omega
      refine ⟨fun k a b c e => ?_, fun c a _ => A i a hi c (by omega)⟩
      by_cases hk : k = j
      · subst hk; exact B c a (.inr Ej)
      · exact A k a b c hk
    · rw [downA_stop d i n h]
      refine ⟨fun k a b c e => ?_, fun _ _ hh => hh.elim (fun x => absurd x (Nat.lt_irrefl _)) id⟩
      by_cases hp : (k - 1) / 2 = i
      · have hk : k = 2 * i + 1 ∨ k = 2 * i + 2 := by omega
        have h' : ¬ d[kidA d i n]! < d[i]! := fun x => h ⟨by omega, x⟩
        unfold Edge; rw [hp]
        show d[i]! ≤ d[k]!
        unfold kidA at h'
        split at h' <;> rcases hk with rfl | rfl <;> omega
      · exact hE k a b c hp e

/-- WHAT MOVING UP MAKES. -/
theorem up_edges (n : Nat) : ∀ (j : Nat) (d : Array Int), j < n → n ≤ d.size →
    (∀ k, 1 ≤ k → k < n → k ≠ j → Edge d k) →
    (1 ≤ j → ∀ k, 1 ≤ k → k < n → (k - 1) / 2 = j → d[(j - 1) / 2]! ≤ d[k]!) →
    HeapA (upA d j) n := by
  intro j
  induction j using Nat.strongRecOn with
  | ind j ih =>
    intro d hj hn hE hG
    by_cases h : 0 < j ∧ d[j]! < d[(j - 1) / 2]!
    · rw [upA_go d j h.1 h.2]
      have hlt := h.2
      generalize hi : (j - 1) / 2 = i at *
      have hij : i < j := by omega
      have e1 : (swp d i j)[i]! = d[j]! := swp_left d i j (by omega) (by omega)
      have e2 : (swp d i j)[j]! = d[i]! := swp_right d i j (by omega)
      refine ih i hij _ (by omega) (by rw [size_swp]; exact hn) (fun k a b c => ?_) (fun a k a' b c => ?_)
      · by_cases kj : k = j
        · subst kj; unfold Edge; rw [hi, e1, e2]; omega
        · by_cases p1 : (k - 1) / 2 = i
          · have := hE k a b kj
            unfold Edge at *; rw [p1] at *; rw [e1, swp_other d i j k c kj]; omega
          · by_cases p2 : (k - 1) / 2 = j
            · unfold Edge; rw [p2, e2, swp_other d i j k c kj]; exact hG (by omega) k a b p2
            · exact edge_swp_other d i j k c kj p1 p2 (hE k a b kj)
      · have hEi : d[(i - 1) / 2]! ≤ d[i]! := hE i a (by omega) (by omega)
        rw [swp_other d i j _ (by omega) (by omega)]
        by_cases kj : k = j
        · subst kj; rw [e2]; exact hEi
        · rw [swp_other d i j k (by omega) kj]
          have := hE k a' b kj
          unfold Edge at this; rw [c] at this; omega
    · rw [upA_stop d j h]
      intro k a b
      by_cases kj : k = j
      · subst kj; unfold Edge; have : ¬ d[k]! < d[(k - 1) / 2]! := fun x => h ⟨by omega, x⟩; omega
      · exact hE k a b kj

theorem HeapA.root {d : Array Int} {n : Nat} (h : HeapA d n) : ∀ k, k < n → d[0]! ≤ d[k]! := by
  intro k
  induction k using Nat.strongRecOn with
  | ind k ih =>
    intro hk
    by_cases h0 : k = 0
    · subst h0; exact Int.le_refl _
    · have a := h k (by omega) hk
      have b := ih ((k - 1) / 2) (by omega) (by omega)
      unfold Edge at a; omega

/-- In a heap no element moves down. -/
theorem downA_heap (d : Array Int) (i n : Nat) (h : HeapA d n) : downA d i n = (d, i) := by
  refine downA_stop d i n fun hh => ?_
  obtain ⟨k1, k2, k3⟩ := kidA_bd d i n hh.1
  have := h (kidA d i n) (by omega) k2
  unfold Edge at this
  rw [show (kidA d i n - 1) / 2 = i by omega] at this
  omega

end Go.Proofs.Ytkceigigdklaoaa
