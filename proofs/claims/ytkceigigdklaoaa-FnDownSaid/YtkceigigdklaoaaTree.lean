/-
  The tree below a place, in plain words: which edges spec.Under asks for, and what moving down makes of them; no program in sight.
-/
import Derived.Test.YtkceigigdklaoaaPlain
namespace Go.Proofs.Ytkceigigdklaoaa
open Go.Sort

/-- spec.Under: among the first n none in the tree below i is less than the one above it, those right below i left out or not. -/
def underB (d : Array Int) (n : Nat) : Nat → Nat → Bool → Bool
  | 0, _, _ => true
  | f + 1, i, whole =>
    (decide (2 * i + 1 < n → (whole = true → d[i]! ≤ d[2 * i + 1]!) ∧ underB d n f (2 * i + 1) true = true)) &&
    (decide (2 * i + 2 < n → (whole = true → d[i]! ≤ d[2 * i + 2]!) ∧ underB d n f (2 * i + 2) true = true))

/-- k lies in the tree below i, at most f steps. -/
def lowF (i : Nat) : Nat → Nat → Prop
  | 0, _ => False
  | f + 1, k => 1 ≤ k ∧ ((k - 1) / 2 = i ∨ lowF i f ((k - 1) / 2))
/-- k lies in the tree below i. -/
def Low (i k : Nat) : Prop := ∃ f, lowF i f k

theorem Low.near {i : Nat} (k : Nat) (h1 : 1 ≤ k) (h : (k - 1) / 2 = i) : Low i k := ⟨1, h1, .inl h⟩
theorem Low.far {i : Nat} (k : Nat) (h1 : 1 ≤ k) (h : Low i ((k - 1) / 2)) : Low i k := by
  obtain ⟨f, hf⟩ := h
  exact ⟨f + 1, h1, .inr hf⟩
theorem lowF_lt (i f : Nat) : ∀ k, lowF i f k → i < k := by
  induction f with
  | zero => intro k h; exact h.elim
  | succ f ih =>
    intro k h
    rcases h.2 with e | e
    · have := h.1; omega
    · have := ih _ e; omega
theorem Low.lt {i k : Nat} (h : Low i k) : i < k := by
  obtain ⟨f, hf⟩ := h
  exact lowF_lt i f k hf

theorem low_split {i k : Nat} (h : Low i k) : (k = 2 * i + 1 ∨ k = 2 * i + 2) ∨ Low (2 * i + 1) k ∨ Low (2 * i + 2) k := by
  obtain ⟨f, hf⟩ := h
  induction f generalizing k with
  | zero => exact hf.elim
  | succ f ih =>
    obtain ⟨h1, e | e⟩ := hf
    · exact .inl (by omega)
    · rcases ih e with (e | e) | e | e
      · exact .inr (.inl (.near k h1 e))
      · exact .inr (.inr (.near k h1 e))
      · exact .inr (.inl (.far k h1 e))
      · exact .inr (.inr (.far k h1 e))
theorem low_below {i c k : Nat} (hc : (c - 1) / 2 = i) (hc1 : 1 ≤ c) (h : Low c k) : Low i k ∧ (k - 1) / 2 ≠ i := by
  obtain ⟨f, hf⟩ := h
  induction f generalizing k with
  | zero => exact hf.elim
  | succ f ih =>
    obtain ⟨h1, e | e⟩ := hf
    · exact ⟨.far k h1 (by rw [e]; exact .near c hc1 hc), by omega⟩
    · have := ih e
      exact ⟨.far k h1 this.1, by have := this.1.lt; omega⟩
theorem low_left {i k : Nat} (h : Low (2 * i + 1) k) : Low i k ∧ (k - 1) / 2 ≠ i := low_below (by omega) (by omega) h
theorem low_right {i k : Nat} (h : Low (2 * i + 2) k) : Low i k ∧ (k - 1) / 2 ≠ i := low_below (by omega) (by omega) h

theorem under_iff (d : Array Int) (n : Nat) : ∀ (f i : Nat) (whole : Bool), n ≤ i + f →
    (underB d n f i whole = true ↔ ∀ k, k < n → Low i k → (whole = true ∨ (k - 1) / 2 ≠ i) → Edge d k) := by
  intro f
  induction f with
  | zero => intro i whole h; exact ⟨fun _ k hk hl => by have := hl.lt; omega, fun _ => rfl⟩
  | succ f ih =>
    intro i whole h
    unfold underB
    rw [Bool.and_eq_true, decide_eq_true_eq, decide_eq_true_eq, ih (2 * i + 1) true (by omega), ih (2 * i + 2) true (by omega)]
    constructor
    · rintro ⟨hl, hr⟩ k hk hlow hw
      rcases low_split hlow with (e | e) | e | e
      · subst e
        have := (hl hk).1 (hw.elim id (fun x => absurd (by omega) x))
        unfold Edge; rw [show (2 * i + 1 - 1) / 2 = i by omega]; exact this
      · subst e
        have := (hr hk).1 (hw.elim id (fun x => absurd (by omega) x))
        unfold Edge; rw [show (2 * i + 2 - 1) / 2 = i by omega]; exact this
      · exact (hl (by have := e.lt; omega)).2 k hk e (.inl rfl)
      · exact (hr (by have := e.lt; omega)).2 k hk e (.inl rfl)
    · intro hall
      refine ⟨fun hk => ⟨fun hw => ?_, fun k hk' hlow _ => hall k hk' (low_left hlow).1 (.inr (low_left hlow).2)⟩, fun hk => ⟨fun hw => ?_, fun k hk' hlow _ => hall k hk' (low_right hlow).1 (.inr (low_right hlow).2)⟩⟩
      · have := hall (2 * i + 1) hk (.near _ (by omega) (by omega)) (.inl hw)
        unfold Edge at this; rw [show (2 * i + 1 - 1) / 2 = i by omega] at this; exact this
      · have := hall (2 * i + 2) hk (.near _ (by omega) (by omega)) (.inl hw)
        unfold Edge at this; rw [show (2 * i + 2 - 1) / 2 = i by omega] at this; exact this

/-- Above two heaps an element that moves down makes a heap. -/
theorem down_under (d : Array Int) (i n : Nat) (hi : i < n) (hn : n ≤ d.size) (h : underB d n n i false = true) : underB (downA d i n).1 n n i true = true := by
  rw [under_iff d n n i false (by omega)] at h
  rw [under_iff _ n n i true (by omega)]
  obtain ⟨A, _⟩ := down_edges (fun k => Low i k) (fun k a b => .far k a b) _ d i n (Nat.le_refl _) hi hn (fun k a b => .near k a b)
    (fun k a b c e f => h k b c (.inr e)) (fun q => absurd q.lt (Nat.lt_irrefl _))
  intro k hk hl _
  exact A k (by have := hl.lt; omega) hk hl (by have := hl.lt; omega)

end Go.Proofs.Ytkceigigdklaoaa
