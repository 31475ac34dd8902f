/-
  A list cut: what the slice expressions s[k:] and s[:k] make of a list, under names of their own. Conditions: the place lies in the list.
-/
import Derived.Test.YtkceigigdklaoaaSame
namespace Go.Proofs.Ytkceigigdklaoaa
open Go.RowKit Go.Sort

theorem elem22 : Try.prog.elem 22 = 3 := by kernel_rfl
theorem size3 (w : World) : (sizeOf 3).run Try.prog w = .ok 1 w := by kernel_rfl
theorem under22 : Try.prog.underlying 22 = some (.slice (Try.prog.elem 22)) := by rw [elem22]; exact Try.underlying22

theorem getElem!_extract (d : Array Int) (k n j : Nat) (hn : n ≤ d.size) (hj : k + j < n) : (d.extract k n)[j]! = d[k + j]! := by
  rw [getElem!_pos (d.extract k n) j (by simp; omega), getElem!_pos d (k + j) (by omega), Array.getElem_extract]

/-- s[k:] -/
theorem cut_from (A : Option Addr) (n c k : Nat) (d : Array Int) (hn : d.size = n) (hk : k ≤ n) (hc : n ≤ c) :
    ∃ B n' c', (∀ w, (Instr.slice 22 (.slice A n c) (some (.int .i64 k)) none none).run Try.prog w = .ok (.slice B n' c') w) ∧ ∀ w, Rd w (.slice A n c) d → Rd w (.slice B n' c') (d.extract k d.size) := by
  refine ⟨if c = k then A else A.map (·.add k), n - k, c - k, fun w => ?_, fun w h => ?_⟩
  · rw [run_slice_l w 22 A n c under22 .i64 k (by omega) (by omega), elem22, size3]
    simp [sliced]
  · obtain ⟨A', c', e, h1, h2, h3⟩ := h
    cases e
    have hz : (d.extract k d.size).size = d.size - k := by simp
    refine ⟨_, c - k, by rw [hz], by rw [hz]; omega, by omega, fun h0 => ?_⟩
    rw [hz] at h0
    obtain ⟨b, o, rfl, hlt, hcells⟩ := h3 (by omega)
    refine ⟨b, o + k, by rw [if_neg (by omega)]; simp [Addr.add], hlt, fun j hj => ?_⟩
    rw [hz] at hj
    rw [getElem!_extract d k d.size j (by omega) (by omega), Nat.add_assoc]
    exact hcells (k + j) (by omega)

/-- s[:k] -/
theorem cut_upto (A : Option Addr) (n c k : Nat) (d : Array Int) (hn : d.size = n) (hk : k ≤ n) (hc : n ≤ c) :
    ∃ B n' c', (∀ w, (Instr.slice 22 (.slice A n c) none (some (.int .i64 k)) none).run Try.prog w = .ok (.slice B n' c') w) ∧ ∀ w, Rd w (.slice A n c) d → Rd w (.slice B n' c') (d.extract 0 k) := by
  refine ⟨if c = 0 then A else A.map (·.add 0), k, c, fun w => ?_, fun w h => ?_⟩
  · rw [run_slice_h w 22 A n c under22 .i64 k (by omega) (by omega), elem22, size3]
    simp [sliced]
  · obtain ⟨A', c', e, h1, h2, h3⟩ := h
    cases e
    have hz : (d.extract 0 k).size = k := by simp; omega
    refine ⟨_, c, by rw [hz], by rw [hz]; omega, by omega, fun h0 => ?_⟩
    rw [hz] at h0
    obtain ⟨b, o, rfl, hlt, hcells⟩ := h3 (by omega)
    refine ⟨b, o, by rw [if_neg (by omega)]; simp [Addr.add], hlt, fun j hj => ?_⟩
    rw [hz] at hj
    rw [getElem!_extract d 0 k j (by omega) (by omega), Nat.zero_add]
    exact hcells j (by omega)
end Go.Proofs.Ytkceigigdklaoaa
