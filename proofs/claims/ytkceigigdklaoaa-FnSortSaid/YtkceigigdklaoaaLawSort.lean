/-
  The law FnSort: the call returns true at every list, and turns nothing that was there. No conditions.
-/
import Derived.Test.YtkceigigdklaoaaMore
import Derived.Test.YtkceigigdklaoaaLawPopRemove
namespace Go.Proofs.Ytkceigigdklaoaa
open Go.RowKit Go.Sort

theorem take_push (d hk : Array Int) (k : Nat) (hk' : k < d.size) (h : hk.toList.Perm (d.toList.take k)) : (pushA hk d[k]!).toList.Perm (d.toList.take (k + 1)) := by
  have h1 := pushA_perm hk d[k]!
  rw [Array.perm_iff_toList_perm] at h1
  refine h1.trans ?_
  rw [Array.toList_push, List.take_succ_eq_append_getElem (by simpa using hk'), getElem!_pos d k hk', Array.getElem_toList]
  exact h.append_right _

/-- The least of a heap that holds what is left of a sorted list is the next one; behind it the heap holds what is left then. -/
theorem pop_next (s hk : Array Int) (k : Nat) (hks : k < s.size) (hs : s.toList.Pairwise (· ≤ ·)) (hp : hk.toList.Perm (s.toList.drop k)) (hh : HeapA hk hk.size) :
    hk[0]! = s[k]! ∧ (popA hk).pop.toList.Perm (s.toList.drop (k + 1)) ∧ HeapA (popA hk).pop (hk.size - 1) := by
  have hl : hk.size = s.size - k := by have := hp.length_eq; simpa using this
  have h0 : 0 < hk.size := by omega
  have hd : s.toList.drop k = s[k]! :: s.toList.drop (k + 1) := by
    rw [List.drop_eq_getElem_cons (by simpa using hks), Array.getElem_toList, getElem!_pos s k hks]
  rw [hd] at hp
  have hsd := hs.sublist (List.drop_sublist k _)
  rw [hd, List.pairwise_cons] at hsd
  have e : hk[0]! = s[k]! := by
    apply Int.le_antisymm
    · have hm : s[k]! ∈ hk.toList := hp.symm.subset (by simp)
      obtain ⟨j, hj, hje⟩ := List.getElem_of_mem hm
      have hj' : j < hk.size := by simpa using hj
      have := hh.root j hj'
      rw [← hje, Array.getElem_toList, ← getElem!_pos hk j hj']; exact this
    · have hm : hk[0]! ∈ s[k]! :: s.toList.drop (k + 1) := hp.subset (by rw [getElem!_pos hk 0 h0]; simp)
      rcases List.mem_cons.1 hm with h | h
      · rw [h]; exact Int.le_refl _
      · exact hsd.1 _ h
  refine ⟨e, ?_, ?_⟩
  · have h1 : ((popA hk).pop.push hk[0]!).Perm hk := by rw [← remove0_pop hk h0]; exact remove_push hk 0 h0
    rw [Array.perm_iff_toList_perm, Array.toList_push, e] at h1
    have h2 := (List.perm_append_singleton _ _).symm.trans (h1.trans hp)
    exact (List.perm_cons _).1 h2
  · rw [← remove0_pop hk h0]; exact remove_heap hk 0 hh h0

set_option maxHeartbeats 4000000 in
theorem sort_law (v : Value) (d : Array Int) (w : World) (hr : Rd w v d) (h1 : d.size ≤ 2000) :
    Calls Try.prog 13 #[v] w fun e w' => e = .returned (.bool true) ∧ Below w.heap.size w w' := by
  obtain ⟨A, c, rfl, _, _, hcl⟩ := id hr
  have HR := Lib.hid hr
  have HCL := Lib.hid hcl
  obtain ⟨n, hn⟩ : ∃ n : Nat, d.size = n := ⟨_, rfl⟩
  rw [hn]
  have HN := Lib.hid hn
  have hnb : n ≤ 2000 := by omega
  have g1 : decide ((2147483647 : Int) < (n : Int)) = false := decide_eq_false (by omega)
  have g2 : decide ((2000 : Int) < (n : Int)) = false := decide_eq_false (by omega)
  have HR' : Hid (Rd w (.slice A n c) d) := Lib.hid (by rw [← hn]; exact hr)
  clear hr hcl hn h1
  go_enter Try.func13, Try.ntmps13
  go_wp2_with fail
  go_loopw [3, 19] (fun vh vi wr => ∃ (k : Nat) (hk : Array Int) (A3 : Option Addr) (c3 : Nat), vh = .slice A3 k c3 ∧ vi = .int .i64 k ∧ k ≤ n ∧ Hid (hk.size = k) ∧ Hid (Rd wr (.slice A3 k c3) hk) ∧ Hid (HeapA hk k) ∧ Hid (hk.toList.Perm (d.toList.take k)) ∧ Hid (Below w.heap.size w wr)) (fun _ vi _ => n - (intOf vi).toNat)
  case atStart => exact ⟨0, #[], none, 0, rfl, rfl, Nat.zero_le _, rfl, Rd.nil w, (fun k a b => by omega : HeapA #[] 0), List.Perm.refl _, Lib.hid (Below.refl _ _)⟩
  case round =>
    obtain ⟨k, hk, A3, c3, rfl, rfl, hkn, HKS, HRD, HHP, HPM, HB⟩ := hrel
    by_cases hlt : k < n
    · obtain ⟨b, o, ha, hbl, hcells⟩ := HCL.out (by rw [HN.out]; omega)
      subst ha
      obtain ⟨x, hx⟩ : ∃ x, d[k]! = x := ⟨_, rfl⟩
      have cx := (HB.out.cell (p := ⟨b, o + k, none⟩) hbl).trans (hcells k (by rw [HN.out]; exact hlt))
      rw [hx] at cx
      have hki : (k : Int) < (n : Int) := by omega
      have HX := Lib.hid hx
      clear hcells hx hbl
      go_wp2_with fail
      refine (impl_Push _ hk x wr HRD.out (by rw [HKS.out]; omega)).mono ?_
      rintro e w1 ⟨v1, rfl, ho1, hb1⟩
      obtain ⟨A1, c1, rfl⟩ := ho1.shape
      have hz : (pushA hk x).size = k + 1 := by rw [pushA_size, HKS.out]
      have R1 : Hid (Rd w1 (.slice A1 (k + 1) c1) (pushA hk x)) := Lib.hid (by have := ho1.rd; rw [hz] at this; exact this)
      have B1 : Hid (Below w.heap.size w w1) := Lib.hid (HB.out.trans (hb1.mono HB.out.size))
      rw [hz]
      have HZ := Lib.hid hz
      clear ho1 hb1 hz cx
      go_wp2_with fail
      go_roundw
      case rel =>
        refine ⟨k + 1, pushA hk x, A1, c1, rfl, by go_num, by omega, HZ, R1, ?_, ?_, B1⟩
        · have := push_heap hk x (by rw [HKS.out]; exact HHP.out)
          rw [HKS.out] at this; exact this
        · exact Lib.hid (by rw [← HX.out]; exact take_push d hk k (by rw [HN.out]; exact hlt) HPM.out)
      case measure => simp [intOf]; omega
    · obtain rfl : k = n := by omega
      have hnn : ((k : Int) != (k : Int)) = false := by simp
      go_wp2_with fail
      refine (sclone_any _ d wr (HR'.out.below HB.out) (by rw [HN.out]; omega)).mono ?_
      rintro e w1 ⟨v1, rfl, ho1, hb1⟩
      obtain ⟨A1, c1, rfl⟩ := ho1.shape
      have O1 := Lib.hid ho1
      have B1 := Lib.hid hb1
      clear ho1 hb1
      go_wp2_with fail
      refine (sort_own wr.heap.size _ d w1 O1.out (by rw [HN.out]; omega)).mono ?_
      rintro e w2 ⟨rfl, ho2, hg2⟩
      have R2 : Hid (Rd w2 (.slice A1 d.size c1) (sortA d)) := Lib.hid ho2.rd
      have L2 : Hid (Below wr.heap.size wr w2) := Lib.hid (B1.out.grown hg2 B1.out.size (fun j hj => (O1.out.lt j hj).1))
      have HRD2 : Hid (Rd w2 (.slice A3 k c3) hk) := Lib.hid (HRD.out.below L2.out)
      have B2 : Hid (Below w.heap.size w w2) := Lib.hid (HB.out.trans (L2.out.mono HB.out.size))
      have HSZ : Hid ((sortA d).size = k) := Lib.hid (by rw [sortA_size, HN.out])
      have HP2 : Hid (hk.toList.Perm (sortA d).toList) := Lib.hid (by
        have h1 := HPM.out
        rw [List.take_of_length_le (by simp; rw [HN.out]; exact Nat.le_refl _)] at h1
        have h2 := sortA_perm d
        rw [Array.perm_iff_toList_perm] at h2
        exact h1.trans h2.symm)
      clear ho2 hg2
      rw [HN.out]
      go_wp2_with fail
      clear hnn
      go_loopw [3, 38] (fun vh vi wr => ∃ (i m : Nat) (hi : Array Int) (A4 : Option Addr) (c4 : Nat), vh = .slice A4 m c4 ∧ vi = .int .i64 i ∧ i ≤ k ∧ m ≤ k - i ∧ k - i ≤ m ∧ Hid (hi.size = m) ∧ Hid (Rd wr (.slice A4 m c4) hi) ∧ Hid (HeapA hi m) ∧ Hid (hi.toList.Perm ((sortA d).toList.drop i)) ∧ Hid (Below w2.heap.size w2 wr)) (fun _ vi _ => k - (intOf vi).toNat)
      case atStart => exact ⟨0, k, hk, A3, c3, rfl, rfl, Nat.zero_le _, by omega, by omega, HKS, HRD2, HHP, HP2, Lib.hid (Below.refl _ _)⟩
      case round =>
        obtain ⟨i, m, hi, A4, c4, rfl, rfl, hik, hm1, hm2, KS, RD, HH, PM, BL⟩ := hrel
        by_cases hlt2 : i < k
        · obtain ⟨A1', c1', e1, _, _, hcl1⟩ := R2.out
          obtain ⟨b, o, ha, hbl, hcells⟩ := hcl1 (by rw [HSZ.out]; omega)
          obtain ⟨x, hx⟩ : ∃ x, (sortA d)[i]! = x := ⟨_, rfl⟩
          have cx := (BL.out.cell (p := ⟨b, o + i, none⟩) hbl).trans (hcells i (by rw [HSZ.out]; exact hlt2))
          injection e1 with e1 ek ec
          clear ek ec
          rw [ha] at e1
          subst e1
          rw [hx] at cx
          obtain ⟨q1, q2, q3⟩ := pop_next (sortA d) hi i (by rw [HSZ.out]; exact hlt2) (sortA_sorted d) PM.out (by rw [KS.out]; exact HH.out)
          have HV : Hid ((popA hi)[hi.size - 1]! = x) := Lib.hid (by rw [pop_last hi (by rw [KS.out]; omega), q1, hx])
          have Q2 := Lib.hid q2
          have Q3 := Lib.hid q3
          have hii : (i : Int) < (k : Int) := by omega
          have hm0 : ((m : Int) == 0) = false := by rw [beq_eq_false_iff_ne]; omega
          clear hcells hcl1 hx hbl ha q1 q2 q3
          go_wp2_with fail
          refine (impl_Pop _ hi wr RD.out (by rw [KS.out]; omega) (by rw [KS.out]; omega)).mono ?_
          rintro e w3 ⟨v3, rfl, ho3, hb3⟩
          rw [HV.out]
          obtain ⟨A5, c5, rfl⟩ := ho3.shape
          have hz : (popA hi).pop.size = m - 1 := by rw [size_pos_pop, popA_size, KS.out]
          have R5 : Hid (Rd w3 (.slice A5 (m - 1) c5) (popA hi).pop) := Lib.hid (by have := ho3.rd; rw [hz] at this; exact this)
          have B5 : Hid (Below w2.heap.size w2 w3) := Lib.hid (BL.out.trans (hb3.mono BL.out.size))
          rw [hz]
          have HZ := Lib.hid hz
          clear ho3 hb3 hz cx hm0
          go_wp2_with fail
          go_roundw
          case rel =>
            refine ⟨i + 1, m - 1, (popA hi).pop, A5, c5, rfl, by go_num, by omega, by omega, by omega, HZ, R5, ?_, Q2, B5⟩
            have := Q3.out
            rw [KS.out] at this
            exact this
          case measure => simp [intOf]; omega
        · obtain rfl : i = k := by omega
          obtain rfl : m = 0 := by omega
          go_wp2_with fail
          go_ret
          exact ⟨rfl, B2.out.trans (BL.out.mono B2.out.size)⟩

set_option maxHeartbeats 1000000 in
theorem law_Sort (v : Value) (d : Array Int) (w : World) (hr : Rd w v d) :
    Calls Try.prog 13 #[v] w fun e w' => e = .returned (.bool true) ∧ Below w.heap.size w w' := by
  obtain ⟨A, c, rfl, hdc, hcm, _⟩ := id hr
  have HR := Lib.hid hr
  have hdm : d.size ≤ 9223372036854775807 := by simp only [maxLen] at hcm; omega
  clear hr hdc hcm
  by_cases h1 : 2147483647 < d.size
  · have h1' : (2147483647 : Int) < (d.size : Int) := by omega
    go_enter Try.func13, Try.ntmps13
    go_wp2_with fail
    go_ret
    exact ⟨rfl, Below.refl _ _⟩
  · by_cases h4 : 2000 < d.size
    · have h4' : (2000 : Int) < (d.size : Int) := by omega
      go_enter Try.func13, Try.ntmps13
      go_wp2_with fail
      go_ret
      exact ⟨rfl, Below.refl _ _⟩
    · exact sort_law _ d w HR.out (by omega)
end Go.Proofs.Ytkceigigdklaoaa
