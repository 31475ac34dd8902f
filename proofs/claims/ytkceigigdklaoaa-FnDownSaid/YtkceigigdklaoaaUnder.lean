/-
  The walk of spec.Under. Conditions: the first n lie in the list, which is at most 2 to the 20th long.
-/
import Derived.Test.YtkceigigdklaoaaTree
import Derived.Test.YtkceigigdklaoaaSpec
namespace Go.Proofs.Ytkceigigdklaoaa
open Go.RowKit Go.Sort

/-- What is asked of one right below i. -/
def okB (d : Array Int) (n i k : Nat) (whole : Bool) : Prop := k < n → (whole = true → d[i]! ≤ d[k]!) ∧ underB d n n k true = true

theorem under_step_iff (d : Array Int) (n i : Nat) (whole : Bool) : underB d n n i whole = true ↔ ∀ t, t < 2 → okB d n i (2 * i + 1 + t) whole := by
  have h1 := under_iff d n n i whole (by omega)
  have h2 := under_iff d n (n + 1) i whole (by omega)
  have h3 : underB d n n i whole = true ↔ underB d n (n + 1) i whole = true := h1.trans h2.symm
  rw [h3]
  unfold underB okB
  rw [Bool.and_eq_true, decide_eq_true_eq, decide_eq_true_eq]
  constructor
  · rintro ⟨a, b⟩ t ht
    have : t = 0 ∨ t = 1 := by omega
    rcases this with rfl | rfl
    · exact a
    · exact b
  · intro h
    exact ⟨h 0 (by omega), h 1 (by omega)⟩
theorem under_false (d : Array Int) (n i t : Nat) (whole : Bool) (ht : t < 2) (h : ¬ okB d n i (2 * i + 1 + t) whole) : underB d n n i whole = false := by
  cases hb : underB d n n i whole with
  | false => rfl
  | true => exact absurd ((under_step_iff d n i whole).1 hb t ht) h


set_option maxHeartbeats 16000000 in
set_option maxRecDepth 100000 in
theorem underStep_true (i n : Nat) (v : Value) (d : Array Int) (w : World) (hr : Rd w v d) (hn : n ≤ d.size) (hs : d.size ≤ 1048576) (hi : i ≤ 1048576) (hin : i < n)
    (IH : ∀ k w', i < k → k < n → Rd w' v d → Calls Try.prog 28 #[v, .int .i64 k, .int .i64 n, .bool true] w' fun e w'' => e = .returned (.bool (underB d n n k true)) ∧ Below w'.heap.size w' w'') :
    Calls Try.prog 28 #[v, .int .i64 i, .int .i64 n, .bool true] w fun e w' => e = .returned (.bool (underB d n n i true)) ∧ Below w.heap.size w w' := by
  have HR := Lib.hid hr
  obtain ⟨A, c, rfl, _, _, hcl⟩ := hr
  obtain ⟨b, o, rfl, hlt, hcells⟩ := hcl (by omega)
  have HI := Lib.hid IH
  have HCL := Lib.hid hcells
  obtain ⟨s, hsz⟩ : ∃ s : Nat, d.size = s := ⟨_, rfl⟩
  rw [hsz]
  rw [hsz] at HR HI
  have HSZ := Lib.hid hsz
  have hns : n ≤ s := by omega
  have hsb : s ≤ 1048576 := by omega
  obtain ⟨j1, hj1⟩ : ∃ j1 : Nat, 2 * i + 1 = j1 := ⟨_, rfl⟩
  obtain ⟨j2, hj2⟩ : ∃ j2 : Nat, 2 * i + 2 = j2 := ⟨_, rfl⟩
  have e1 : 2 * (i : Int) + 1 = (j1 : Int) := by omega
  have e2 : 2 * (i : Int) + 2 = (j2 : Int) := by omega
  have HJ1 := Lib.hid hj1
  have HJ2 := Lib.hid hj2
  clear IH hcl hcells hsz hn hs hj1 hj2
  go_enter Try.func28, Try.ntmps28
  go_wp2_with fail
  go_loopw [19] (fun vt wr => ∃ (t : Nat), vt = .int .i64 t ∧ t ≤ 2 ∧ Hid (Below w.heap.size w wr) ∧ Hid (wr.cell? ⟨w.heap.size, 0, none⟩ = some (.int .i64 j1) ∧ wr.cell? ⟨w.heap.size, 1, none⟩ = some (.int .i64 j2) ∧ w.heap.size < wr.heap.size) ∧ Hid (∀ u, u < t → okB d n i (2 * i + 1 + u) true)) (fun vt _ => 2 - (intOf vt).toNat)
  case atStart => exact ⟨0, rfl, by omega, Lib.hid ((Below.refl _ _).alloc (Nat.le_refl _) _), Lib.hid ⟨by simp, by simp, by simp⟩, Lib.hid (fun u hu => by omega)⟩
  case round =>
    obtain ⟨t, rfl, ht, HB, HC, HOK⟩ := hrel
    by_cases ht2 : t < 2
    · obtain ⟨kk, hkk, hck⟩ : ∃ kk : Nat, 2 * i + 1 + t = kk ∧ wr.cell? ⟨w.heap.size, t, none⟩ = some (.int .i64 kk) := by
        have : t = 0 ∨ t = 1 := by omega
        rcases this with rfl | rfl
        · exact ⟨j1, by have := HJ1.out; omega, HC.out.1⟩
        · exact ⟨j2, by have := HJ2.out; omega, HC.out.2.1⟩
      have HKK := Lib.hid hkk
      have hik : i < kk := by omega
      have hti : (t : Int) < 2 := by omega
      have HRW : Hid (Rd wr (.slice (some ⟨b, o, none⟩) s c) d) := Lib.hid (HR.out.below HB.out)
      clear hkk
      by_cases g2 : kk < n
      · have g2' : (kk : Int) < (n : Int) := by omega
        have hks : (kk : Int) < (s : Int) := by omega
        have his : (i : Int) < (s : Int) := by omega
        obtain ⟨x, hx⟩ : ∃ x, d[kk]! = x := ⟨_, rfl⟩
        obtain ⟨y, hy⟩ : ∃ y, d[i]! = y := ⟨_, rfl⟩
        have cx := (HB.out.cell (p := ⟨b, o + kk, none⟩) hlt).trans (HCL.out kk (by rw [HSZ.out]; omega))
        have cy := (HB.out.cell (p := ⟨b, o + i, none⟩) hlt).trans (HCL.out i (by rw [HSZ.out]; omega))
        rw [hx] at cx
        rw [hy] at cy
        have HX := Lib.hid hx
        have HY := Lib.hid hy
        clear hx hy
        by_cases hl : x < y
        · go_wp2_with fail
          go_quiet (fail)
          go_wp2_with fail
          go_ret
          exact ⟨by rw [under_false d n i t _ ht2 (by rw [HKK.out]; exact fun hok => by have := (hok g2).1 rfl; rw [HX.out, HY.out] at this; omega)]; rfl, below_drewN HB.out _⟩
        · have HNL : Hid (d[i]! ≤ d[kk]!) := Lib.hid (by rw [HX.out, HY.out]; omega)
          have hli : decide (x < y) = false := decide_eq_false hl
          clear hl
          cases hbb : underB d n n kk true with
          | true =>
            have HBB := Lib.hid hbb
            clear hbb
            go_wp2_with fail
            refine wp_region_any (by kernel_rfl) ?_
            change wpAny _ _ _ _ _ _ _ (World.drew _)
            refine wpAny_take (i := 0) (v := .int .i64 kk) rfl (by kernel_rfl) (by kernel_rfl) (by kernel_rfl) (fun _ _ _ h => h) (Or.inl ⟨by rfl, by (intro w; go_simp)⟩) ?_
            go_simp
            refine wpAny_take (i := 1) (v := .int .i64 n) rfl (by kernel_rfl) (by kernel_rfl) (by kernel_rfl) (fun _ _ _ h => h) (Or.inl ⟨by rfl, by (intro w; go_simp)⟩) ?_
            go_simp
            refine wpAny_take (i := 2) (v := .bool true) rfl (by kernel_rfl) (by kernel_rfl) (by kernel_rfl) (fun _ _ _ h => h) (Or.inl ⟨by rfl, by (intro w; go_simp)⟩) ?_
            go_simp
            refine wpAny_take (i := 3) (v := .bool true) rfl (by kernel_rfl) (by kernel_rfl) (by kernel_rfl) (fun _ _ _ h => h) (Or.inl ⟨by rfl, by (intro w; go_simp)⟩) ?_
            go_simp
            refine wpAny_take (i := 4) (v := .bool true) rfl (by kernel_rfl) (by kernel_rfl) (by kernel_rfl) (fun _ _ _ h => h) (Or.inl ⟨by rfl, by (intro w; go_simp)⟩) ?_
            go_simp
            refine wpAny_take (i := 5) (v := .bool true) rfl (by kernel_rfl) (by kernel_rfl) (by kernel_rfl) (fun _ _ _ h => h) (Or.inl ⟨by rfl, by (intro w; go_simp)⟩) ?_
            go_simp
            refine wpAny_take (i := 6) (v := .slice (some ⟨b, o, none⟩) s c) rfl (by kernel_rfl) (by kernel_rfl) (by kernel_rfl) (fun _ _ _ h => h) (Or.inl ⟨by rfl, by (intro w; go_simp)⟩) ?_
            go_simp
            refine wpAny_take (i := 7) (v := .int .i64 kk) rfl (by kernel_rfl) (by kernel_rfl) (by kernel_rfl) (fun _ _ _ h => h) (Or.inl ⟨by rfl, by (intro w; go_simp)⟩) ?_
            go_simp
            refine wpAny_take (i := 8) (v := .pointer (some ⟨b, o + kk, none⟩)) rfl (by kernel_rfl) (by kernel_rfl) (by kernel_rfl) (fun _ _ _ h => h) (Or.inl ⟨by rfl, by (intro w; go_simp)⟩) ?_
            go_simp
            refine wpAny_take (i := 10) (v := .slice (some ⟨b, o, none⟩) s c) rfl (by kernel_rfl) (by kernel_rfl) (by kernel_rfl) (fun _ _ _ h => h) (Or.inl ⟨by rfl, by (intro w; go_simp)⟩) ?_
            go_simp
            refine wpAny_take (i := 11) (v := .int .i64 i) rfl (by kernel_rfl) (by kernel_rfl) (by kernel_rfl) (fun _ _ _ h => h) (Or.inl ⟨by rfl, by (intro w; go_simp)⟩) ?_
            go_simp
            refine wpAny_take (i := 12) (v := .pointer (some ⟨b, o + i, none⟩)) rfl (by kernel_rfl) (by kernel_rfl) (by kernel_rfl) (fun _ _ _ h => h) (Or.inl ⟨by rfl, by (intro w; go_simp)⟩) ?_
            go_simp
            refine wpAny_ready (rs := [9, 13]) (by kernel_rfl) (by simp) ?_
            refine AllReady.cons rfl (fun K hK => ?_) (AllReady.cons rfl (fun K hK => ?_) AllReady.nil)
            · go_simp
              refine hK _ _ ?_
              clear hK K
              refine wpAny_ready (rs := [13]) (by kernel_rfl) (by simp) ?_
              refine AllReady.cons rfl (fun K hK => ?_) AllReady.nil
              go_simp
              refine hK _ _ ?_
              clear hK K
              refine wpAny_take (i := 14) (v := .bool false) rfl (by kernel_rfl) (by kernel_rfl) (by kernel_rfl) (fun _ _ _ h => h) (Or.inl ⟨by rfl, by (intro w; go_simp)⟩) ?_
              go_simp
              refine wpAny_take (i := 15) (v := .bool false) rfl (by kernel_rfl) (by kernel_rfl) (by kernel_rfl) (fun _ _ _ h => h) (Or.inl ⟨by rfl, by (intro w; go_simp)⟩) ?_
              go_simp
              refine wpAny_take (i := 16) (v := .bool false) rfl (by kernel_rfl) (by kernel_rfl) (by kernel_rfl) (fun _ _ _ h => h) (Or.inl ⟨by rfl, by (intro w; go_simp)⟩) ?_
              go_simp
              refine wpAny_take (i := 17) (v := .slice (some ⟨b, o, none⟩) s c) rfl (by kernel_rfl) (by kernel_rfl) (by kernel_rfl) (fun _ _ _ h => h) (Or.inl ⟨by rfl, by (intro w; go_simp)⟩) ?_
              go_simp
              refine wpAny_take (i := 18) (v := .int .i64 kk) rfl (by kernel_rfl) (by kernel_rfl) (by kernel_rfl) (fun _ _ _ h => h) (Or.inl ⟨by rfl, by (intro w; go_simp)⟩) ?_
              go_simp
              refine wpAny_take (i := 19) (v := .int .i64 n) rfl (by kernel_rfl) (by kernel_rfl) (by kernel_rfl) (fun _ _ _ h => h) (Or.inl ⟨by rfl, by (intro w; go_simp)⟩) ?_
              go_simp
              refine wpAny_ready (rs := [20]) (by kernel_rfl) (by simp) ?_
              refine AllReady.cons rfl (fun K hK => ?_) AllReady.nil
              go_simp
              refine (HI.out kk wr.drew hik g2 (by exact HRW.out.drewN 1)).mono ?_
              rintro e w3 ⟨rfl, hb3⟩
              rw [HBB.out]
              have B3 : Hid (Below w.heap.size w w3) := Lib.hid ((below_drewN HB.out 1).trans (hb3.mono HB.out.size))
              have C3 : Hid (w3.cell? ⟨w.heap.size, 0, none⟩ = some (.int .i64 j1) ∧ w3.cell? ⟨w.heap.size, 1, none⟩ = some (.int .i64 j2) ∧ w.heap.size < w3.heap.size) := Lib.hid ⟨(hb3.cell (p := ⟨w.heap.size, 0, none⟩) HC.out.2.2).trans HC.out.1, (hb3.cell (p := ⟨w.heap.size, 1, none⟩) HC.out.2.2).trans HC.out.2.1, Nat.lt_of_lt_of_le HC.out.2.2 hb3.size⟩
              clear hb3
              go_simp
              refine hK _ _ ?_
              clear hK K
              refine wpAny_take (i := 21) (v := .bool false) rfl (by kernel_rfl) (by kernel_rfl) (by kernel_rfl) (fun _ _ _ h => h) (Or.inl ⟨by rfl, by (intro w; go_simp)⟩) ?_
              go_simp
              refine wpAny_take (i := 22) (v := .bool false) rfl (by kernel_rfl) (by kernel_rfl) (by kernel_rfl) (fun _ _ _ h => h) (Or.inl ⟨by rfl, by (intro w; go_simp)⟩) ?_
              go_simp
              refine wpAny_take (i := 23) (v := .bool false) rfl (by kernel_rfl) (by kernel_rfl) (by kernel_rfl) (fun _ _ _ h => h) (Or.inl ⟨by rfl, by (intro w; go_simp)⟩) ?_
              go_simp
              refine wpAny_done (by kernel_rfl) ?_ _
              go_wp2_with fail
              go_roundw
              case rel => exact ⟨t + 1, by go_num, by omega, B3, C3, Lib.hid (fun u hu => by
                by_cases e : u = t
                · subst e; rw [HKK.out]; exact fun _ => ⟨fun _ => HNL.out, HBB.out⟩
                · exact HOK.out u (by omega))⟩
              case measure => simp [intOf]; omega
            · go_simp
              refine hK _ _ ?_
              clear hK K
              refine wpAny_ready (rs := [9]) (by kernel_rfl) (by simp) ?_
              refine AllReady.cons rfl (fun K hK => ?_) AllReady.nil
              go_simp
              refine hK _ _ ?_
              clear hK K
              refine wpAny_take (i := 14) (v := .bool false) rfl (by kernel_rfl) (by kernel_rfl) (by kernel_rfl) (fun _ _ _ h => h) (Or.inl ⟨by rfl, by (intro w; go_simp)⟩) ?_
              go_simp
              refine wpAny_take (i := 15) (v := .bool false) rfl (by kernel_rfl) (by kernel_rfl) (by kernel_rfl) (fun _ _ _ h => h) (Or.inl ⟨by rfl, by (intro w; go_simp)⟩) ?_
              go_simp
              refine wpAny_take (i := 16) (v := .bool false) rfl (by kernel_rfl) (by kernel_rfl) (by kernel_rfl) (fun _ _ _ h => h) (Or.inl ⟨by rfl, by (intro w; go_simp)⟩) ?_
              go_simp
              refine wpAny_take (i := 17) (v := .slice (some ⟨b, o, none⟩) s c) rfl (by kernel_rfl) (by kernel_rfl) (by kernel_rfl) (fun _ _ _ h => h) (Or.inl ⟨by rfl, by (intro w; go_simp)⟩) ?_
              go_simp
              refine wpAny_take (i := 18) (v := .int .i64 kk) rfl (by kernel_rfl) (by kernel_rfl) (by kernel_rfl) (fun _ _ _ h => h) (Or.inl ⟨by rfl, by (intro w; go_simp)⟩) ?_
              go_simp
              refine wpAny_take (i := 19) (v := .int .i64 n) rfl (by kernel_rfl) (by kernel_rfl) (by kernel_rfl) (fun _ _ _ h => h) (Or.inl ⟨by rfl, by (intro w; go_simp)⟩) ?_
              go_simp
              refine wpAny_ready (rs := [20]) (by kernel_rfl) (by simp) ?_
              refine AllReady.cons rfl (fun K hK => ?_) AllReady.nil
              go_simp
              refine (HI.out kk wr.drew hik g2 (by exact HRW.out.drewN 1)).mono ?_
              rintro e w3 ⟨rfl, hb3⟩
              rw [HBB.out]
              have B3 : Hid (Below w.heap.size w w3) := Lib.hid ((below_drewN HB.out 1).trans (hb3.mono HB.out.size))
              have C3 : Hid (w3.cell? ⟨w.heap.size, 0, none⟩ = some (.int .i64 j1) ∧ w3.cell? ⟨w.heap.size, 1, none⟩ = some (.int .i64 j2) ∧ w.heap.size < w3.heap.size) := Lib.hid ⟨(hb3.cell (p := ⟨w.heap.size, 0, none⟩) HC.out.2.2).trans HC.out.1, (hb3.cell (p := ⟨w.heap.size, 1, none⟩) HC.out.2.2).trans HC.out.2.1, Nat.lt_of_lt_of_le HC.out.2.2 hb3.size⟩
              clear hb3
              go_simp
              refine hK _ _ ?_
              clear hK K
              refine wpAny_take (i := 21) (v := .bool false) rfl (by kernel_rfl) (by kernel_rfl) (by kernel_rfl) (fun _ _ _ h => h) (Or.inl ⟨by rfl, by (intro w; go_simp)⟩) ?_
              go_simp
              refine wpAny_take (i := 22) (v := .bool false) rfl (by kernel_rfl) (by kernel_rfl) (by kernel_rfl) (fun _ _ _ h => h) (Or.inl ⟨by rfl, by (intro w; go_simp)⟩) ?_
              go_simp
              refine wpAny_take (i := 23) (v := .bool false) rfl (by kernel_rfl) (by kernel_rfl) (by kernel_rfl) (fun _ _ _ h => h) (Or.inl ⟨by rfl, by (intro w; go_simp)⟩) ?_
              go_simp
              refine wpAny_done (by kernel_rfl) ?_ _
              go_wp2_with fail
              go_roundw
              case rel => exact ⟨t + 1, by go_num, by omega, B3, C3, Lib.hid (fun u hu => by
                by_cases e : u = t
                · subst e; rw [HKK.out]; exact fun _ => ⟨fun _ => HNL.out, HBB.out⟩
                · exact HOK.out u (by omega))⟩
              case measure => simp [intOf]; omega
          | false =>
            have HBB := Lib.hid hbb
            clear hbb
            go_wp2_with fail
            refine wp_region_any (by kernel_rfl) ?_
            change wpAny _ _ _ _ _ _ _ (World.drew _)
            refine wpAny_take (i := 0) (v := .int .i64 kk) rfl (by kernel_rfl) (by kernel_rfl) (by kernel_rfl) (fun _ _ _ h => h) (Or.inl ⟨by rfl, by (intro w; go_simp)⟩) ?_
            go_simp
            refine wpAny_take (i := 1) (v := .int .i64 n) rfl (by kernel_rfl) (by kernel_rfl) (by kernel_rfl) (fun _ _ _ h => h) (Or.inl ⟨by rfl, by (intro w; go_simp)⟩) ?_
            go_simp
            refine wpAny_take (i := 2) (v := .bool true) rfl (by kernel_rfl) (by kernel_rfl) (by kernel_rfl) (fun _ _ _ h => h) (Or.inl ⟨by rfl, by (intro w; go_simp)⟩) ?_
            go_simp
            refine wpAny_take (i := 3) (v := .bool true) rfl (by kernel_rfl) (by kernel_rfl) (by kernel_rfl) (fun _ _ _ h => h) (Or.inl ⟨by rfl, by (intro w; go_simp)⟩) ?_
            go_simp
            refine wpAny_take (i := 4) (v := .bool true) rfl (by kernel_rfl) (by kernel_rfl) (by kernel_rfl) (fun _ _ _ h => h) (Or.inl ⟨by rfl, by (intro w; go_simp)⟩) ?_
            go_simp
            refine wpAny_take (i := 5) (v := .bool true) rfl (by kernel_rfl) (by kernel_rfl) (by kernel_rfl) (fun _ _ _ h => h) (Or.inl ⟨by rfl, by (intro w; go_simp)⟩) ?_
            go_simp
            refine wpAny_take (i := 6) (v := .slice (some ⟨b, o, none⟩) s c) rfl (by kernel_rfl) (by kernel_rfl) (by kernel_rfl) (fun _ _ _ h => h) (Or.inl ⟨by rfl, by (intro w; go_simp)⟩) ?_
            go_simp
            refine wpAny_take (i := 7) (v := .int .i64 kk) rfl (by kernel_rfl) (by kernel_rfl) (by kernel_rfl) (fun _ _ _ h => h) (Or.inl ⟨by rfl, by (intro w; go_simp)⟩) ?_
            go_simp
            refine wpAny_take (i := 8) (v := .pointer (some ⟨b, o + kk, none⟩)) rfl (by kernel_rfl) (by kernel_rfl) (by kernel_rfl) (fun _ _ _ h => h) (Or.inl ⟨by rfl, by (intro w; go_simp)⟩) ?_
            go_simp
            refine wpAny_take (i := 10) (v := .slice (some ⟨b, o, none⟩) s c) rfl (by kernel_rfl) (by kernel_rfl) (by kernel_rfl) (fun _ _ _ h => h) (Or.inl ⟨by rfl, by (intro w; go_simp)⟩) ?_
            go_simp
            refine wpAny_take (i := 11) (v := .int .i64 i) rfl (by kernel_rfl) (by kernel_rfl) (by kernel_rfl) (fun _ _ _ h => h) (Or.inl ⟨by rfl, by (intro w; go_simp)⟩) ?_
            go_simp
            refine wpAny_take (i := 12) (v := .pointer (some ⟨b, o + i, none⟩)) rfl (by kernel_rfl) (by kernel_rfl) (by kernel_rfl) (fun _ _ _ h => h) (Or.inl ⟨by rfl, by (intro w; go_simp)⟩) ?_
            go_simp
            refine wpAny_ready (rs := [9, 13]) (by kernel_rfl) (by simp) ?_
            refine AllReady.cons rfl (fun K hK => ?_) (AllReady.cons rfl (fun K hK => ?_) AllReady.nil)
            · go_simp
              refine hK _ _ ?_
              clear hK K
              refine wpAny_ready (rs := [13]) (by kernel_rfl) (by simp) ?_
              refine AllReady.cons rfl (fun K hK => ?_) AllReady.nil
              go_simp
              refine hK _ _ ?_
              clear hK K
              refine wpAny_take (i := 14) (v := .bool false) rfl (by kernel_rfl) (by kernel_rfl) (by kernel_rfl) (fun _ _ _ h => h) (Or.inl ⟨by rfl, by (intro w; go_simp)⟩) ?_
              go_simp
              refine wpAny_take (i := 15) (v := .bool false) rfl (by kernel_rfl) (by kernel_rfl) (by kernel_rfl) (fun _ _ _ h => h) (Or.inl ⟨by rfl, by (intro w; go_simp)⟩) ?_
              go_simp
              refine wpAny_take (i := 16) (v := .bool false) rfl (by kernel_rfl) (by kernel_rfl) (by kernel_rfl) (fun _ _ _ h => h) (Or.inl ⟨by rfl, by (intro w; go_simp)⟩) ?_
              go_simp
              refine wpAny_take (i := 17) (v := .slice (some ⟨b, o, none⟩) s c) rfl (by kernel_rfl) (by kernel_rfl) (by kernel_rfl) (fun _ _ _ h => h) (Or.inl ⟨by rfl, by (intro w; go_simp)⟩) ?_
              go_simp
              refine wpAny_take (i := 18) (v := .int .i64 kk) rfl (by kernel_rfl) (by kernel_rfl) (by kernel_rfl) (fun _ _ _ h => h) (Or.inl ⟨by rfl, by (intro w; go_simp)⟩) ?_
              go_simp
              refine wpAny_take (i := 19) (v := .int .i64 n) rfl (by kernel_rfl) (by kernel_rfl) (by kernel_rfl) (fun _ _ _ h => h) (Or.inl ⟨by rfl, by (intro w; go_simp)⟩) ?_
              go_simp
              refine wpAny_ready (rs := [20]) (by kernel_rfl) (by simp) ?_
              refine AllReady.cons rfl (fun K hK => ?_) AllReady.nil
              go_simp
              refine (HI.out kk wr.drew hik g2 (by exact HRW.out.drewN 1)).mono ?_
              rintro e w3 ⟨rfl, hb3⟩
              rw [HBB.out]
              have B3 : Hid (Below w.heap.size w w3) := Lib.hid ((below_drewN HB.out 1).trans (hb3.mono HB.out.size))
              have C3 : Hid (w3.cell? ⟨w.heap.size, 0, none⟩ = some (.int .i64 j1) ∧ w3.cell? ⟨w.heap.size, 1, none⟩ = some (.int .i64 j2) ∧ w.heap.size < w3.heap.size) := Lib.hid ⟨(hb3.cell (p := ⟨w.heap.size, 0, none⟩) HC.out.2.2).trans HC.out.1, (hb3.cell (p := ⟨w.heap.size, 1, none⟩) HC.out.2.2).trans HC.out.2.1, Nat.lt_of_lt_of_le HC.out.2.2 hb3.size⟩
              clear hb3
              go_simp
              refine hK _ _ ?_
              clear hK K
              refine wpAny_take (i := 21) (v := .bool true) rfl (by kernel_rfl) (by kernel_rfl) (by kernel_rfl) (fun _ _ _ h => h) (Or.inl ⟨by rfl, by (intro w; go_simp)⟩) ?_
              go_simp
              refine wpAny_take (i := 22) (v := .bool true) rfl (by kernel_rfl) (by kernel_rfl) (by kernel_rfl) (fun _ _ _ h => h) (Or.inl ⟨by rfl, by (intro w; go_simp)⟩) ?_
              go_simp
              refine wpAny_take (i := 23) (v := .bool true) rfl (by kernel_rfl) (by kernel_rfl) (by kernel_rfl) (fun _ _ _ h => h) (Or.inl ⟨by rfl, by (intro w; go_simp)⟩) ?_
              go_simp
              refine wpAny_done (by kernel_rfl) ?_ _
              go_wp2_with fail
              go_ret
              exact ⟨by rw [under_false d n i t _ ht2 (by rw [HKK.out]; exact fun hok => by have := (hok g2).2; rw [HBB.out] at this; cases this)]; rfl, B3.out⟩
            · go_simp
              refine hK _ _ ?_
              clear hK K
              refine wpAny_ready (rs := [9]) (by kernel_rfl) (by simp) ?_
              refine AllReady.cons rfl (fun K hK => ?_) AllReady.nil
              go_simp
              refine hK _ _ ?_
              clear hK K
              refine wpAny_take (i := 14) (v := .bool false) rfl (by kernel_rfl) (by kernel_rfl) (by kernel_rfl) (fun _ _ _ h => h) (Or.inl ⟨by rfl, by (intro w; go_simp)⟩) ?_
              go_simp
              refine wpAny_take (i := 15) (v := .bool false) rfl (by kernel_rfl) (by kernel_rfl) (by kernel_rfl) (fun _ _ _ h => h) (Or.inl ⟨by rfl, by (intro w; go_simp)⟩) ?_
              go_simp
              refine wpAny_take (i := 16) (v := .bool false) rfl (by kernel_rfl) (by kernel_rfl) (by kernel_rfl) (fun _ _ _ h => h) (Or.inl ⟨by rfl, by (intro w; go_simp)⟩) ?_
              go_simp
              refine wpAny_take (i := 17) (v := .slice (some ⟨b, o, none⟩) s c) rfl (by kernel_rfl) (by kernel_rfl) (by kernel_rfl) (fun _ _ _ h => h) (Or.inl ⟨by rfl, by (intro w; go_simp)⟩) ?_
              go_simp
              refine wpAny_take (i := 18) (v := .int .i64 kk) rfl (by kernel_rfl) (by kernel_rfl) (by kernel_rfl) (fun _ _ _ h => h) (Or.inl ⟨by rfl, by (intro w; go_simp)⟩) ?_
              go_simp
              refine wpAny_take (i := 19) (v := .int .i64 n) rfl (by kernel_rfl) (by kernel_rfl) (by kernel_rfl) (fun _ _ _ h => h) (Or.inl ⟨by rfl, by (intro w; go_simp)⟩) ?_
              go_simp
              refine wpAny_ready (rs := [20]) (by kernel_rfl) (by simp) ?_
              refine AllReady.cons rfl (fun K hK => ?_) AllReady.nil
              go_simp
              refine (HI.out kk wr.drew hik g2 (by exact HRW.out.drewN 1)).mono ?_
              rintro e w3 ⟨rfl, hb3⟩
              rw [HBB.out]
              have B3 : Hid (Below w.heap.size w w3) := Lib.hid ((below_drewN HB.out 1).trans (hb3.mono HB.out.size))
              have C3 : Hid (w3.cell? ⟨w.heap.size, 0, none⟩ = some (.int .i64 j1) ∧ w3.cell? ⟨w.heap.size, 1, none⟩ = some (.int .i64 j2) ∧ w.heap.size < w3.heap.size) := Lib.hid ⟨(hb3.cell (p := ⟨w.heap.size, 0, none⟩) HC.out.2.2).trans HC.out.1, (hb3.cell (p := ⟨w.heap.size, 1, none⟩) HC.out.2.2).trans HC.out.2.1, Nat.lt_of_lt_of_le HC.out.2.2 hb3.size⟩
              clear hb3
              go_simp
              refine hK _ _ ?_
              clear hK K
              refine wpAny_take (i := 21) (v := .bool true) rfl (by kernel_rfl) (by kernel_rfl) (by kernel_rfl) (fun _ _ _ h => h) (Or.inl ⟨by rfl, by (intro w; go_simp)⟩) ?_
              go_simp
              refine wpAny_take (i := 22) (v := .bool true) rfl (by kernel_rfl) (by kernel_rfl) (by kernel_rfl) (fun _ _ _ h => h) (Or.inl ⟨by rfl, by (intro w; go_simp)⟩) ?_
              go_simp
              refine wpAny_take (i := 23) (v := .bool true) rfl (by kernel_rfl) (by kernel_rfl) (by kernel_rfl) (fun _ _ _ h => h) (Or.inl ⟨by rfl, by (intro w; go_simp)⟩) ?_
              go_simp
              refine wpAny_done (by kernel_rfl) ?_ _
              go_wp2_with fail
              go_ret
              exact ⟨by rw [under_false d n i t _ ht2 (by rw [HKK.out]; exact fun hok => by have := (hok g2).2; rw [HBB.out] at this; cases this)]; rfl, B3.out⟩
      · have g3 : decide ((kk : Int) < (n : Int)) = false := decide_eq_false (by omega)
        go_wp2_with fail
        go_quiet (fail)
        go_wp2_with fail
        go_roundw
        case rel => exact ⟨t + 1, by go_num, by omega, Lib.hid (below_drewN HB.out _), Lib.hid HC.out, Lib.hid (fun u hu => by
          by_cases e : u = t
          · subst e; rw [HKK.out]; exact fun hh => absurd hh g2
          · exact HOK.out u (by omega))⟩
        case measure => simp [intOf]; omega
    · go_wp2_with fail
      go_ret
      exact ⟨by rw [(under_step_iff d n i _).2 (fun u hu => HOK.out u (by omega))]; rfl, HB.out⟩

set_option maxHeartbeats 16000000 in
set_option maxRecDepth 100000 in
theorem underStep_false (i n : Nat) (v : Value) (d : Array Int) (w : World) (hr : Rd w v d) (hn : n ≤ d.size) (hs : d.size ≤ 1048576) (hi : i ≤ 1048576) (hin : i < n)
    (IH : ∀ k w', i < k → k < n → Rd w' v d → Calls Try.prog 28 #[v, .int .i64 k, .int .i64 n, .bool true] w' fun e w'' => e = .returned (.bool (underB d n n k true)) ∧ Below w'.heap.size w' w'') :
    Calls Try.prog 28 #[v, .int .i64 i, .int .i64 n, .bool false] w fun e w' => e = .returned (.bool (underB d n n i false)) ∧ Below w.heap.size w w' := by
  have HR := Lib.hid hr
  obtain ⟨A, c, rfl, _, _, hcl⟩ := hr
  obtain ⟨b, o, rfl, hlt, hcells⟩ := hcl (by omega)
  have HI := Lib.hid IH
  have HCL := Lib.hid hcells
  obtain ⟨s, hsz⟩ : ∃ s : Nat, d.size = s := ⟨_, rfl⟩
  rw [hsz]
  rw [hsz] at HR HI
  have HSZ := Lib.hid hsz
  have hns : n ≤ s := by omega
  have hsb : s ≤ 1048576 := by omega
  obtain ⟨j1, hj1⟩ : ∃ j1 : Nat, 2 * i + 1 = j1 := ⟨_, rfl⟩
  obtain ⟨j2, hj2⟩ : ∃ j2 : Nat, 2 * i + 2 = j2 := ⟨_, rfl⟩
  have e1 : 2 * (i : Int) + 1 = (j1 : Int) := by omega
  have e2 : 2 * (i : Int) + 2 = (j2 : Int) := by omega
  have HJ1 := Lib.hid hj1
  have HJ2 := Lib.hid hj2
  clear IH hcl hcells hsz hn hs hj1 hj2
  go_enter Try.func28, Try.ntmps28
  go_wp2_with fail
  go_loopw [19] (fun vt wr => ∃ (t : Nat), vt = .int .i64 t ∧ t ≤ 2 ∧ Hid (Below w.heap.size w wr) ∧ Hid (wr.cell? ⟨w.heap.size, 0, none⟩ = some (.int .i64 j1) ∧ wr.cell? ⟨w.heap.size, 1, none⟩ = some (.int .i64 j2) ∧ w.heap.size < wr.heap.size) ∧ Hid (∀ u, u < t → okB d n i (2 * i + 1 + u) false)) (fun vt _ => 2 - (intOf vt).toNat)
  case atStart => exact ⟨0, rfl, by omega, Lib.hid ((Below.refl _ _).alloc (Nat.le_refl _) _), Lib.hid ⟨by simp, by simp, by simp⟩, Lib.hid (fun u hu => by omega)⟩
  case round =>
    obtain ⟨t, rfl, ht, HB, HC, HOK⟩ := hrel
    by_cases ht2 : t < 2
    · obtain ⟨kk, hkk, hck⟩ : ∃ kk : Nat, 2 * i + 1 + t = kk ∧ wr.cell? ⟨w.heap.size, t, none⟩ = some (.int .i64 kk) := by
        have : t = 0 ∨ t = 1 := by omega
        rcases this with rfl | rfl
        · exact ⟨j1, by have := HJ1.out; omega, HC.out.1⟩
        · exact ⟨j2, by have := HJ2.out; omega, HC.out.2.1⟩
      have HKK := Lib.hid hkk
      have hik : i < kk := by omega
      have hti : (t : Int) < 2 := by omega
      have HRW : Hid (Rd wr (.slice (some ⟨b, o, none⟩) s c) d) := Lib.hid (HR.out.below HB.out)
      clear hkk
      by_cases g2 : kk < n
      · have g2' : (kk : Int) < (n : Int) := by omega
        have hks : (kk : Int) < (s : Int) := by omega
        have his : (i : Int) < (s : Int) := by omega
        cases hbb : underB d n n kk true with
        | true =>
          have HBB := Lib.hid hbb
          clear hbb
          go_wp2_with fail
          refine wp_region_any (by kernel_rfl) ?_
          change wpAny _ _ _ _ _ _ _ (World.drew _)
          refine wpAny_take (i := 0) (v := .int .i64 kk) rfl (by kernel_rfl) (by kernel_rfl) (by kernel_rfl) (fun _ _ _ h => h) (Or.inl ⟨by rfl, by (intro w; go_simp)⟩) ?_
          go_simp
          refine wpAny_take (i := 1) (v := .int .i64 n) rfl (by kernel_rfl) (by kernel_rfl) (by kernel_rfl) (fun _ _ _ h => h) (Or.inl ⟨by rfl, by (intro w; go_simp)⟩) ?_
          go_simp
          refine wpAny_take (i := 2) (v := .bool true) rfl (by kernel_rfl) (by kernel_rfl) (by kernel_rfl) (fun _ _ _ h => h) (Or.inl ⟨by rfl, by (intro w; go_simp)⟩) ?_
          go_simp
          refine wpAny_take (i := 3) (v := .bool true) rfl (by kernel_rfl) (by kernel_rfl) (by kernel_rfl) (fun _ _ _ h => h) (Or.inl ⟨by rfl, by (intro w; go_simp)⟩) ?_
          go_simp
          refine wpAny_take (i := 4) (v := .bool false) rfl (by kernel_rfl) (by kernel_rfl) (by kernel_rfl) (fun _ _ _ h => h) (Or.inl ⟨by rfl, by (intro w; go_simp)⟩) ?_
          go_simp
          refine wpAny_take (i := 5) (v := .bool false) rfl (by kernel_rfl) (by kernel_rfl) (by kernel_rfl) (fun _ _ _ h => h) (Or.inl ⟨by rfl, by (intro w; go_simp)⟩) ?_
          go_simp
          refine wpAny_take (i := 6) (v := undef) rfl (by kernel_rfl) (by kernel_rfl) (by kernel_rfl) (fun _ _ _ h => h) (Or.inr ⟨by rfl, rfl⟩) ?_
          go_simp
          refine wpAny_take (i := 7) (v := undef) rfl (by kernel_rfl) (by kernel_rfl) (by kernel_rfl) (fun _ _ _ h => h) (Or.inr ⟨by rfl, rfl⟩) ?_
          go_simp
          refine wpAny_take (i := 8) (v := undef) rfl (by kernel_rfl) (by kernel_rfl) (by kernel_rfl) (fun _ _ _ h => h) (Or.inr ⟨by rfl, rfl⟩) ?_
          go_simp
          refine wpAny_take (i := 9) (v := undef) rfl (by kernel_rfl) (by kernel_rfl) (by kernel_rfl) (fun _ _ _ h => h) (Or.inr ⟨by rfl, rfl⟩) ?_
          go_simp
          refine wpAny_take (i := 10) (v := undef) rfl (by kernel_rfl) (by kernel_rfl) (by kernel_rfl) (fun _ _ _ h => h) (Or.inr ⟨by rfl, rfl⟩) ?_
          go_simp
          refine wpAny_take (i := 11) (v := undef) rfl (by kernel_rfl) (by kernel_rfl) (by kernel_rfl) (fun _ _ _ h => h) (Or.inr ⟨by rfl, rfl⟩) ?_
          go_simp
          refine wpAny_take (i := 12) (v := undef) rfl (by kernel_rfl) (by kernel_rfl) (by kernel_rfl) (fun _ _ _ h => h) (Or.inr ⟨by rfl, rfl⟩) ?_
          go_simp
          refine wpAny_take (i := 13) (v := undef) rfl (by kernel_rfl) (by kernel_rfl) (by kernel_rfl) (fun _ _ _ h => h) (Or.inr ⟨by rfl, rfl⟩) ?_
          go_simp
          refine wpAny_take (i := 14) (v := undef) rfl (by kernel_rfl) (by kernel_rfl) (by kernel_rfl) (fun _ _ _ h => h) (Or.inr ⟨by rfl, rfl⟩) ?_
          go_simp
          refine wpAny_take (i := 15) (v := .bool false) rfl (by kernel_rfl) (by kernel_rfl) (by kernel_rfl) (fun _ _ _ h => h) (Or.inl ⟨by rfl, by (intro w; go_simp)⟩) ?_
          go_simp
          refine wpAny_take (i := 16) (v := .bool false) rfl (by kernel_rfl) (by kernel_rfl) (by kernel_rfl) (fun _ _ _ h => h) (Or.inl ⟨by rfl, by (intro w; go_simp)⟩) ?_
          go_simp
          refine wpAny_take (i := 17) (v := .slice (some ⟨b, o, none⟩) s c) rfl (by kernel_rfl) (by kernel_rfl) (by kernel_rfl) (fun _ _ _ h => h) (Or.inl ⟨by rfl, by (intro w; go_simp)⟩) ?_
          go_simp
          refine wpAny_take (i := 18) (v := .int .i64 kk) rfl (by kernel_rfl) (by kernel_rfl) (by kernel_rfl) (fun _ _ _ h => h) (Or.inl ⟨by rfl, by (intro w; go_simp)⟩) ?_
          go_simp
          refine wpAny_take (i := 19) (v := .int .i64 n) rfl (by kernel_rfl) (by kernel_rfl) (by kernel_rfl) (fun _ _ _ h => h) (Or.inl ⟨by rfl, by (intro w; go_simp)⟩) ?_
          go_simp
          refine wpAny_ready (rs := [20]) (by kernel_rfl) (by simp) ?_
          refine AllReady.cons rfl (fun K hK => ?_) AllReady.nil
          go_simp
          refine (HI.out kk wr.drew hik g2 (by exact HRW.out.drewN 1)).mono ?_
          rintro e w3 ⟨rfl, hb3⟩
          rw [HBB.out]
          have B3 : Hid (Below w.heap.size w w3) := Lib.hid ((below_drewN HB.out 1).trans (hb3.mono HB.out.size))
          have C3 : Hid (w3.cell? ⟨w.heap.size, 0, none⟩ = some (.int .i64 j1) ∧ w3.cell? ⟨w.heap.size, 1, none⟩ = some (.int .i64 j2) ∧ w.heap.size < w3.heap.size) := Lib.hid ⟨(hb3.cell (p := ⟨w.heap.size, 0, none⟩) HC.out.2.2).trans HC.out.1, (hb3.cell (p := ⟨w.heap.size, 1, none⟩) HC.out.2.2).trans HC.out.2.1, Nat.lt_of_lt_of_le HC.out.2.2 hb3.size⟩
          clear hb3
          go_simp
          refine hK _ _ ?_
          clear hK K
          refine wpAny_take (i := 21) (v := .bool false) rfl (by kernel_rfl) (by kernel_rfl) (by kernel_rfl) (fun _ _ _ h => h) (Or.inl ⟨by rfl, by (intro w; go_simp)⟩) ?_
          go_simp
          refine wpAny_take (i := 22) (v := .bool false) rfl (by kernel_rfl) (by kernel_rfl) (by kernel_rfl) (fun _ _ _ h => h) (Or.inl ⟨by rfl, by (intro w; go_simp)⟩) ?_
          go_simp
          refine wpAny_take (i := 23) (v := .bool false) rfl (by kernel_rfl) (by kernel_rfl) (by kernel_rfl) (fun _ _ _ h => h) (Or.inl ⟨by rfl, by (intro w; go_simp)⟩) ?_
          go_simp
          refine wpAny_done (by kernel_rfl) ?_ _
          go_wp2_with fail
          go_roundw
          case rel => exact ⟨t + 1, by go_num, by omega, B3, C3, Lib.hid (fun u hu => by
            by_cases e : u = t
            · subst e; rw [HKK.out]; exact fun _ => ⟨(fun hh => by cases hh), HBB.out⟩
            · exact HOK.out u (by omega))⟩
          case measure => simp [intOf]; omega
        | false =>
          have HBB := Lib.hid hbb
          clear hbb
          go_wp2_with fail
          refine wp_region_any (by kernel_rfl) ?_
          change wpAny _ _ _ _ _ _ _ (World.drew _)
          refine wpAny_take (i := 0) (v := .int .i64 kk) rfl (by kernel_rfl) (by kernel_rfl) (by kernel_rfl) (fun _ _ _ h => h) (Or.inl ⟨by rfl, by (intro w; go_simp)⟩) ?_
          go_simp
          refine wpAny_take (i := 1) (v := .int .i64 n) rfl (by kernel_rfl) (by kernel_rfl) (by kernel_rfl) (fun _ _ _ h => h) (Or.inl ⟨by rfl, by (intro w; go_simp)⟩) ?_
          go_simp
          refine wpAny_take (i := 2) (v := .bool true) rfl (by kernel_rfl) (by kernel_rfl) (by kernel_rfl) (fun _ _ _ h => h) (Or.inl ⟨by rfl, by (intro w; go_simp)⟩) ?_
          go_simp
          refine wpAny_take (i := 3) (v := .bool true) rfl (by kernel_rfl) (by kernel_rfl) (by kernel_rfl) (fun _ _ _ h => h) (Or.inl ⟨by rfl, by (intro w; go_simp)⟩) ?_
          go_simp
          refine wpAny_take (i := 4) (v := .bool false) rfl (by kernel_rfl) (by kernel_rfl) (by kernel_rfl) (fun _ _ _ h => h) (Or.inl ⟨by rfl, by (intro w; go_simp)⟩) ?_
          go_simp
          refine wpAny_take (i := 5) (v := .bool false) rfl (by kernel_rfl) (by kernel_rfl) (by kernel_rfl) (fun _ _ _ h => h) (Or.inl ⟨by rfl, by (intro w; go_simp)⟩) ?_
          go_simp
          refine wpAny_take (i := 6) (v := undef) rfl (by kernel_rfl) (by kernel_rfl) (by kernel_rfl) (fun _ _ _ h => h) (Or.inr ⟨by rfl, rfl⟩) ?_
          go_simp
          refine wpAny_take (i := 7) (v := undef) rfl (by kernel_rfl) (by kernel_rfl) (by kernel_rfl) (fun _ _ _ h => h) (Or.inr ⟨by rfl, rfl⟩) ?_
          go_simp
          refine wpAny_take (i := 8) (v := undef) rfl (by kernel_rfl) (by kernel_rfl) (by kernel_rfl) (fun _ _ _ h => h) (Or.inr ⟨by rfl, rfl⟩) ?_
          go_simp
          refine wpAny_take (i := 9) (v := undef) rfl (by kernel_rfl) (by kernel_rfl) (by kernel_rfl) (fun _ _ _ h => h) (Or.inr ⟨by rfl, rfl⟩) ?_
          go_simp
          refine wpAny_take (i := 10) (v := undef) rfl (by kernel_rfl) (by kernel_rfl) (by kernel_rfl) (fun _ _ _ h => h) (Or.inr ⟨by rfl, rfl⟩) ?_
          go_simp
          refine wpAny_take (i := 11) (v := undef) rfl (by kernel_rfl) (by kernel_rfl) (by kernel_rfl) (fun _ _ _ h => h) (Or.inr ⟨by rfl, rfl⟩) ?_
          go_simp
          refine wpAny_take (i := 12) (v := undef) rfl (by kernel_rfl) (by kernel_rfl) (by kernel_rfl) (fun _ _ _ h => h) (Or.inr ⟨by rfl, rfl⟩) ?_
          go_simp
          refine wpAny_take (i := 13) (v := undef) rfl (by kernel_rfl) (by kernel_rfl) (by kernel_rfl) (fun _ _ _ h => h) (Or.inr ⟨by rfl, rfl⟩) ?_
          go_simp
          refine wpAny_take (i := 14) (v := undef) rfl (by kernel_rfl) (by kernel_rfl) (by kernel_rfl) (fun _ _ _ h => h) (Or.inr ⟨by rfl, rfl⟩) ?_
          go_simp
          refine wpAny_take (i := 15) (v := .bool false) rfl (by kernel_rfl) (by kernel_rfl) (by kernel_rfl) (fun _ _ _ h => h) (Or.inl ⟨by rfl, by (intro w; go_simp)⟩) ?_
          go_simp
          refine wpAny_take (i := 16) (v := .bool false) rfl (by kernel_rfl) (by kernel_rfl) (by kernel_rfl) (fun _ _ _ h => h) (Or.inl ⟨by rfl, by (intro w; go_simp)⟩) ?_
          go_simp
          refine wpAny_take (i := 17) (v := .slice (some ⟨b, o, none⟩) s c) rfl (by kernel_rfl) (by kernel_rfl) (by kernel_rfl) (fun _ _ _ h => h) (Or.inl ⟨by rfl, by (intro w; go_simp)⟩) ?_
          go_simp
          refine wpAny_take (i := 18) (v := .int .i64 kk) rfl (by kernel_rfl) (by kernel_rfl) (by kernel_rfl) (fun _ _ _ h => h) (Or.inl ⟨by rfl, by (intro w; go_simp)⟩) ?_
          go_simp
          refine wpAny_take (i := 19) (v := .int .i64 n) rfl (by kernel_rfl) (by kernel_rfl) (by kernel_rfl) (fun _ _ _ h => h) (Or.inl ⟨by rfl, by (intro w; go_simp)⟩) ?_
          go_simp
          refine wpAny_ready (rs := [20]) (by kernel_rfl) (by simp) ?_
          refine AllReady.cons rfl (fun K hK => ?_) AllReady.nil
          go_simp
          refine (HI.out kk wr.drew hik g2 (by exact HRW.out.drewN 1)).mono ?_
          rintro e w3 ⟨rfl, hb3⟩
          rw [HBB.out]
          have B3 : Hid (Below w.heap.size w w3) := Lib.hid ((below_drewN HB.out 1).trans (hb3.mono HB.out.size))
          have C3 : Hid (w3.cell? ⟨w.heap.size, 0, none⟩ = some (.int .i64 j1) ∧ w3.cell? ⟨w.heap.size, 1, none⟩ = some (.int .i64 j2) ∧ w.heap.size < w3.heap.size) := Lib.hid ⟨(hb3.cell (p := ⟨w.heap.size, 0, none⟩) HC.out.2.2).trans HC.out.1, (hb3.cell (p := ⟨w.heap.size, 1, none⟩) HC.out.2.2).trans HC.out.2.1, Nat.lt_of_lt_of_le HC.out.2.2 hb3.size⟩
          clear hb3
          go_simp
          refine hK _ _ ?_
          clear hK K
          refine wpAny_take (i := 21) (v := .bool true) rfl (by kernel_rfl) (by kernel_rfl) (by kernel_rfl) (fun _ _ _ h => h) (Or.inl ⟨by rfl, by (intro w; go_simp)⟩) ?_
          go_simp
          refine wpAny_take (i := 22) (v := .bool true) rfl (by kernel_rfl) (by kernel_rfl) (by kernel_rfl) (fun _ _ _ h => h) (Or.inl ⟨by rfl, by (intro w; go_simp)⟩) ?_
          go_simp
          refine wpAny_take (i := 23) (v := .bool true) rfl (by kernel_rfl) (by kernel_rfl) (by kernel_rfl) (fun _ _ _ h => h) (Or.inl ⟨by rfl, by (intro w; go_simp)⟩) ?_
          go_simp
          refine wpAny_done (by kernel_rfl) ?_ _
          go_wp2_with fail
          go_ret
          exact ⟨by rw [under_false d n i t _ ht2 (by rw [HKK.out]; exact fun hok => by have := (hok g2).2; rw [HBB.out] at this; cases this)]; rfl, B3.out⟩
      · have g3 : decide ((kk : Int) < (n : Int)) = false := decide_eq_false (by omega)
        go_wp2_with fail
        go_quiet (fail)
        go_wp2_with fail
        go_roundw
        case rel => exact ⟨t + 1, by go_num, by omega, Lib.hid (below_drewN HB.out _), Lib.hid HC.out, Lib.hid (fun u hu => by
          by_cases e : u = t
          · subst e; rw [HKK.out]; exact fun hh => absurd hh g2
          · exact HOK.out u (by omega))⟩
        case measure => simp [intOf]; omega
    · go_wp2_with fail
      go_ret
      exact ⟨by rw [(under_step_iff d n i _).2 (fun u hu => HOK.out u (by omega))]; rfl, HB.out⟩

set_option maxHeartbeats 1000000 in
/-- Where nothing lies below. -/
theorem under_leaf (i n : Nat) (whole : Bool) (v : Value) (d : Array Int) (w : World) (hi : i ≤ 1048576) (hin : n ≤ i) :
    Calls Try.prog 28 #[v, .int .i64 i, .int .i64 n, .bool whole] w fun e w' => e = .returned (.bool (underB d n n i whole)) ∧ Below w.heap.size w w' := by
  have HU : Hid (underB d n n i whole = true) := Lib.hid ((under_step_iff d n i whole).2 (fun t ht hh => by omega))
  obtain ⟨j1, hj1⟩ : ∃ j1 : Nat, 2 * i + 1 = j1 := ⟨_, rfl⟩
  obtain ⟨j2, hj2⟩ : ∃ j2 : Nat, 2 * i + 2 = j2 := ⟨_, rfl⟩
  have e1 : 2 * (i : Int) + 1 = (j1 : Int) := by omega
  have e2 : 2 * (i : Int) + 2 = (j2 : Int) := by omega
  have hb1 : n ≤ j1 := by omega
  have hb2 : n ≤ j2 := by omega
  clear hj1 hj2 hin
  go_enter Try.func28, Try.ntmps28
  go_wp2_with fail
  go_loopw [19] (fun vt wr => ∃ (t : Nat), vt = .int .i64 t ∧ t ≤ 2 ∧ Hid (Below w.heap.size w wr) ∧ Hid (wr.cell? ⟨w.heap.size, 0, none⟩ = some (.int .i64 j1) ∧ wr.cell? ⟨w.heap.size, 1, none⟩ = some (.int .i64 j2))) (fun vt _ => 2 - (intOf vt).toNat)
  case atStart => exact ⟨0, rfl, by omega, Lib.hid ((Below.refl _ _).alloc (Nat.le_refl _) _), Lib.hid ⟨by simp, by simp⟩⟩
  case round =>
    obtain ⟨t, rfl, ht, HB, HC⟩ := hrel
    by_cases ht2 : t < 2
    · obtain ⟨kk, hkk, hck⟩ : ∃ kk : Nat, ¬ kk < n ∧ wr.cell? ⟨w.heap.size, t, none⟩ = some (.int .i64 kk) := by
        have : t = 0 ∨ t = 1 := by omega
        rcases this with rfl | rfl
        · exact ⟨j1, by omega, HC.out.1⟩
        · exact ⟨j2, by omega, HC.out.2⟩
      have hti : (t : Int) < 2 := by omega
      have g3 : decide ((kk : Int) < (n : Int)) = false := decide_eq_false (by omega)
      go_wp2_with fail
      go_quiet (fail)
      go_wp2_with fail
      go_roundw
      case rel => exact ⟨t + 1, by go_num, by omega, Lib.hid (below_drewN HB.out _), Lib.hid HC.out⟩
      case measure => simp [intOf]; omega
    · go_wp2_with fail
      go_ret
      exact ⟨by rw [HU.out]; rfl, HB.out⟩

theorem under_any (m : Nat) : ∀ (i n : Nat) (whole : Bool) (v : Value) (d : Array Int) (w : World), n - i ≤ m → Rd w v d → n ≤ d.size → d.size ≤ 1048576 → i ≤ 1048576 →
    Calls Try.prog 28 #[v, .int .i64 i, .int .i64 n, .bool whole] w fun e w' => e = .returned (.bool (underB d n n i whole)) ∧ Below w.heap.size w w' := by
  induction m with
  | zero => intro i n whole v d w hm hr hn hs hi; exact under_leaf i n whole v d w hi (by omega)
  | succ m ih =>
    intro i n whole v d w hm hr hn hs hi
    by_cases hin : i < n
    · cases whole with
      | true => exact underStep_true i n v d w hr hn hs hi hin (fun k w' h1 h2 h3 => ih k n true v d w' (by omega) h3 hn hs (by omega))
      | false => exact underStep_false i n v d w hr hn hs hi hin (fun k w' h1 h2 h3 => ih k n true v d w' (by omega) h3 hn hs (by omega))
    · exact under_leaf i n whole v d w hi (by omega)

end Go.Proofs.Ytkceigigdklaoaa
