/-
  The walks of the exported functions over a copy (heapinner), and of the thin package (impl): each hands back a list of the call's own. Conditions: the place lies in the list; far shorter than the bounds of the model.
-/
import Derived.Test.YtkceigigdklaoaaPkgb
namespace Go.Proofs.Ytkceigigdklaoaa
open Go.RowKit Go.Sort

theorem below_drewN {B : Nat} {a w : World} (h : Below B a w) (n : Nat) : Below B a (w.drewN n) := ⟨h.os, h.tape, h.output, h.size, h.block⟩
theorem own_base {w : World} {B B' : Nat} {v : Value} {d : Array Int} (h : Own w B v d) (hB : B' ≤ B) : Own w B' v d := by
  refine ⟨h.1, ?_⟩
  rcases h.2 with hn | ⟨g, cap, cur, hv, hb, hr⟩
  · exact .inl hn
  · exact .inr ⟨g, cap, cur, hv, by omega, hr⟩

/-- What a call that hands back a list answers. -/
def Hands (B : Nat) (w : World) (d : Array Int) (e : Ending) (w' : World) : Prop := ∃ v', e = .returned v' ∧ Own w' B v' d ∧ Below B w w'
/-- What a call that hands back a list and a value answers. -/
def Hands2 (B : Nat) (w : World) (d : Array Int) (x : Value) (e : Ending) (w' : World) : Prop := ∃ v', e = .returned (.tuple #[v', x]) ∧ Own w' B v' d ∧ Below B w w'


set_option maxHeartbeats 1000000 in
theorem inner_Up (v : Value) (d : Array Int) (j : Nat) (w : World) (hr : Rd w v d) (hj : j < d.size) (hs : d.size ≤ 1099511627776) :
    Calls Try.prog 32 #[v, .int .i64 j] w (Hands w.heap.size w (upA d j)) := by
  have HR := Lib.hid hr
  clear hr
  go_enter Try.func32, Try.ntmps32
  go_wp2_with fail
  refine (clone_any v d w HR.out (by omega)).mono ?_
  rintro e w1 ⟨p, v1, rfl, hb, hbel⟩
  have HB := Lib.hid hb
  have HL := Lib.hid hbel
  have hc := hb.cell
  clear hb hbel
  go_wp2_with fail
  refine (up_box w.heap.size p j v1 d w1 HB.out hj hs).mono ?_
  rintro e w2 ⟨rfl, hb1, hb2⟩
  have H1 := Lib.hid hb1
  have H2 := Lib.hid hb2
  have hc2 := hb1.cell
  clear hb1 hb2
  go_wp2_with fail
  go_ret
  exact ⟨_, rfl, H1.out.own, HL.out.trans H2.out⟩


set_option maxHeartbeats 1000000 in
theorem inner_Init (v : Value) (d : Array Int) (w : World) (hr : Rd w v d) (hs : d.size ≤ 1099511627776) :
    Calls Try.prog 33 #[v] w (Hands w.heap.size w (initA d.size (d.size / 2) d)) := by
  have HR := Lib.hid hr
  clear hr
  go_enter Try.func33, Try.ntmps33
  go_wp2_with fail
  refine (clone_any v d w HR.out (by omega)).mono ?_
  rintro e w1 ⟨p, v1, rfl, hb, hbel⟩
  have HB := Lib.hid hb
  have HL := Lib.hid hbel
  have hc := hb.cell
  clear hb hbel
  go_wp2_with fail
  refine (init_box w.heap.size p v1 d w1 HB.out hs).mono ?_
  rintro e w2 ⟨rfl, hb1, hb2⟩
  have H1 := Lib.hid hb1
  have H2 := Lib.hid hb2
  have hc2 := hb1.cell
  clear hb1 hb2
  go_wp2_with fail
  go_ret
  exact ⟨_, rfl, H1.out.own, HL.out.trans H2.out⟩


set_option maxHeartbeats 1000000 in
theorem inner_Down (v : Value) (d : Array Int) (i n : Nat) (w : World) (hr : Rd w v d) (h0 : 0 < d.size) (hn : n ≤ d.size) (hi : i ≤ d.size) (hs : d.size ≤ 1099511627776) :
    Calls Try.prog 34 #[v, .int .i64 i, .int .i64 n] w (Hands2 w.heap.size w (downA d i n).1 (.bool (decide (i < (downA d i n).2)))) := by
  have HR := Lib.hid hr
  clear hr
  go_enter Try.func34, Try.ntmps34
  go_wp2_with fail
  refine (clone_any v d w HR.out (by omega)).mono ?_
  rintro e w1 ⟨p, v1, rfl, hb, hbel⟩
  have HB := Lib.hid hb
  have HL := Lib.hid hbel
  have hc := hb.cell
  clear hb hbel
  go_wp2_with fail
  refine (down_box w.heap.size p i n v1 d w1 HB.out h0 hn hi hs).mono ?_
  rintro e w2 ⟨rfl, hb1, hb2⟩
  generalize hz : decide (i < (downA d i n).2) = z at *
  clear hz
  have H1 := Lib.hid hb1
  have H2 := Lib.hid hb2
  have hc2 := hb1.cell
  clear hb1 hb2
  go_wp2_with fail
  go_ret2
  exact ⟨_, rfl, H1.out.own, HL.out.trans H2.out⟩


set_option maxHeartbeats 1000000 in
theorem inner_Push (v : Value) (d : Array Int) (x : Int) (w : World) (hr : Rd w v d) (hs : d.size + 1 ≤ 1099511627776) :
    Calls Try.prog 37 #[v, .int .i64 x] w (Hands w.heap.size w (pushA d x)) := by
  have HR := Lib.hid hr
  clear hr
  go_enter Try.func37, Try.ntmps37
  go_wp2_with fail
  refine (clone_any v d w HR.out (by omega)).mono ?_
  rintro e w1 ⟨p, v1, rfl, hb, hbel⟩
  have HB := Lib.hid hb
  have HL := Lib.hid hbel
  have hc := hb.cell
  clear hb hbel
  go_wp2_with fail
  refine (push_box w.heap.size p v1 d x w1 HB.out hs).mono ?_
  rintro e w2 ⟨rfl, v2, hb1, hb2⟩
  have H1 := Lib.hid hb1
  have H2 := Lib.hid hb2
  have hc2 := hb1.cell
  clear hb1 hb2
  go_wp2_with fail
  go_ret
  exact ⟨_, rfl, H1.out.own, HL.out.trans H2.out⟩


set_option maxHeartbeats 1000000 in
theorem inner_Pop (v : Value) (d : Array Int) (w : World) (hr : Rd w v d) (h0 : 0 < d.size) (hs : d.size ≤ 1099511627776) :
    Calls Try.prog 35 #[v] w (Hands2 w.heap.size w (popA d).pop (.int .i64 (popA d)[d.size - 1]!)) := by
  have HR := Lib.hid hr
  clear hr
  go_enter Try.func35, Try.ntmps35
  go_wp2_with fail
  refine (clone_any v d w HR.out (by omega)).mono ?_
  rintro e w1 ⟨p, v1, rfl, hb, hbel⟩
  have HB := Lib.hid hb
  have HL := Lib.hid hbel
  have hc := hb.cell
  clear hb hbel
  go_wp2_with fail
  refine (pop_box w.heap.size p v1 d w1 HB.out h0 hs).mono ?_
  rintro e w2 ⟨rfl, v2, hb1, hb2⟩
  have ha := assert_int (popA d)[d.size - 1]!
  have H1 := Lib.hid hb1
  have H2 := Lib.hid hb2
  have hc2 := hb1.cell
  clear hb1 hb2
  go_wp2_with fail
  go_quiet (fail)
  go_wp2
  go_ret2
  exact ⟨_, rfl, H1.out.own, below_drewN (HL.out.trans H2.out) _⟩


set_option maxHeartbeats 1000000 in
theorem inner_Remove (v : Value) (d : Array Int) (i : Nat) (w : World) (hr : Rd w v d) (hi : i < d.size) (hs : d.size ≤ 1099511627776) :
    Calls Try.prog 36 #[v, .int .i64 i] w (Hands2 w.heap.size w (removeA d i).pop (.int .i64 (removeA d i)[d.size - 1]!)) := by
  have HR := Lib.hid hr
  clear hr
  go_enter Try.func36, Try.ntmps36
  go_wp2_with fail
  refine (clone_any v d w HR.out (by omega)).mono ?_
  rintro e w1 ⟨p, v1, rfl, hb, hbel⟩
  have HB := Lib.hid hb
  have HL := Lib.hid hbel
  have hc := hb.cell
  clear hb hbel
  go_wp2_with fail
  refine (remove_box w.heap.size p i v1 d w1 HB.out hi hs).mono ?_
  rintro e w2 ⟨rfl, v2, hb1, hb2⟩
  have ha := assert_int (removeA d i)[d.size - 1]!
  have H1 := Lib.hid hb1
  have H2 := Lib.hid hb2
  have hc2 := hb1.cell
  clear hb1 hb2
  go_wp2_with fail
  go_quiet (fail)
  go_wp2
  go_ret2
  exact ⟨_, rfl, H1.out.own, below_drewN (HL.out.trans H2.out) _⟩


set_option maxHeartbeats 1000000 in
theorem inner_Fix (v : Value) (d : Array Int) (i : Nat) (x : Int) (w : World) (hr : Rd w v d) (hi : i < d.size) (hs : d.size ≤ 1099511627776) :
    Calls Try.prog 38 #[v, .int .i64 i, .int .i64 x] w (Hands w.heap.size w (fixA (d.setIfInBounds i x) i d.size)) := by
  have HR := Lib.hid hr
  clear hr
  go_enter Try.func38, Try.ntmps38
  go_wp2_with fail
  refine (clone_any v d w HR.out (by omega)).mono ?_
  rintro e w1 ⟨p, v1, rfl, hb, hbel⟩
  have HB := Lib.hid hb
  have HL := Lib.hid hbel
  have hc := hb.cell
  clear hb hbel
  obtain ⟨g, cap, hv1, hb1, hgp, hcc, hH, hput⟩ := HB.out.open_ (by omega)
  obtain ⟨hcell, hfree⟩ := hH i hi
  rw [Nat.zero_add] at hcell hfree
  have hset := putRow_set (Value.int .i64) w1 g 0 d i x hi
  rw [putRow_self _ w1 g 0 d hH, Nat.zero_add] at hset
  have hbox := hput (d.setIfInBounds i x) 0 (by simp)
  rw [World.drewN_zero, ← hset] at hbox
  have HX := Lib.hid hbox
  clear hset hbox hput hH hc hb1
  rw [hv1] at HX HB
  clear hv1
  go_wp2_with fail
  have hz : (d.setIfInBounds i x).size = d.size := by simp
  refine (fix_box w.heap.size p i _ (d.setIfInBounds i x) _ HX.out.1 (by rw [hz]; exact hi) (by rw [hz]; exact hs)).mono ?_
  rintro e w2 ⟨rfl, hb1, hb2⟩
  rw [hz] at hb1
  clear hz
  have H1 := Lib.hid hb1
  have H2 := Lib.hid hb2
  have hc2 := hb1.cell
  clear hb1 hb2
  go_wp2_with fail
  go_ret
  exact ⟨_, rfl, H1.out.own, (HL.out.trans HX.out.2).trans H2.out⟩


set_option maxHeartbeats 1000000 in
theorem impl_Up (v : Value) (d : Array Int) (j : Nat) (w : World) (hr : Rd w v d) (hj : j < d.size) (hs : d.size ≤ 1099511627776) :
    Calls Try.prog 17 #[v, .int .i64 j] w (Hands w.heap.size w (upA d j)) := by
  have HR := Lib.hid hr
  clear hr
  go_enter Try.func17, Try.ntmps17
  go_wp2_with (at_builtin; refine wpList_app _ rfl _ _ 22 22 rfl Try.underlying22 Try.underlying22 w.heap.size (.slice (some ⟨w.heap.size, 0, none⟩) 0 0) v #[] d d d.size rfl rfl (by exact World.ownsRow_made (size := 1) w #[] 0 (Nat.le_refl _) (by simp [maxLen]) rfl) (by exact HR.out.below ((Below.refl _ _).alloc (Nat.le_refl _) _)) (by simp; omega) (by simp) Array.empty_append rfl ?_; intro A c w1 hown hg hb; have HO := Lib.hid hown; have HG := Lib.hid hg; clear hown hg hb)
  have HL : Hid (Below w.heap.size w w1) := Lib.hid (((Below.refl w.heap.size w).alloc (Nat.le_refl _) _).grown HG.out (by simp) (by simp [Value.ownBlock]))
  refine (inner_Up _ d j w1 HO.out.rd hj hs).mono ?_
  rintro e w2 ⟨v2, rfl, ho, hl⟩
  have H1 := Lib.hid ho
  have H2 := Lib.hid hl
  clear ho hl
  go_wp2_with fail
  go_ret
  exact ⟨_, rfl, own_base H1.out HL.out.size, HL.out.trans (H2.out.mono HL.out.size)⟩


set_option maxHeartbeats 1000000 in
theorem impl_Init (v : Value) (d : Array Int) (w : World) (hr : Rd w v d) (hs : d.size ≤ 1099511627776) :
    Calls Try.prog 20 #[v] w (Hands w.heap.size w (initA d.size (d.size / 2) d)) := by
  have HR := Lib.hid hr
  clear hr
  go_enter Try.func20, Try.ntmps20
  go_wp2_with (at_builtin; refine wpList_app _ rfl _ _ 22 22 rfl Try.underlying22 Try.underlying22 w.heap.size (.slice (some ⟨w.heap.size, 0, none⟩) 0 0) v #[] d d d.size rfl rfl (by exact World.ownsRow_made (size := 1) w #[] 0 (Nat.le_refl _) (by simp [maxLen]) rfl) (by exact HR.out.below ((Below.refl _ _).alloc (Nat.le_refl _) _)) (by simp; omega) (by simp) Array.empty_append rfl ?_; intro A c w1 hown hg hb; have HO := Lib.hid hown; have HG := Lib.hid hg; clear hown hg hb)
  have HL : Hid (Below w.heap.size w w1) := Lib.hid (((Below.refl w.heap.size w).alloc (Nat.le_refl _) _).grown HG.out (by simp) (by simp [Value.ownBlock]))
  refine (inner_Init _ d w1 HO.out.rd hs).mono ?_
  rintro e w2 ⟨v2, rfl, ho, hl⟩
  have H1 := Lib.hid ho
  have H2 := Lib.hid hl
  clear ho hl
  go_wp2_with fail
  go_ret
  exact ⟨_, rfl, own_base H1.out HL.out.size, HL.out.trans (H2.out.mono HL.out.size)⟩


set_option maxHeartbeats 1000000 in
theorem impl_Down (v : Value) (d : Array Int) (i n : Nat) (w : World) (hr : Rd w v d) (h0 : 0 < d.size) (hn : n ≤ d.size) (hi : i ≤ d.size) (hs : d.size ≤ 1099511627776) :
    Calls Try.prog 21 #[v, .int .i64 i, .int .i64 n] w (Hands2 w.heap.size w (downA d i n).1 (.bool (decide (i < (downA d i n).2)))) := by
  have HR := Lib.hid hr
  clear hr
  go_enter Try.func21, Try.ntmps21
  go_wp2_with (at_builtin; refine wpList_app _ rfl _ _ 22 22 rfl Try.underlying22 Try.underlying22 w.heap.size (.slice (some ⟨w.heap.size, 0, none⟩) 0 0) v #[] d d d.size rfl rfl (by exact World.ownsRow_made (size := 1) w #[] 0 (Nat.le_refl _) (by simp [maxLen]) rfl) (by exact HR.out.below ((Below.refl _ _).alloc (Nat.le_refl _) _)) (by simp; omega) (by simp) Array.empty_append rfl ?_; intro A c w1 hown hg hb; have HO := Lib.hid hown; have HG := Lib.hid hg; clear hown hg hb)
  have HL : Hid (Below w.heap.size w w1) := Lib.hid (((Below.refl w.heap.size w).alloc (Nat.le_refl _) _).grown HG.out (by simp) (by simp [Value.ownBlock]))
  refine (inner_Down _ d i n w1 HO.out.rd h0 hn hi hs).mono ?_
  rintro e w2 ⟨v2, rfl, ho, hl⟩
  have H1 := Lib.hid ho
  have H2 := Lib.hid hl
  clear ho hl
  go_wp2_with fail
  go_ret2
  exact ⟨_, rfl, own_base H1.out HL.out.size, HL.out.trans (H2.out.mono HL.out.size)⟩


set_option maxHeartbeats 1000000 in
theorem impl_Pop (v : Value) (d : Array Int) (w : World) (hr : Rd w v d) (h0 : 0 < d.size) (hs : d.size ≤ 1099511627776) :
    Calls Try.prog 23 #[v] w (Hands2 w.heap.size w (popA d).pop (.int .i64 (popA d)[d.size - 1]!)) := by
  have HR := Lib.hid hr
  clear hr
  go_enter Try.func23, Try.ntmps23
  go_wp2_with (at_builtin; refine wpList_app _ rfl _ _ 22 22 rfl Try.underlying22 Try.underlying22 w.heap.size (.slice (some ⟨w.heap.size, 0, none⟩) 0 0) v #[] d d d.size rfl rfl (by exact World.ownsRow_made (size := 1) w #[] 0 (Nat.le_refl _) (by simp [maxLen]) rfl) (by exact HR.out.below ((Below.refl _ _).alloc (Nat.le_refl _) _)) (by simp; omega) (by simp) Array.empty_append rfl ?_; intro A c w1 hown hg hb; have HO := Lib.hid hown; have HG := Lib.hid hg; clear hown hg hb)
  have HL : Hid (Below w.heap.size w w1) := Lib.hid (((Below.refl w.heap.size w).alloc (Nat.le_refl _) _).grown HG.out (by simp) (by simp [Value.ownBlock]))
  refine (inner_Pop _ d w1 HO.out.rd h0 hs).mono ?_
  rintro e w2 ⟨v2, rfl, ho, hl⟩
  have H1 := Lib.hid ho
  have H2 := Lib.hid hl
  clear ho hl
  go_wp2_with fail
  go_ret2
  exact ⟨_, rfl, own_base H1.out HL.out.size, HL.out.trans (H2.out.mono HL.out.size)⟩


set_option maxHeartbeats 1000000 in
theorem impl_Remove (v : Value) (d : Array Int) (i : Nat) (w : World) (hr : Rd w v d) (hi : i < d.size) (hs : d.size ≤ 1099511627776) :
    Calls Try.prog 24 #[v, .int .i64 i] w (Hands2 w.heap.size w (removeA d i).pop (.int .i64 (removeA d i)[d.size - 1]!)) := by
  have HR := Lib.hid hr
  clear hr
  go_enter Try.func24, Try.ntmps24
  go_wp2_with (at_builtin; refine wpList_app _ rfl _ _ 22 22 rfl Try.underlying22 Try.underlying22 w.heap.size (.slice (some ⟨w.heap.size, 0, none⟩) 0 0) v #[] d d d.size rfl rfl (by exact World.ownsRow_made (size := 1) w #[] 0 (Nat.le_refl _) (by simp [maxLen]) rfl) (by exact HR.out.below ((Below.refl _ _).alloc (Nat.le_refl _) _)) (by simp; omega) (by simp) Array.empty_append rfl ?_; intro A c w1 hown hg hb; have HO := Lib.hid hown; have HG := Lib.hid hg; clear hown hg hb)
  have HL : Hid (Below w.heap.size w w1) := Lib.hid (((Below.refl w.heap.size w).alloc (Nat.le_refl _) _).grown HG.out (by simp) (by simp [Value.ownBlock]))
  refine (inner_Remove _ d i w1 HO.out.rd hi hs).mono ?_
  rintro e w2 ⟨v2, rfl, ho, hl⟩
  have H1 := Lib.hid ho
  have H2 := Lib.hid hl
  clear ho hl
  go_wp2_with fail
  go_ret2
  exact ⟨_, rfl, own_base H1.out HL.out.size, HL.out.trans (H2.out.mono HL.out.size)⟩


set_option maxHeartbeats 1000000 in
theorem impl_Push (v : Value) (d : Array Int) (x : Int) (w : World) (hr : Rd w v d) (hs : d.size + 1 ≤ 1099511627776) :
    Calls Try.prog 26 #[v, .int .i64 x] w (Hands w.heap.size w (pushA d x)) := by
  have HR := Lib.hid hr
  clear hr
  go_enter Try.func26, Try.ntmps26
  go_wp2_with (at_builtin; refine wpList_app _ rfl _ _ 22 22 rfl Try.underlying22 Try.underlying22 w.heap.size (.slice (some ⟨w.heap.size, 0, none⟩) 0 0) v #[] d d d.size rfl rfl (by exact World.ownsRow_made (size := 1) w #[] 0 (Nat.le_refl _) (by simp [maxLen]) rfl) (by exact HR.out.below ((Below.refl _ _).alloc (Nat.le_refl _) _)) (by simp; omega) (by simp) Array.empty_append rfl ?_; intro A c w1 hown hg hb; have HO := Lib.hid hown; have HG := Lib.hid hg; clear hown hg hb)
  have HL : Hid (Below w.heap.size w w1) := Lib.hid (((Below.refl w.heap.size w).alloc (Nat.le_refl _) _).grown HG.out (by simp) (by simp [Value.ownBlock]))
  refine (inner_Push _ d x w1 HO.out.rd hs).mono ?_
  rintro e w2 ⟨v2, rfl, ho, hl⟩
  have H1 := Lib.hid ho
  have H2 := Lib.hid hl
  clear ho hl
  go_wp2_with fail
  go_ret
  exact ⟨_, rfl, own_base H1.out HL.out.size, HL.out.trans (H2.out.mono HL.out.size)⟩


set_option maxHeartbeats 1000000 in
theorem impl_Fix (v : Value) (d : Array Int) (i : Nat) (x : Int) (w : World) (hr : Rd w v d) (hi : i < d.size) (hs : d.size ≤ 1099511627776) :
    Calls Try.prog 29 #[v, .int .i64 i, .int .i64 x] w (Hands w.heap.size w (fixA (d.setIfInBounds i x) i d.size)) := by
  have HR := Lib.hid hr
  clear hr
  go_enter Try.func29, Try.ntmps29
  go_wp2_with (at_builtin; refine wpList_app _ rfl _ _ 22 22 rfl Try.underlying22 Try.underlying22 w.heap.size (.slice (some ⟨w.heap.size, 0, none⟩) 0 0) v #[] d d d.size rfl rfl (by exact World.ownsRow_made (size := 1) w #[] 0 (Nat.le_refl _) (by simp [maxLen]) rfl) (by exact HR.out.below ((Below.refl _ _).alloc (Nat.le_refl _) _)) (by simp; omega) (by simp) Array.empty_append rfl ?_; intro A c w1 hown hg hb; have HO := Lib.hid hown; have HG := Lib.hid hg; clear hown hg hb)
  have HL : Hid (Below w.heap.size w w1) := Lib.hid (((Below.refl w.heap.size w).alloc (Nat.le_refl _) _).grown HG.out (by simp) (by simp [Value.ownBlock]))
  refine (inner_Fix _ d i x w1 HO.out.rd hi hs).mono ?_
  rintro e w2 ⟨v2, rfl, ho, hl⟩
  have H1 := Lib.hid ho
  have H2 := Lib.hid hl
  clear ho hl
  go_wp2_with fail
  go_ret
  exact ⟨_, rfl, own_base H1.out HL.out.size, HL.out.trans (H2.out.mono HL.out.size)⟩


end Go.Proofs.Ytkceigigdklaoaa
