/-
  The methods of the list of numbers that the heap code works on: which is found behind the interface, and what each does. Conditions: the places lie in the list.
-/
import Derived.Test.YtkceigigdklaoaaProg
import Derived.Test.YtkceigigdklaoaaChecked
import Derived.WalkKit
import Derived.Sort.WalkB12
import Derived.Sort.WalkC
import Derived.Deep.LoopGhost
import Derived.Deep.QuietTactic
import Derived.BigRegion
import Derived.BigQuiet
import Derived.Lib.Hide
namespace Go.Proofs.Ytkceigigdklaoaa
open Go.RowKit Go.Sort

theorem info_find {P : Program} {t : TypeId} {name : String} {r : Option (FuncId × Bool)} (h : ((P.info? t).bind (fun i => i.methods.find? (·.name == name))).map (fun m => (m.path.isEmpty, m.func)) = some (true, r)) :
    ∃ i m, P.info? t = some i ∧ i.methods.find? (·.name == name) = some m ∧ m.path = #[] ∧ m.func = r := by
  cases hi : P.info? t with
  | none => rw [hi] at h; cases h
  | some i =>
    rw [hi, Option.bind_some] at h
    cases hm : i.methods.find? (·.name == name) with
    | none => rw [hm] at h; cases h
    | some m =>
      rw [hm, Option.map_some] at h
      injection h with h
      injection h with h1 h2
      exact ⟨i, m, rfl, hm, by simpa using h1, h2⟩

theorem tm_swap : ((Try.prog.info? 41).bind (fun i => i.methods.find? (·.name == "Swap"))).map (fun m => (m.path.isEmpty, m.func)) = some (true, some (87, false)) := by kernel_rfl
theorem tm_len : ((Try.prog.info? 41).bind (fun i => i.methods.find? (·.name == "Len"))).map (fun m => (m.path.isEmpty, m.func)) = some (true, some (83, false)) := by kernel_rfl
theorem tm_pop : ((Try.prog.info? 41).bind (fun i => i.methods.find? (·.name == "Pop"))).map (fun m => (m.path.isEmpty, m.func)) = some (true, some (85, true)) := by kernel_rfl
theorem tm_push : ((Try.prog.info? 41).bind (fun i => i.methods.find? (·.name == "Push"))).map (fun m => (m.path.isEmpty, m.func)) = some (true, some (86, true)) := by kernel_rfl
theorem tm_less : ((Try.prog.info? 41).bind (fun i => i.methods.find? (·.name == "Less"))).map (fun m => (m.path.isEmpty, m.func)) = some (true, some (84, false)) := by kernel_rfl

theorem isAgg_ints (w : World) : (isAgg 44).run Try.prog w = .ok false w := by kernel_rfl

theorem nil_chk (ts : Array TypeId) (t : TypeId) (p : Addr) (a b : String) : Builtin.ssaWrapNilChk_ ts t #[.pointer (some p), strVal a, strVal b] = pure (.pointer (some p)) := rfl

theorem method_val {name : String} {f : FuncId} (tm : ((Try.prog.info? 41).bind (fun i => i.methods.find? (·.name == name))).map (fun m => (m.path.isEmpty, m.func)) = some (true, some (f, false)))
    (p : Addr) (w : World) (sl : Value) (h : w.cell? p = some sl) : (method 193 41 (.pointer (some p)) name).run Try.prog w = .ok (f, sl) w := by
  obtain ⟨i, m, h1, h2, h3, h4⟩ := info_find tm
  unfold method
  simp only [Sem.run_bind, typeInfo, run_program, Result.andThen_ok, h1, Sem.run_pure, h2, h3, h4, follow, receiverAt, Place.get, run_underlying Try.underlying41]
  rw [if_pos (by rfl)]
  simp only [nil_chk, Sem.run_bind, Sem.run_pure, Result.andThen_ok, asAddr, loadVar, isAgg_ints, Bool.false_eq_true, if_false, run_load, h]

theorem method_ptr {name : String} {f : FuncId} (tm : ((Try.prog.info? 41).bind (fun i => i.methods.find? (·.name == name))).map (fun m => (m.path.isEmpty, m.func)) = some (true, some (f, true)))
    (p : Addr) (w : World) : (method 193 41 (.pointer (some p)) name).run Try.prog w = .ok (f, .pointer (some p)) w := by
  obtain ⟨i, m, h1, h2, h3, h4⟩ := info_find tm
  unfold method
  simp only [Sem.run_bind, typeInfo, run_program, Result.andThen_ok, h1, Sem.run_pure, h2, h3, h4, follow, receiverAt, Place.get, run_underlying Try.underlying41]

theorem less_any (g cap i j : Nat) (d : Array Int) (w : World) (hH : Holds (Value.int .i64) w g 0 d) (hi : i < d.size) (hj : j < d.size) :
    Calls Try.prog 84 #[.slice (some ⟨g, 0, none⟩) d.size cap, .int .i64 i, .int .i64 j] w fun e w' => e = .returned (.bool (decide (d[i]! < d[j]!))) ∧ ∃ n, w' = w.drewN n := by
  obtain ⟨xi, hxi⟩ : ∃ x, d[i]! = x := ⟨_, rfl⟩
  obtain ⟨xj, hxj⟩ : ∃ x, d[j]! = x := ⟨_, rfl⟩
  have ci := (hH i hi).1
  have cj := (hH j hj).1
  rw [hxi] at ci
  rw [hxj] at cj
  rw [hxi, hxj]
  rw [Nat.zero_add] at ci cj
  clear hH hxi hxj
  have h1 : (i : Int) < d.size := by omega
  have h2 : (j : Int) < d.size := by omega
  go_enter Try.func84, Try.ntmps84
  go_wp2_with fail
  go_quiet (fail)
  go_wp2
  go_ret
  exact ⟨rfl, _, rfl⟩

theorem less_yes (g cap i j : Nat) (d : Array Int) (w : World) (hH : Holds (Value.int .i64) w g 0 d) (hi : i < d.size) (hj : j < d.size) (h : d[i]! < d[j]!) :
    Calls Try.prog 84 #[.slice (some ⟨g, 0, none⟩) d.size cap, .int .i64 i, .int .i64 j] w fun e w' => e = .returned (.bool true) ∧ ∃ n, w' = w.drewN n :=
  (less_any g cap i j d w hH hi hj).mono fun _ _ ⟨he, hw⟩ => ⟨by rw [he, decide_eq_true h], hw⟩

theorem less_no (g cap i j : Nat) (d : Array Int) (w : World) (hH : Holds (Value.int .i64) w g 0 d) (hi : i < d.size) (hj : j < d.size) (h : d[j]! ≤ d[i]!) :
    Calls Try.prog 84 #[.slice (some ⟨g, 0, none⟩) d.size cap, .int .i64 i, .int .i64 j] w fun e w' => e = .returned (.bool false) ∧ ∃ n, w' = w.drewN n :=
  (less_any g cap i j d w hH hi hj).mono fun _ _ ⟨he, hw⟩ => ⟨by rw [he, decide_eq_false (by omega)], hw⟩

/-- A row laid over a row, the draws outermost. -/
theorem put_put (w : World) (g q n : Nat) (dk d : Array Int) (h : d.size = dk.size) :
    (putRow (Value.int .i64) ((putRow (Value.int .i64) w g 0 dk).drewN q) g 0 d).drewN n = (putRow (Value.int .i64) w g 0 d).drewN (q + n) := by
  have e : putRow (Value.int .i64) ((putRow (Value.int .i64) w g 0 dk).drewN q) g 0 d = (putRow (Value.int .i64) (putRow (Value.int .i64) w g 0 dk) g 0 d).drewN q := rfl
  rw [e, putRow_putRow _ _ _ _ _ _ h, World.drewN_drewN]

theorem swap_any (g cap i j : Nat) (d : Array Int) (w : World) (hH : Holds (Value.int .i64) w g 0 d) (hi : i < d.size) (hj : j < d.size) (hne : i ≠ j) :
    Calls Try.prog 87 #[.slice (some ⟨g, 0, none⟩) d.size cap, .int .i64 i, .int .i64 j] w fun e w' => e = .returned (.tuple #[]) ∧ ∃ n, w' = (putRow (Value.int .i64) w g 0 (swp d i j)).drewN n := by
  obtain ⟨xi, hxi⟩ : ∃ x, d[i]! = x := ⟨_, rfl⟩
  obtain ⟨xj, hxj⟩ : ∃ x, d[j]! = x := ⟨_, rfl⟩
  obtain ⟨ci, fi⟩ := hH i hi
  obtain ⟨cj, fj⟩ := hH j hj
  rw [hxi] at ci
  rw [hxj] at cj
  rw [Nat.zero_add] at ci cj fi fj
  have HX : Hid (d[i]! = xi ∧ d[j]! = xj) := ⟨hxi, hxj⟩
  have HH : Hid (Holds (Value.int .i64) w g 0 d) := hH
  clear hH hxi hxj
  have h1 : (i : Int) < d.size := by omega
  have h2 : (j : Int) < d.size := by omega
  go_enter Try.func87, Try.ntmps87
  go_wp2_with fail
  go_region
  go_end0
  refine ⟨rfl, 1, ?_⟩
  have e := swap_worldC (Value.int .i64) w g 0 d 0 i j hi hj
  rw [putRow_self _ w g 0 d HH.out, HX.out.1, HX.out.2, Nat.zero_add, Nat.zero_add] at e
  exact e

theorem swap_same (g cap i : Nat) (d : Array Int) (w : World) (hH : Holds (Value.int .i64) w g 0 d) (hi : i < d.size) :
    Calls Try.prog 87 #[.slice (some ⟨g, 0, none⟩) d.size cap, .int .i64 i, .int .i64 i] w fun e w' => e = .returned (.tuple #[]) ∧ ∃ n, w' = (putRow (Value.int .i64) w g 0 (swp d i i)).drewN n := by
  obtain ⟨xi, hxi⟩ : ∃ x, d[i]! = x := ⟨_, rfl⟩
  obtain ⟨ci, fi⟩ := hH i hi
  rw [hxi] at ci
  rw [Nat.zero_add] at ci fi
  have HX : Hid (d[i]! = xi) := hxi
  have HH : Hid (Holds (Value.int .i64) w g 0 d) := hH
  clear hH hxi
  have h1 : (i : Int) < d.size := by omega
  go_enter Try.func87, Try.ntmps87
  go_wp2_with fail
  go_region
  go_end0
  refine ⟨rfl, 1, ?_⟩
  have e := swap_worldC (Value.int .i64) w g 0 d 0 i i hi hi
  rw [putRow_self _ w g 0 d HH.out, HX.out, Nat.zero_add] at e
  exact e

theorem len_any (a : Option Addr) (n cap : Nat) (w : World) : Calls Try.prog 83 #[.slice a n cap] w fun e w' => e = .returned (.int .i64 n) ∧ w = w' := by
  go_enter Try.func83, Try.ntmps83
  go_wp2
  go_ret
  exact ⟨rfl, rfl⟩

end Go.Proofs.Ytkceigigdklaoaa
