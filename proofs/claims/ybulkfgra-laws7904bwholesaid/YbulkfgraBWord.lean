/-
  WALKS for 'LawS7904BWhole': nat.add, nat.sub at one word, (*Int).Add of 1 to an Int of one word or none.
-/
import Derived.Test.YbulkfgraBSet
import Derived.Laws.Twins
import Derived.Laws.Externs
import Derived.Shelf.Spec.BitsCarry
namespace Go.Proofs.Ybulkfgra.lawS7904BWhole
open Go.ChangeShapes Go.WideShapes Go.ChangeAt Go.RowKit

theorem call_add64 (x y : Int) (hx : 0 ≤ x) (hy : 0 ≤ y) (h : x + y < 18446744073709551616) (w : World) :
    (callFunc 31 #[.int .u64 x, .int .u64 y, .int .u64 0]).run Yba.prog w = .ok (.value (.tuple #[.int .u64 (x + y), .int .u64 0])) w := by
  rw [run_callFunc_extern Yba.func31 (by kernel_rfl) (by kernel_rfl) (by kernel_rfl) (e := add64Entry) (by kernel_rfl), run_add64 x y 0 hx hy (by omega) (by omega)]
  rw [show (x + y + 0) % 18446744073709551616 = x + y by omega, show (x + y + 0) / 18446744073709551616 = 0 by omega]
  rfl
theorem call_sub64 (x : Nat) (h : 1 ≤ x) (h2 : x < 18446744073709551616) (w : World) :
    (callFunc 33 #[.int .u64 x, .int .u64 1, .int .u64 0]).run Yba.prog w = .ok (.value (.tuple #[.int .u64 ((x : Int) - 1), .int .u64 0])) w := by
  have hs := run_sub64 (P := Yba.prog) x 1 0 (by omega) w
  rw [run_callFunc_extern Yba.func33 (by kernel_rfl) (by kernel_rfl) (by kernel_rfl) (e := sub64Entry) (by kernel_rfl)]
  have hs' : (sub64Entry #[.int .u64 x, .int .u64 1, .int .u64 0]).run Yba.prog w = _ := hs
  rw [hs', if_neg (by omega), show (((x + 18446744073709551616 - 1 - 0) % 18446744073709551616 : Nat) : Int) = (x : Int) - 1 by omega]
  rfl
theorem bits_add (x y : Int) (hx : 0 ≤ x) (hy : 0 ≤ y) (h : x + y < 18446744073709551616) (w : World) :
    Calls Yba.prog 26 #[.int .u64 x, .int .u64 y, .int .u64 0] w fun e w' => e = .returned (.tuple #[.int .u64 (x + y), .int .u64 0]) ∧ w' = w := by
  have hc := call_add64 x y hx hy h w
  clear h hx hy
  go_enter Yba.func26, Yba.ntmps26
  go_wp2
  go_ret2
  exact ⟨rfl, rfl⟩
theorem bits_sub (x : Nat) (h : 1 ≤ x) (h2 : x < 18446744073709551616) (w : World) :
    Calls Yba.prog 29 #[.int .u64 x, .int .u64 1, .int .u64 0] w fun e w' => e = .returned (.tuple #[.int .u64 ((x : Int) - 1), .int .u64 0]) ∧ w' = w := by
  have hc := call_sub64 x h h2 w
  clear h h2
  go_enter Yba.func29, Yba.ntmps29
  go_wp2
  go_ret2
  exact ⟨rfl, rfl⟩
theorem enters_add (args : Array Value) (w : World) : (callFunc 23 args).run Yba.prog w = .ok (.enter 10 args) w :=
  run_callFunc_twin (twin := Yba.f10.name) Yba.func23 (by kernel_rfl) (by kernel_rfl) (by kernel_rfl) (by kernel_rfl) Yba.func10 (by kernel_rfl) (by kernel_rfl) (by kernel_rfl) args w
theorem enters_sub (args : Array Value) (w : World) : (callFunc 27 args).run Yba.prog w = .ok (.enter 11 args) w :=
  run_callFunc_twin (twin := Yba.f11.name) Yba.func27 (by kernel_rfl) (by kernel_rfl) (by kernel_rfl) (by kernel_rfl) Yba.func11 (by kernel_rfl) (by kernel_rfl) (by kernel_rfl) args w

set_option maxRecDepth 20000 in
theorem addVV_1 (Z g h capz capx capy : Nat) (x y z : Int) (w : World) (hx : 0 ≤ x) (hy : 0 ≤ y) (hs : x + y < 18446744073709551616)
    (cz : w.cell? ⟨Z, 0, none⟩ = some (.int .u64 z)) (fz : w.frozen? ⟨Z, 0, none⟩ = false) (cx : w.cell? ⟨g, 0, none⟩ = some (.int .u64 x)) (cy : w.cell? ⟨h, 0, none⟩ = some (.int .u64 y)) :
    Calls Yba.prog 10 #[.slice (some ⟨Z, 0, none⟩) 1 capz, .slice (some ⟨g, 0, none⟩) 1 capx, .slice (some ⟨h, 0, none⟩) 1 capy] w fun e w' => e = .returned (.int .u64 0) ∧ ∃ q, w' = (w.drewN q).setCell ⟨Z, 0, none⟩ (.int .u64 (x + y)) := by
  have HC := bits_add x y hx hy hs
  clear hx hy hs
  go_enter Yba.func10, Yba.ntmps10
  go_wp2
  refine wp_loop_rounds 2 ?_
  rw [rounds_succ]
  go_wp2_with fail
  go_quiet ((go_at_call 26; exact Calls.quiet_of_same (HC _)))
  go_wp2
  rw [rounds_succ]
  go_wp2
  go_ret
  exact ⟨rfl, _, rfl⟩
set_option maxRecDepth 20000 in
theorem subVV_1 (g h capz capy : Nat) (x : Nat) (w : World) (h1 : 1 ≤ x) (h2 : x < 18446744073709551616)
    (cx : w.cell? ⟨g, 0, none⟩ = some (.int .u64 x)) (fz : w.frozen? ⟨g, 0, none⟩ = false) (cy : w.cell? ⟨h, 0, none⟩ = some (.int .u64 1)) :
    Calls Yba.prog 11 #[.slice (some ⟨g, 0, none⟩) 1 capz, .slice (some ⟨g, 0, none⟩) 1 capz, .slice (some ⟨h, 0, none⟩) 1 capy] w fun e w' => e = .returned (.int .u64 0) ∧ ∃ q, w' = (w.drewN q).setCell ⟨g, 0, none⟩ (.int .u64 ((x : Int) - 1)) := by
  have HC := bits_sub x h1 h2
  clear h1 h2
  go_enter Yba.func11, Yba.ntmps11
  go_wp2
  refine wp_loop_rounds 2 ?_
  rw [rounds_succ]
  go_wp2_with fail
  go_quiet ((go_at_call 29; exact Calls.quiet_of_same (HC _)))
  go_wp2
  rw [rounds_succ]
  go_wp2
  go_ret
  exact ⟨rfl, _, rfl⟩

theorem norm_2 (Z cap : Nat) (a : Int) (w : World) (hcap : 2 ≤ cap) (hm : cap ≤ 1000) (ha : (a == 0) = false) (c0 : w.cell? ⟨Z, 0, none⟩ = some (.int .u64 a)) (c1 : w.cell? ⟨Z, 1, none⟩ = some (.int .u64 0)) :
    Calls Yba.prog 25 #[.slice (some ⟨Z, 0, none⟩) 2 cap] w fun e w' => e = .returned (.slice (some ⟨Z, 0, none⟩) 1 cap) ∧ w' = w := by
  go_enter Yba.func25, Yba.ntmps25
  go_wp2
  refine wp_loop_rounds 2 ?_
  rw [rounds_succ]
  go_wp2
  rw [rounds_succ]
  go_wp2
  go_ret
  exact ⟨rfl, rfl⟩
theorem norm_1 (Z cap : Nat) (a : Int) (w : World) (hcap : 1 ≤ cap) (hm : cap ≤ 1000) (ha : (a == 0) = false) (c0 : w.cell? ⟨Z, 0, none⟩ = some (.int .u64 a)) :
    Calls Yba.prog 25 #[.slice (some ⟨Z, 0, none⟩) 1 cap] w fun e w' => e = .returned (.slice (some ⟨Z, 0, none⟩) 1 cap) ∧ w' = w := by
  go_enter Yba.func25, Yba.ntmps25
  go_wp2
  refine wp_loop_rounds 1 ?_
  rw [rounds_succ]
  go_wp2
  go_ret
  exact ⟨rfl, rfl⟩
theorem norm_0 (Z cap : Nat) (w : World) (hcap : 1 ≤ cap) (hm : cap ≤ 1000) (c0 : w.cell? ⟨Z, 0, none⟩ = some (.int .u64 0)) :
    Calls Yba.prog 25 #[.slice (some ⟨Z, 0, none⟩) 1 cap] w fun e w' => e = .returned (.slice (some ⟨Z, 0, none⟩) 0 cap) ∧ w' = w := by
  go_enter Yba.func25, Yba.ntmps25
  go_wp2
  refine wp_loop_rounds 2 ?_
  rw [rounds_succ]
  go_wp2
  rw [rounds_succ]
  go_wp2
  go_ret
  exact ⟨rfl, rfl⟩
theorem mk2 (w : World) : (Instr.makeSlice 54 (.int .i64 2) (.int .i64 6)).run Yba.prog w = .ok (.slice (some ⟨w.heap.size, 0, none⟩) 2 6) (w.alloc (.cells #[.int .u64 0, .int .u64 0, .int .u64 0, .int .u64 0, .int .u64 0, .int .u64 0] 53)) := by
  obtain ⟨i, hi, hz0, hz1, hz2⟩ := info_parts info53
  have h := run_make (P := Yba.prog) w 54 53 i (.int .u64 0) Yba.underlying54 hi hz0 .i64 .i64 2 6 (by omega) (by omega) (by rw [hz2]; omega) (by omega)
  have e : madeCells (Value.cells (Value.int .u64 0)) (Int.toNat 6 * 1) = #[.int .u64 0, .int .u64 0, .int .u64 0, .int .u64 0, .int .u64 0, .int .u64 0] := by kernel_rfl
  rw [hz1, e] at h
  exact h
set_option maxRecDepth 20000 in
theorem make_2 (g : Nat) (w : World) : Calls Yba.prog 22 #[.slice (some ⟨g, 0, none⟩) 1 1, .int .i64 2] w fun e w' => e = .returned (.slice (some ⟨w.heap.size, 0, none⟩) 2 6) ∧ w' = w.alloc (.cells #[.int .u64 0, .int .u64 0, .int .u64 0, .int .u64 0, .int .u64 0, .int .u64 0] 53) := by
  have hmk := mk2 w
  go_enter Yba.func22, Yba.ntmps22
  go_wp2
  go_ret
  exact ⟨rfl, rfl⟩
theorem make_in (g : Nat) (w : World) : Calls Yba.prog 22 #[.slice (some ⟨g, 0, none⟩) 1 1, .int .i64 1] w fun e w' => e = .returned (.slice (some ⟨g, 0, none⟩) 1 1) ∧ w' = w := by
  go_enter Yba.func22, Yba.ntmps22
  go_wp2
  go_ret
  exact ⟨rfl, rfl⟩
end Go.Proofs.Ybulkfgra.lawS7904BWhole
