/-
  THE WALK of 'LawS7889AWhole'.
-/
import Derived.Test.YbulkfgiyHold
import Derived.Laws.LoneSync
import Derived.Laws.StructEq
import Derived.Lib.Builder
import Derived.BigQuiet
import Derived.Deep.QuietTactic
namespace Go.Proofs.Ybulkfgiy.lawS7889AWhole
open Go.ChangeShapes Go.WideShapes Go.ChangeAt Go.RowKit

theorem store_any (b : Nat) (v x : Int) (w : World) (hc : w.cell? ⟨b, 0, none⟩ = some (.int .i64 x)) (hf : w.frozen? ⟨b, 0, none⟩ = false) :
    Calls Yba.prog 4 #[.pointer (some ⟨b, 0, none⟩), .int .i64 v] w fun e w' => e = .returned (.tuple #[]) ∧ w' = w.setCell ⟨b, 0, none⟩ (.int .i64 v) := by
  have hs := run_call_store (P := Yba.prog) Yba.func8 (by kernel_rfl) (by kernel_rfl) (by kernel_rfl) (by kernel_rfl) (k := .i64) (y := v) hc hf
  go_enter Yba.func4, Yba.ntmps4
  go_wp2
  go_end0
  exact ⟨rfl, rfl⟩

theorem load_any (b : Nat) (x : Int) (w : World) (hc : w.cell? ⟨b, 0, none⟩ = some (.int .i64 x)) :
    Calls Yba.prog 7 #[.pointer (some ⟨b, 0, none⟩)] w fun e w' => e = .returned (.int .i64 x) ∧ w' = w := by
  have hl := run_call_load (P := Yba.prog) Yba.func13 (by kernel_rfl) (by kernel_rfl) (by kernel_rfl) .i64 (by kernel_rfl) hc
  go_enter Yba.func7, Yba.ntmps7
  go_wp2
  go_ret
  exact ⟨rfl, rfl⟩

/-! ### Two pointers into plain blocks, held against one another -/
def plainAt (w : World) (b : Nat) : Bool := match w.heap[b]? with
  | some (.cells _ _ (0, 0)) => true
  | _ => false
theorem plainAt_past (w : World) (o : Obj) (b : Nat) (h : b < w.heap.size) : plainAt (w.alloc o) b = plainAt w b := by
  unfold plainAt
  rw [show (w.alloc o).heap = w.heap.push o from rfl, Array.getElem?_push_lt h, Array.getElem?_eq_getElem h]
theorem plainAt_at (w : World) (c : Array Value) (t : TypeId) (b : Nat) (h : b = w.heap.size) : plainAt (w.alloc (.cells c t)) b = true := by
  subst h
  unfold plainAt
  rw [show (w.alloc (.cells c t)).heap = w.heap.push (.cells c t) from rfl, Array.getElem?_push_size]
  rfl
theorem plainAt_alloc (w : World) (c : Array Value) (t : TypeId) (b : Nat) : plainAt (w.alloc (.cells c t)) b = (decide (b < w.heap.size) && plainAt w b || decide (b = w.heap.size)) := by
  by_cases h : b < w.heap.size
  · rw [plainAt_past w _ b h]
    simp [h]
    omega
  · by_cases h2 : b = w.heap.size
    · rw [plainAt_at w c t b h2]
      simp [h2]
    · simp [h, h2]
      unfold plainAt
      rw [show (w.alloc (.cells c t)).heap = w.heap.push (.cells c t) from rfl, Array.getElem?_eq_none (by simp; omega)]
theorem plainAt_some (w : World) (b : Nat) (h : plainAt w b = true) : ∃ c t, w.heap[b]? = some (.cells c t (0, 0)) := by
  unfold plainAt at h
  split at h
  · exact ⟨_, _, by assumption⟩
  · cases h
theorem plainAt_drew (w : World) (b : Nat) : plainAt w.drew b = plainAt w b := rfl
theorem some59 : ((Yba.prog.info? 59).map fun i => i.size) = some 11 := by kernel_rfl
theorem some50 : (Yba.prog.info? 50).isSome = true := by kernel_rfl
theorem some2 : (Yba.prog.info? 2).isSome = true := by kernel_rfl
theorem eql_other (w : World) (a b : Nat) (hlt : b < a) (ha : plainAt w a = true) (hb : plainAt w b = true) :
    (binOp .eql 30 (.pointer (some ⟨a, 0, none⟩)) (.pointer (some ⟨b, 0, none⟩))).run Yba.prog w = .ok (.bool false) w := by
  obtain ⟨ca, ta, ha⟩ := plainAt_some w a ha
  obtain ⟨cb, tb, hb⟩ := plainAt_some w b hb
  have h59 := some59
  cases h : Yba.prog.info? 59 with
  | none => rw [h] at h59; cases h59
  | some j =>
    rw [h] at h59
    have hj : j.size = 11 := by simpa using h59
    exact run_eql_ptr_other w Yba.underlying30 h (by omega) (fun h => by have e : a = b := congrArg Addr.block h; omega) ha hb

theorem wrap_same (a : Int) : wrap64 (IntKind.u64.wrap (IntKind.u64.wrap a * 1000000000)) = IntKind.i64.wrap (a * 1000000000) := by
  rw [IntKind.wrap_u64, IntKind.wrap_u64, IntKind.wrap_i64]
  unfold wrap64
  omega
theorem grown_drewN {W w' : World} (h : Grown W w') (n : Nat) : Grown W (w'.drewN n) := h

set_option maxRecDepth 100000 in
set_option maxHeartbeats 1000000 in
theorem walkL (a0 a1 a2 a3 a4 a5 a6 a7 a8 Z : Int) (w : World)
    (h60 : -9223372036854775808 ≤ a6) (h61 : a6 ≤ 9223372036854775807) (h70 : -9223372036854775808 ≤ a7) (h71 : a7 ≤ 9223372036854775807)
    (hd0 : -9223372036854775808 ≤ a0) (hd1 : a0 ≤ 9223372036854775807) (hZ : wrap64 (IntKind.u64.wrap (IntKind.u64.wrap a8 * 1000000000)) = Z) (hlt : a0 < Z)
    (hD : (if IntKind.i64.wrap (a8 * 1000000000) < a0 then IntKind.i64.wrap (a8 * 1000000000) else a0) = a0) :
    Calls Yba.prog 3 #[.int .i64 a0, .int .i64 a1, .int .i64 a2, .int .i64 a3, .int .i64 a4, .int .i64 a5, .int .i64 a6, .int .i64 a7, .int .i64 a8] w fun e w' => e = .returned (.bool true) ∧ Grown w w' := by
  obtain ⟨n60, n61⟩ := addN_bd 0 a6 (by omega) (by omega)
  obtain ⟨n70, n71⟩ := addN_bd 0 a7 (by omega) (by omega)
  have HD : Hid ((if IntKind.i64.wrap (a8 * 1000000000) < a0 then IntKind.i64.wrap (a8 * 1000000000) else a0) = a0) := hD
  clear hD
  obtain ⟨i50, h50⟩ := Option.isSome_iff_exists.1 some50
  obtain ⟨i2, h2⟩ := Option.isSome_iff_exists.1 some2
  have q30 := eql_other
  have q47 : ∀ (w : World) (a : Addr), (binOp .neq 47 (.pointer (some a)) (.pointer (some a))).run Yba.prog w = .ok (.bool false) w := fun w a => Lib.run_neq_ptr_same w a Yba.underlying47 h50
  have q52 : ∀ (w : World) (a : Addr), (binOp .neq 52 (.pointer (some a)) (.pointer (some a))).run Yba.prog w = .ok (.bool false) w := fun w a => Lib.run_neq_ptr_same w a Yba.underlying52 h2
  have q54 : ∀ (w : World), (Op.equalIn 9999 54 (.pointer none) (.pointer none)).run Yba.prog w = .ok true w := fun w => by simp [run_equalIn_pointer_nil w 9998 54 none (by rw [Program.pointee, Yba.underlying54])]
  have p1 := plainAt_alloc
  have p3 := plainAt_drew
  clear h50 h2
  go_enter Yba.func3, Yba.ntmps3
  go_wp2_with (first | (go_at_call 4; refine (store_any _ _ 0 _ (by simp) (by simp)).mono ?_; rintro e w' ⟨rfl, rfl⟩) | (go_at_call 5; refine (add_any _ _ _ _ (by omega) (by omega) (by omega) (by omega)).mono ?_; rintro e w' ⟨rfl, rfl⟩))
  refine (hold_any _ a0 _ a0 _ _ _ _ _ _ _ _ _ _ ?hc ?hl (by omega) (by omega) hd0 hd1 HD.out).mono ?_
  case hc => go_simp
  case hl => simp; omega
  rintro e w' ⟨rfl, rfl⟩
  go_wp2_with (go_at_call 5; (refine (add_any _ _ a0 _ (by omega) (by omega) (by omega) (by omega)).mono ?_); rintro e w' ⟨rfl, rfl⟩)
  go_quiet (fail)
  go_wp2_with (go_at_call 7; (refine (load_any _ a4 _ ?hq).mono ?_); rotate_right; rintro e w' ⟨rfl, rfl⟩)
  case hq => go_simp
  go_ret
  refine ⟨rfl, ?_⟩
  refine grown_drewN ?_ _
  repeat refine Grown.alloc ?_ _ _
  exact Grown.refl _

set_option maxRecDepth 100000 in
set_option maxHeartbeats 1000000 in
theorem walkG (a0 a1 a2 a3 a4 a5 a6 a7 a8 Z : Int) (w : World)
    (h60 : -9223372036854775808 ≤ a6) (h61 : a6 ≤ 9223372036854775807) (h70 : -9223372036854775808 ≤ a7) (h71 : a7 ≤ 9223372036854775807)
    (hd0 : -9223372036854775808 ≤ Z) (hd1 : Z ≤ 9223372036854775807) (hZ : wrap64 (IntKind.u64.wrap (IntKind.u64.wrap a8 * 1000000000)) = Z) (hge : Z ≤ a0)
    (hD : (if IntKind.i64.wrap (a8 * 1000000000) < a0 then IntKind.i64.wrap (a8 * 1000000000) else a0) = Z) :
    Calls Yba.prog 3 #[.int .i64 a0, .int .i64 a1, .int .i64 a2, .int .i64 a3, .int .i64 a4, .int .i64 a5, .int .i64 a6, .int .i64 a7, .int .i64 a8] w fun e w' => e = .returned (.bool true) ∧ Grown w w' := by
  obtain ⟨n60, n61⟩ := addN_bd 0 a6 (by omega) (by omega)
  obtain ⟨n70, n71⟩ := addN_bd 0 a7 (by omega) (by omega)
  have HD : Hid ((if IntKind.i64.wrap (a8 * 1000000000) < a0 then IntKind.i64.wrap (a8 * 1000000000) else a0) = Z) := hD
  clear hD
  obtain ⟨i50, h50⟩ := Option.isSome_iff_exists.1 some50
  obtain ⟨i2, h2⟩ := Option.isSome_iff_exists.1 some2
  have q30 := eql_other
  have q47 : ∀ (w : World) (a : Addr), (binOp .neq 47 (.pointer (some a)) (.pointer (some a))).run Yba.prog w = .ok (.bool false) w := fun w a => Lib.run_neq_ptr_same w a Yba.underlying47 h50
  have q52 : ∀ (w : World) (a : Addr), (binOp .neq 52 (.pointer (some a)) (.pointer (some a))).run Yba.prog w = .ok (.bool false) w := fun w a => Lib.run_neq_ptr_same w a Yba.underlying52 h2
  have q54 : ∀ (w : World), (Op.equalIn 9999 54 (.pointer none) (.pointer none)).run Yba.prog w = .ok true w := fun w => by simp [run_equalIn_pointer_nil w 9998 54 none (by rw [Program.pointee, Yba.underlying54])]
  have p1 := plainAt_alloc
  have p3 := plainAt_drew
  clear h50 h2
  go_enter Yba.func3, Yba.ntmps3
  go_wp2_with (first | (go_at_call 4; refine (store_any _ _ 0 _ (by simp) (by simp)).mono ?_; rintro e w' ⟨rfl, rfl⟩) | (go_at_call 5; refine (add_any _ _ _ _ (by omega) (by omega) (by omega) (by omega)).mono ?_; rintro e w' ⟨rfl, rfl⟩))
  refine (hold_any _ a0 _ Z _ _ _ _ _ _ _ _ _ _ ?hc ?hl (by omega) (by omega) hd0 hd1 HD.out).mono ?_
  case hc => go_simp
  case hl => simp; omega
  rintro e w' ⟨rfl, rfl⟩
  go_wp2_with (go_at_call 5; (refine (add_any _ _ Z _ (by omega) (by omega) (by omega) (by omega)).mono ?_); rintro e w' ⟨rfl, rfl⟩)
  go_quiet (fail)
  go_wp2_with (go_at_call 7; (refine (load_any _ a4 _ ?hq).mono ?_); rotate_right; rintro e w' ⟨rfl, rfl⟩)
  case hq => go_simp
  go_ret
  refine ⟨rfl, ?_⟩
  refine grown_drewN ?_ _
  repeat refine Grown.alloc ?_ _ _
  exact Grown.refl _
end Go.Proofs.Ybulkfgiy.lawS7889AWhole
