/-
  THE WALK of 'LawS7901CWhole'.
-/
import Derived.Test.YbulkfgpkCopy
import Derived.BigQuiet
import Derived.Deep.QuietTactic
import Derived.Deep.RegionHeld3
import Derived.Laws.StructEq
namespace Go.Proofs.Ybulkfgpk.lawS7901CWhole
open Go.ChangeShapes Go.WideShapes Go.ChangeAt Go.RowKit
/-- what stands while the four sums are made: old memory, the copy, what 'Total' gave -/
def Keeps (c : Nat → Int) (n N G : Nat) (w w' : World) : Prop :=
  Below w.heap.size w w' ∧ w'.rowIs N 25 (n * 4) (fun j => .int .i64 (c j)) ∧ w'.rowIs G 25 4 (fun q => .int .i64 (wrap64 (T c q n)))
/-- .. said of a world, with the cells that the region loads -/
def Held (c : Nat → Int) (n N G : Nat) (w w' : World) : Prop :=
  w'.cell? ⟨G, 0, none⟩ = some (.int .i64 (wrap64 (T c 0 n))) ∧ w'.cell? ⟨G, 1, none⟩ = some (.int .i64 (wrap64 (T c 1 n))) ∧ w'.cell? ⟨G, 2, none⟩ = some (.int .i64 (wrap64 (T c 2 n))) ∧ w'.cell? ⟨G, 3, none⟩ = some (.int .i64 (wrap64 (T c 3 n))) ∧ Keeps c n N G w w'
theorem held_of {c : Nat → Int} {n N G : Nat} {w w' : World} (h : Keeps c n N G w w') : Held c n N G w w' :=
  ⟨h.2.2.cell (i := 0) (by omega), h.2.2.cell (i := 1) (by omega), h.2.2.cell (i := 2) (by omega), h.2.2.cell (i := 3) (by omega), h⟩
theorem row_below {w w' : World} {K b t n : Nat} {f : Nat → Value} (hb : Below K w w') (hlt : b < K) (h : w.rowIs b t n f) : w'.rowIs b t n f := h.of_block (hb.block b hlt)
theorem held_step {c : Nat → Int} {n N G : Nat} {w wp w' : World} (hb : Below wp.heap.size wp w') (hh : Held c n N G w wp) : Held c n N G w w' :=
  let h := hh.2.2.2.2
  held_of ⟨h.1.trans (hb.mono h.1.size), row_below hb h.2.1.lt h.2.1, row_below hb h.2.2.lt h.2.2⟩
theorem held_row {c : Nat → Int} {n N G : Nat} {w w' : World} (h : Held c n N G w w') : w'.rowIs N 25 (n * 4) (fun j => .int .i64 (c j)) := h.2.2.2.2.2.1
theorem held_last {c : Nat → Int} {n N G : Nat} {w w' : World} (h : Held c n N G w w') : Below w.heap.size w w' ∧ w'.rowIs N 25 (n * 4) (fun j => .int .i64 (c j)) := ⟨h.2.2.2.2.1, h.2.2.2.2.2.1⟩
theorem hide2 {p : Prop} (h : p) : Hid p := h
theorem held_drew {c : Nat → Int} {n N G : Nat} {w wp : World} (h : Keeps c n N G w wp) : Held c n N G w wp.drew := held_of ⟨h.1.drew, h.2.1.drew, h.2.2.drew⟩
theorem keeps_start {c : Nat → Int} {n : Nat} {w w1 w2 : World} (hb1 : Below w.heap.size w w1) (hr1 : w1.rowIs w.heap.size 25 (n * 4) (fun j => .int .i64 (c j))) (hb2 : Below w1.heap.size w1 w2) :
    Keeps c n w.heap.size w2.heap.size w (w2.alloc (.cells #[.int .i64 (wrap64 (T c 0 n)), .int .i64 (wrap64 (T c 1 n)), .int .i64 (wrap64 (T c 2 n)), .int .i64 (wrap64 (T c 3 n))] 25)) := by
  have h2 : Below w.heap.size w w2 := hb1.trans (hb2.mono hb1.size)
  refine ⟨h2.alloc h2.size _, (row_below hb2 hr1.lt hr1).alloc _, ?_⟩
  refine (row4_new w2 _ _ _ _).congr fun i hi => ?_
  match i, hi with
  | 0, _ => rfl
  | 1, _ => rfl
  | 2, _ => rfl
  | 3, _ => rfl
theorem total_any' (b off n cap : Nat) (c : Nat → Int) (w : World) (hn : n ≤ 1048576) (hc : ∀ j, j < n * 4 → w.cell? ⟨b, off + j, none⟩ = some (.int .i64 (c j))) (hb : b < w.heap.size) :
    Calls Yba.prog 6 #[.slice (some ⟨b, off, none⟩) n cap] w fun e w' => e = .returned (.agg #[.int .i64 (wrap64 (T c 0 n)), .int .i64 (wrap64 (T c 1 n)), .int .i64 (wrap64 (T c 2 n)), .int .i64 (wrap64 (T c 3 n))]) ∧ Below w.heap.size w w' := total_any b off n cap c w hn hc hb
set_option maxHeartbeats 1000000 in
theorem law_pos (b off n cap : Nat) (c : Nat → Int) (w : World) (hn : n ≤ 1048576) (h0 : 0 < n) (hc : ∀ j, j < n * 4 → w.cell? ⟨b, off + j, none⟩ = some (.int .i64 (c j))) (hb : b < w.heap.size) :
    Calls Yba.prog 3 #[.slice (some ⟨b, off, none⟩) n cap] w fun e w' => e = .returned (.bool true) ∧ Below w.heap.size w w' := by
  have q22 : ∀ (w : World) (a : Option Addr) (n c n' c' : Nat), (binOp .eql 22 (.slice a n c) (.slice none n' c')).run Yba.prog w = .ok (.bool a.isNone) w := fun w a n c n' c' => Lib.run_eql_slice_nil w 22 _ a n c n' c' Yba.underlying22
  go_enter Yba.func3, Yba.ntmps3
  go_wp2_with fail
  refine (copy_any b off n cap c w hn hc hb).mono ?_
  rintro e w1 ⟨rfl, hb1, hr1⟩
  have hs1 := hr1.lt
  have R1 : Hid (w1.rowIs w.heap.size 25 (n * 4) (fun j => .int .i64 (c j))) := hr1
  clear hr1
  go_wp2_with fail
  refine (total_any' b off n cap c w1 hn (fun j hj => (hb1.cell (p := ⟨b, off + j, none⟩) hb).trans (hc j hj)) (by omega)).mono ?_
  rintro e w2 ⟨rfl, hb2⟩
  have hs2 := hb2.size
  go_wp2_with fail
  have K0 := keeps_start hb1 R1.out hb2
  have hG := hb2.size
  go_region_held3 (fun w' => w'.cell? ⟨w2.heap.size, 0, none⟩ = some (.int .i64 (wrap64 (T c 0 n))) ∧ w'.cell? ⟨w2.heap.size, 1, none⟩ = some (.int .i64 (wrap64 (T c 1 n))) ∧ w'.cell? ⟨w2.heap.size, 2, none⟩ = some (.int .i64 (wrap64 (T c 2 n))) ∧ w'.cell? ⟨w2.heap.size, 3, none⟩ = some (.int .i64 (wrap64 (T c 3 n))) ∧ Keeps c n w.heap.size w2.heap.size w w')
    (first | exact held_step (by assumption) (by assumption) | exact held_drew (by assumption) | exact held_of (by assumption))
    (first | (go_at_call 7; refine (csum_any w.heap.size n c _ _ _ (by first | exact Or.inl ⟨rfl, rfl⟩ | exact Or.inr (Or.inl ⟨rfl, rfl⟩) | exact Or.inr (Or.inr (Or.inl ⟨rfl, rfl⟩)) | exact Or.inr (Or.inr (Or.inr ⟨rfl, rfl⟩))) hn ?_ ?_).mono ?_; (intro j hj; exact (held_row (c := c) (n := n) (N := w.heap.size) (G := w2.heap.size) (w := w) (by assumption)).cell hj); (exact (held_row (c := c) (n := n) (N := w.heap.size) (G := w2.heap.size) (w := w) (by assumption)).lt); rintro e w' ⟨rfl, hbx⟩))
  have HF := held_last (c := c) (n := n) (N := w.heap.size) (G := w2.heap.size) (w := w) (by assumption)
  obtain ⟨hbF, hrF⟩ := HF
  have HR := hide2 hrF
  clear hrF
  have hsF := hbF.size
  go_wp2
  go_loopw [5] (fun i wr => ∃ m : Nat, m ≤ n ∧ i = .int .i64 (m : Int) ∧ Below w.heap.size w wr ∧ ∀ j, j < n * 4 → wr.cell? ⟨w.heap.size, j, none⟩ = some (.int .i64 (c j))) (fun i _ => n - (intOf i).toNat)
  case atStart => exact ⟨0, Nat.zero_le _, rfl, hbF, fun j hj => HR.out.cell hj⟩
  case round =>
    clear hbF HR hsF K0 hG hb2 R1 hb1 hs1 hs2
    obtain ⟨m, hm, rfl, hbl, r⟩ := hrel
    have HB : Hid (Below w.heap.size w wr) := hbl
    have HC : Hid (∀ j, j < n * 4 → wr.cell? ⟨w.heap.size, j, none⟩ = some (.int .i64 (c j))) := r
    by_cases hmn : m < n
    · have g0 : wr.cell? ⟨b, off + m * 4, none⟩ = some (.int .i64 (c (m * 4))) := (hbl.cell (p := ⟨b, off + m * 4, none⟩) hb).trans (hc (m * 4) (by omega))
      have g1 : wr.cell? ⟨b, off + m * 4 + 1, none⟩ = some (.int .i64 (c (m * 4 + 1))) := (hbl.cell (p := ⟨b, off + m * 4 + 1, none⟩) hb).trans (hc (m * 4 + 1) (by omega))
      have g2 : wr.cell? ⟨b, off + m * 4 + 2, none⟩ = some (.int .i64 (c (m * 4 + 2))) := (hbl.cell (p := ⟨b, off + m * 4 + 2, none⟩) hb).trans (hc (m * 4 + 2) (by omega))
      have g3 : wr.cell? ⟨b, off + m * 4 + 3, none⟩ = some (.int .i64 (c (m * 4 + 3))) := (hbl.cell (p := ⟨b, off + m * 4 + 3, none⟩) hb).trans (hc (m * 4 + 3) (by omega))
      have k0 := r (m * 4) (by omega)
      have k1 := r (m * 4 + 1) (by omega)
      have k2 := r (m * 4 + 2) (by omega)
      have k3 := r (m * 4 + 3) (by omega)
      have i0 : (0 : Int) ≤ (m : Int) := by omega
      have i1 : (m : Int) < (n : Int) := by omega
      clear r hbl
      go_wp2_with fail
      go_quiet (fail)
      go_wp2
      go_roundw
      case rel => exact ⟨m + 1, by omega, by go_num, below_drewN HB.out _, HC.out⟩
      case measure => simp [intOf]; omega
    · clear r hbl
      go_wp2
      go_ret
      exact ⟨rfl, HB.out⟩

theorem law_long (a : Option Addr) (n cap : Nat) (w : World) (hn : 1048576 < n) (hm : n ≤ 9223372036854775807) :
    Calls Yba.prog 3 #[.slice a n cap] w fun e w' => e = .returned (.bool true) ∧ Below w.heap.size w w' := by
  go_enter Yba.func3, Yba.ntmps3
  go_wp2
  go_ret
  exact ⟨rfl, Below.refl _ _⟩

set_option maxHeartbeats 400000 in
theorem law_nil (w : World) :
    Calls Yba.prog 3 #[.slice none 0 0] w fun e w' => e = .returned (.bool true) ∧ Below w.heap.size w w' := by
  have q22 : ∀ (w : World) (a : Option Addr) (n c n' c' : Nat), (binOp .eql 22 (.slice a n c) (.slice none n' c')).run Yba.prog w = .ok (.bool a.isNone) w := fun w a n c n' c' => Lib.run_eql_slice_nil w 22 _ a n c n' c' Yba.underlying22
  go_enter Yba.func3, Yba.ntmps3
  go_wp2_with (first | (go_at_call 5; refine (copy_nil _).mono ?_; rintro e w' ⟨rfl, rfl⟩) | (go_at_call 6; refine (total_none _ _ _).mono ?_; rintro e w' ⟨rfl, rfl⟩))
  go_quiet ((go_at_call 7; exact Calls.quiet_of_same (csum_none _ _ _ _)))
  go_wp2
  refine wp_loop_rounds 1 ?_
  rw [rounds_succ]
  go_wp2
  go_ret
  exact ⟨rfl, below_drewN ((((Below.refl _ _).alloc (Nat.le_refl _) _).alloc (by simp) _).alloc (by simp; omega) _) _⟩

set_option maxHeartbeats 400000 in
theorem law_empty (a : Addr) (cap : Nat) (w : World) :
    Calls Yba.prog 3 #[.slice (some a) 0 cap] w fun e w' => e = .returned (.bool true) ∧ Below w.heap.size w w' := by
  have q22 : ∀ (w : World) (a : Option Addr) (n c n' c' : Nat), (binOp .eql 22 (.slice a n c) (.slice none n' c')).run Yba.prog w = .ok (.bool a.isNone) w := fun w a n c n' c' => Lib.run_eql_slice_nil w 22 _ a n c n' c' Yba.underlying22
  go_enter Yba.func3, Yba.ntmps3
  go_wp2_with fail
  refine (copy_none a cap w).mono ?_
  rintro e w1 ⟨rfl, hb1⟩
  have hs1 := hb1.size
  go_wp2_with (go_at_call 6; refine (total_none _ _ _).mono ?_; rintro e w' ⟨rfl, rfl⟩)
  go_quiet ((go_at_call 7; exact Calls.quiet_of_same (csum_none _ _ _ _)))
  go_wp2
  refine wp_loop_rounds 1 ?_
  rw [rounds_succ]
  go_wp2
  go_ret
  exact ⟨rfl, below_drewN (((hb1.alloc hs1 _).alloc (by simp; omega) _).alloc (by simp; omega) _) _⟩
end Go.Proofs.Ybulkfgpk.lawS7901CWhole
