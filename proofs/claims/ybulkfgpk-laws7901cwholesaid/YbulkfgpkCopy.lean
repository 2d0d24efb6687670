/-
  WALKS for 'LawS7901CWhole': 'zzs7901ccopy'.
-/
import Derived.Test.YbulkfgpkTotal
namespace Go.Proofs.Ybulkfgpk.lawS7901CWhole
open Go.ChangeShapes Go.WideShapes Go.ChangeAt Go.RowKit

theorem info25 : (Yba.prog.info? 25).map (fun i => (i.zero, i.size, i.bytes)) = some (some (.agg #[.int .i64 0, .int .i64 0, .int .i64 0, .int .i64 0]), 4, 32) := by kernel_rfl

theorem made_zero (n i : Nat) (hi : i < n) : (madeCells #[.int .i64 0, .int .i64 0, .int .i64 0, .int .i64 0] n)[i]? = some (.int .i64 0) := by
  have h4 : i % 4 < 4 := Nat.mod_lt _ (by omega)
  simp only [madeCells, List.size_toArray, List.length_cons, List.length_nil]
  rw [Array.getElem?_map, Array.getElem?_range]
  simp only [hi, if_true, Option.map_some]
  congr 1
  generalize i % 4 = r at h4
  match r, h4 with
  | 0, _ => rfl
  | 1, _ => rfl
  | 2, _ => rfl
  | 3, _ => rfl

/-- 'make([]Counts, n)' -/
theorem run_make25 (n : Nat) (hn : n ≤ 1048576) (w : World) :
    (Instr.makeSlice 22 (.int .i64 (n : Int)) (.int .i64 (n : Int))).run Yba.prog w = .ok (.slice (some ⟨w.heap.size, 0, none⟩) n n) (w.alloc (.cells (madeCells #[.int .i64 0, .int .i64 0, .int .i64 0, .int .i64 0] (n * 4)) 25)) := by
  obtain ⟨i, hi, hz0, hz1, hz2⟩ := info_parts info25
  have h := run_make (P := Yba.prog) w 22 25 i (.agg #[.int .i64 0, .int .i64 0, .int .i64 0, .int .i64 0]) Yba.underlying22 hi hz0 .i64 .i64 (n : Int) (n : Int) (by omega) (by omega) (by rw [hz2]; omega) (by omega)
  rw [h]
  simp [hz1, Value.cells]

theorem row_new (w : World) (n : Nat) : (w.alloc (.cells (madeCells #[.int .i64 0, .int .i64 0, .int .i64 0, .int .i64 0] (n * 4)) 25)).rowIs w.heap.size 25 (n * 4) (fun _ => .int .i64 0) := by
  have h := World.rowIs_alloc w (madeCells #[.int .i64 0, .int .i64 0, .int .i64 0, .int .i64 0] (n * 4)) 25 (fun _ => .int .i64 0) (fun i hi => made_zero _ i (by rwa [size_madeCells] at hi))
  rwa [size_madeCells] at h

theorem copy_step {w : World} {B n m : Nat} {c : Nat → Int} (h : w.rowIs B 25 (n * 4) (fun j => if j < m * 4 then .int .i64 (c j) else .int .i64 0)) :
    ((((w.setCell ⟨B, m * 4, none⟩ (.int .i64 (c (m * 4)))).setCell ⟨B, m * 4 + 1, none⟩ (.int .i64 (c (m * 4 + 1)))).setCell ⟨B, m * 4 + 2, none⟩ (.int .i64 (c (m * 4 + 2)))).setCell ⟨B, m * 4 + 3, none⟩ (.int .i64 (c (m * 4 + 3)))).rowIs B 25 (n * 4)
      (fun j => if j < (m + 1) * 4 then .int .i64 (c j) else .int .i64 0) := by
  refine ((((h.set (m * 4) _).set (m * 4 + 1) _).set (m * 4 + 2) _).set (m * 4 + 3) _).congr fun i _ => ?_
  by_cases h3 : i = m * 4 + 3
  · subst h3; simp; omega
  · by_cases h2 : i = m * 4 + 2
    · subst h2; simp; omega
    · by_cases h1 : i = m * 4 + 1
      · subst h1; simp; omega
      · by_cases h0 : i = m * 4
        · subst h0; simp
        · simp only [h3, h2, h1, h0, if_false]
          by_cases hl : i < m * 4
          · rw [if_pos hl, if_pos (by omega)]
          · rw [if_neg hl, if_neg (by omega)]

/-- nil -/
theorem copy_nil (w : World) : Calls Yba.prog 5 #[.slice none 0 0] w fun e w' => e = .returned (.slice none 0 0) ∧ w' = w := by
  have q22 : ∀ (w : World) (a : Option Addr) (n c n' c' : Nat), (binOp .eql 22 (.slice a n c) (.slice none n' c')).run Yba.prog w = .ok (.bool a.isNone) w := fun w a n c n' c' => Lib.run_eql_slice_nil w 22 _ a n c n' c' Yba.underlying22
  go_enter Yba.func5, Yba.ntmps5
  go_wp2
  go_ret
  exact ⟨rfl, rfl⟩

set_option maxHeartbeats 400000 in
/-- no element, not nil -/
theorem copy_none (a : Addr) (cap : Nat) (w : World) : Calls Yba.prog 5 #[.slice (some a) 0 cap] w fun e w' => e = .returned (.slice (some ⟨w.heap.size, 0, none⟩) 0 0) ∧ Below w.heap.size w w' := by
  have q22 : ∀ (w : World) (a : Option Addr) (n c n' c' : Nat), (binOp .eql 22 (.slice a n c) (.slice none n' c')).run Yba.prog w = .ok (.bool a.isNone) w := fun w a n c n' c' => Lib.run_eql_slice_nil w 22 _ a n c n' c' Yba.underlying22
  have hmk : ∀ w : World, (Instr.makeSlice 22 (.int .i64 0) (.int .i64 0)).run Yba.prog w = .ok (.slice (some ⟨w.heap.size, 0, none⟩) 0 0) (w.alloc (.cells (madeCells #[.int .i64 0, .int .i64 0, .int .i64 0, .int .i64 0] 0) 25)) := run_make25 0 (by omega)
  go_enter Yba.func5, Yba.ntmps5
  go_wp2
  refine wp_loop_rounds 1 ?_
  rw [rounds_succ]
  go_wp2
  go_ret
  exact ⟨rfl, (Below.refl _ _).alloc (Nat.le_refl _) _⟩

set_option maxHeartbeats 400000 in
theorem copy_any (b off n cap : Nat) (c : Nat → Int) (w : World) (hn : n ≤ 1048576) (hc : ∀ j, j < n * 4 → w.cell? ⟨b, off + j, none⟩ = some (.int .i64 (c j))) (hb : b < w.heap.size) :
    Calls Yba.prog 5 #[.slice (some ⟨b, off, none⟩) n cap] w fun e w' => e = .returned (.slice (some ⟨w.heap.size, 0, none⟩) n n) ∧ Below w.heap.size w w' ∧ w'.rowIs w.heap.size 25 (n * 4) (fun j => .int .i64 (c j)) := by
  have q22 : ∀ (w : World) (a : Option Addr) (n c n' c' : Nat), (binOp .eql 22 (.slice a n c) (.slice none n' c')).run Yba.prog w = .ok (.bool a.isNone) w := fun w a n c n' c' => Lib.run_eql_slice_nil w 22 _ a n c n' c' Yba.underlying22
  have hmk := run_make25 n hn
  go_enter Yba.func5, Yba.ntmps5
  go_wp2
  go_loopw [4] (fun i wr => ∃ m : Nat, m ≤ n ∧ i = .int .i64 (m : Int) ∧ Below w.heap.size w wr ∧ wr.rowIs w.heap.size 25 (n * 4) (fun j => if j < m * 4 then .int .i64 (c j) else .int .i64 0)) (fun i _ => n - (intOf i).toNat)
  case atStart => exact ⟨0, Nat.zero_le _, rfl, (Below.refl _ _).alloc (Nat.le_refl _) _, (row_new w n).congr fun i hi => by simp⟩
  case round =>
    obtain ⟨m, hm, rfl, hbl, r⟩ := hrel
    have hsz := r.lt
    have f := r.frozen
    by_cases h0 : m < n
    · have g0 : wr.cell? ⟨b, off + m * 4, none⟩ = some (.int .i64 (c (m * 4))) := (hbl.cell (p := ⟨b, off + m * 4, none⟩) hb).trans (hc (m * 4) (by omega))
      have g1 : wr.cell? ⟨b, off + m * 4 + 1, none⟩ = some (.int .i64 (c (m * 4 + 1))) := (hbl.cell (p := ⟨b, off + m * 4 + 1, none⟩) hb).trans (hc (m * 4 + 1) (by omega))
      have g2 : wr.cell? ⟨b, off + m * 4 + 2, none⟩ = some (.int .i64 (c (m * 4 + 2))) := (hbl.cell (p := ⟨b, off + m * 4 + 2, none⟩) hb).trans (hc (m * 4 + 2) (by omega))
      have g3 : wr.cell? ⟨b, off + m * 4 + 3, none⟩ = some (.int .i64 (c (m * 4 + 3))) := (hbl.cell (p := ⟨b, off + m * 4 + 3, none⟩) hb).trans (hc (m * 4 + 3) (by omega))
      have k0 : wr.cell? ⟨w.heap.size, m * 4, none⟩ = some (.int .i64 0) := by simpa using r.cell (i := m * 4) (by omega)
      have k1 : wr.cell? ⟨w.heap.size, m * 4 + 1, none⟩ = some (.int .i64 0) := (r.cell (i := m * 4 + 1) (by omega)).trans (by rw [if_neg (by omega)])
      have k2 : wr.cell? ⟨w.heap.size, m * 4 + 2, none⟩ = some (.int .i64 0) := (r.cell (i := m * 4 + 2) (by omega)).trans (by rw [if_neg (by omega)])
      have k3 : wr.cell? ⟨w.heap.size, m * 4 + 3, none⟩ = some (.int .i64 0) := (r.cell (i := m * 4 + 3) (by omega)).trans (by rw [if_neg (by omega)])
      have R : Hid (wr.rowIs w.heap.size 25 (n * 4) (fun j => if j < m * 4 then .int .i64 (c j) else .int .i64 0)) := r
      clear r
      go_wp2
      go_roundw
      case rel => exact ⟨m + 1, by omega, by go_num, (((hbl.setCell (Nat.le_refl _) _).setCell (Nat.le_refl _) _).setCell (Nat.le_refl _) _).setCell (Nat.le_refl _) _, copy_step R.out⟩
      case measure => simp [intOf]; omega
    · obtain rfl : m = n := by omega
      go_wp2
      go_ret
      exact ⟨rfl, hbl, r.congr fun i hi => by simp [hi]⟩
end Go.Proofs.Ybulkfgpk.lawS7901CWhole
