/-
  WALKS for 'LawS7902AWhole': (*Record).String, over strings.Join's contract.
-/
import Derived.Test.YbulkfgpyPlain
import Derived.Test.YbulkfgpyRows
import Derived.WalkKit
import Derived.ProofKit
import Derived.OpenShut
import Derived.WalkSpells
import Derived.WalkLawsBesides
import Derived.Deep.OwnRows
import Derived.Laws.Concat
namespace Go.Proofs.Ybulkfgpy.lawS7902AWhole
open Go.ChangeShapes Go.WideShapes Go.ChangeAt Go.RowKit

theorem info9 : (Yba.prog.info? 9).map (fun i => (i.zero, i.size, i.bytes)) = some (some (.string ⟨#[]⟩), 1, 16) := by kernel_rfl
theorem made_str (n i : Nat) (hi : i < n) : (madeCells #[.string ⟨#[]⟩] n)[i]? = some (.string ⟨#[]⟩) := by
  simp only [madeCells, List.size_toArray, List.length_cons, List.length_nil]
  rw [Array.getElem?_map, Array.getElem?_range]
  simp only [hi, if_true, Option.map_some, Nat.zero_add, Nat.mod_one]
  rfl
/-- 'make([]string, n)' -/
theorem run_make34 (n : Nat) (hn : n ≤ 1048576) (w : World) :
    (Instr.makeSlice 34 (.int .i64 (n : Int)) (.int .i64 (n : Int))).run Yba.prog w = .ok (.slice (some ⟨w.heap.size, 0, none⟩) n n) (w.alloc (.cells (madeCells #[.string ⟨#[]⟩] n) 9)) := by
  obtain ⟨i, hi, hz0, hz1, hz2⟩ := info_parts info9
  have h := run_make (P := Yba.prog) w 34 9 i (.string ⟨#[]⟩) Yba.underlying34 hi hz0 .i64 .i64 (n : Int) (n : Int) (by omega) (by omega) (by rw [hz2]; omega) (by omega)
  rw [h]
  simp [hz1, Value.cells]
theorem row_new34 (w : World) (n : Nat) : (w.alloc (.cells (madeCells #[.string ⟨#[]⟩] n) 9)).rowIs w.heap.size 9 n (fun _ => .string ⟨#[]⟩) := by
  have h := World.rowIs_alloc w (madeCells #[.string ⟨#[]⟩] n) 9 (fun _ => .string ⟨#[]⟩) (fun i hi => made_str _ i (by rwa [size_madeCells] at hi))
  rwa [size_madeCells] at h

theorem word_step {w : World} {B n m : Nat} {c : Nat → ByteArray} (h : w.rowIs B 9 n (fun j => if j < m then .string (c j) else .string ⟨#[]⟩)) :
    (w.setCell ⟨B, m, none⟩ (.string (c m))).rowIs B 9 n (fun j => if j < m + 1 then .string (c j) else .string ⟨#[]⟩) := by
  refine (h.set m _).congr fun i _ => ?_
  by_cases h0 : i = m
  · subst h0; simp
  · simp only [h0, if_false]
    by_cases hl : i < m
    · rw [if_pos hl, if_pos (by omega)]
    · rw [if_neg hl, if_neg (by omega)]

set_option maxHeartbeats 400000 in
theorem str_pos (R B n : Nat) (na va : Nat → ByteArray) (res : ByteArray) (w : World) (hn : n ≤ 1048576) (h0 : 0 < n) 
    (hf : w.cell? ⟨R, 1, none⟩ = some (.slice (some ⟨B, 0, none⟩) n n))
    (hc0 : ∀ j, j < n → w.cell? ⟨B, j * 2, none⟩ = some (.string (na j))) (hc1 : ∀ j, j < n → w.cell? ⟨B, j * 2 + 1, none⟩ = some (.string (va j)))
    (hz : ∀ j, j < n → (na j).size + (va j).size ≤ 1048576)
    (hR : R < w.heap.size) (hB : B < w.heap.size)
    (hj : ∀ w' : World, w'.rowIs w.heap.size 9 n (fun j => .string (word na va j)) → Calls Yba.prog 5 #[.slice (some ⟨w.heap.size, 0, none⟩) n n, .string ⟨#[32]⟩] w' fun e w'' => e = .returned (.string res) ∧ Below w'.heap.size w' w'') :
    Calls Yba.prog 4 #[.pointer (some ⟨R, 0, none⟩)] w fun e w' => e = .returned (.string res) ∧ Below w.heap.size w w' := by
  have hmk := run_make34 n hn
  go_enter Yba.func4, Yba.ntmps4
  go_wp2
  go_loopw [17] (fun i wr => ∃ m : Nat, m ≤ n ∧ i = .int .i64 (m : Int) ∧ Below w.heap.size w wr ∧ wr.rowIs w.heap.size 9 n (fun j => if j < m then .string (word na va j) else .string ⟨#[]⟩)) (fun i _ => n - (intOf i).toNat)
  case atStart => exact ⟨0, Nat.zero_le _, rfl, (Below.refl _ _).alloc (Nat.le_refl _) _, (row_new34 w n).congr fun i hi => by simp⟩
  case round =>
    obtain ⟨m, hm, rfl, hbl, r⟩ := hrel
    have hsz := r.lt
    have f := r.frozen
    by_cases hmn : m < n
    · have g0 : wr.cell? ⟨B, m * 2, none⟩ = some (.string (na m)) := (hbl.cell (p := ⟨B, m * 2, none⟩) hB).trans (hc0 m hmn)
      have g1 : wr.cell? ⟨B, m * 2 + 1, none⟩ = some (.string (va m)) := (hbl.cell (p := ⟨B, m * 2 + 1, none⟩) hB).trans (hc1 m hmn)
      have k0 : wr.cell? ⟨w.heap.size, m, none⟩ = some (.string ⟨#[]⟩) := by simpa using r.cell (i := m) (by omega)
      have RR : Hid (wr.rowIs w.heap.size 9 n (fun j => if j < m then .string (word na va j) else .string ⟨#[]⟩)) := r
      clear r
      have z := hz m hmn
      have z1 : ¬ 9223372036854775807 < (na m).size + 1 := by omega
      have z2 : ¬ 9223372036854775807 < (na m).size + 1 + (va m).size := by omega
      clear z
      go_wp2
      go_roundw
      case rel => exact ⟨m + 1, by omega, by go_num, (hbl.setCell (Nat.le_refl _) _).alloc (by simp; omega) _, (word_step RR.out).alloc _⟩
      case measure => simp [intOf]; omega
    · obtain rfl : m = n := by omega
      have r' : wr.rowIs w.heap.size 9 m (fun j => .string (word na va j)) := r.congr fun i hi => by simp [hi]
      have RR := hj wr r'
      clear r r'
      go_wp2_with (go_at_call 5; refine RR.mono ?_; rintro e w' ⟨rfl, hb5⟩)
      go_ret
      exact ⟨rfl, hbl.trans (hb5.mono (by omega))⟩

theorem str_none (R : Nat) (a : Option Addr) (w : World)
    (hf : w.cell? ⟨R, 1, none⟩ = some (.slice a 0 0)) (hR : R < w.heap.size)
    (hj : ∀ (w' : World) (a : Option Addr) (c : Nat), Calls Yba.prog 5 #[.slice a 0 c, .string ⟨#[32]⟩] w' fun e w'' => e = .returned (.string ⟨#[]⟩) ∧ w'' = w') :
    Calls Yba.prog 4 #[.pointer (some ⟨R, 0, none⟩)] w fun e w' => e = .returned (.string ⟨#[]⟩) ∧ Below w.heap.size w w' := by
  have hmk : ∀ w : World, (Instr.makeSlice 34 (.int .i64 0) (.int .i64 0)).run Yba.prog w = .ok (.slice (some ⟨w.heap.size, 0, none⟩) 0 0) (w.alloc (.cells (madeCells #[.string ⟨#[]⟩] 0) 9)) := run_make34 0 (by omega)
  go_enter Yba.func4, Yba.ntmps4
  go_wp2
  refine wp_loop_rounds 1 ?_
  rw [rounds_succ]
  go_wp2_with (go_at_call 5; refine (hj _ _ _).mono ?_; rintro e w' ⟨rfl, rfl⟩)
  go_ret
  exact ⟨rfl, (Below.refl _ _).alloc (Nat.le_refl _) _⟩
end Go.Proofs.Ybulkfgpy.lawS7902AWhole
