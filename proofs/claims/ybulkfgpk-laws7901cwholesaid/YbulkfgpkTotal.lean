/-
  WALKS for 'LawS7901CWhole': 'Total'.
-/
import Derived.Test.YbulkfgpkSum
import Derived.Deep.OwnRows
namespace Go.Proofs.Ybulkfgpk.lawS7901CWhole
open Go.ChangeShapes Go.WideShapes Go.ChangeAt Go.RowKit

/-- four stores into a block of four cells -/
theorem row4_set {w : World} {B : Nat} {f g : Nat → Value} (h : w.rowIs B 25 4 f) {v0 v1 v2 v3 : Value} (e0 : g 0 = v0) (e1 : g 1 = v1) (e2 : g 2 = v2) (e3 : g 3 = v3) :
    ((((w.setCell ⟨B, 0, none⟩ v0).setCell ⟨B, 1, none⟩ v1).setCell ⟨B, 2, none⟩ v2).setCell ⟨B, 3, none⟩ v3).rowIs B 25 4 g := by
  refine ((((h.set 0 v0).set 1 v1).set 2 v2).set 3 v3).congr fun i hi => ?_
  match i, hi with
  | 0, _ => simp [e0]
  | 1, _ => simp [e1]
  | 2, _ => simp [e2]
  | 3, _ => simp [e3]
theorem row4_other {w : World} {B A : Nat} {f : Nat → Value} (h : w.rowIs B 25 4 f) (hne : B ≠ A) (v0 v1 v2 v3 : Value) :
    ((((w.setCell ⟨A, 0, none⟩ v0).setCell ⟨A, 1, none⟩ v1).setCell ⟨A, 2, none⟩ v2).setCell ⟨A, 3, none⟩ v3).rowIs B 25 4 f :=
  (((h.setOther hne v0).setOther hne v1).setOther hne v2).setOther hne v3
theorem below4 {N : Nat} {w w' : World} {A : Nat} (h : Below N w w') (hA : N ≤ A) (v0 v1 v2 v3 : Value) :
    Below N w ((((w'.setCell ⟨A, 0, none⟩ v0).setCell ⟨A, 1, none⟩ v1).setCell ⟨A, 2, none⟩ v2).setCell ⟨A, 3, none⟩ v3) :=
  (((h.setCell hA v0).setCell hA v1).setCell hA v2).setCell hA v3
theorem total_step (c : Nat → Int) (q m : Nat) : wrap64 (T c q (m + 1)) = wrap64 (wrap64 (T c q m) + c (m * 4 + q)) := by
  rw [wrap_add, T_succ]
theorem row4_new (w : World) (c0 c1 c2 c3 : Value) : (w.alloc (.cells #[c0, c1, c2, c3] 25)).rowIs w.heap.size 25 4 (fun q => (#[c0, c1, c2, c3] : Array Value).getD q c0) :=
  World.rowIs_alloc w #[c0, c1, c2, c3] 25 _ (fun i hi => by
    match i, hi with
    | 0, _ => rfl
    | 1, _ => rfl
    | 2, _ => rfl
    | 3, _ => rfl)

/-- what 'Total' gives for a row of n elements -/
def totals (c : Nat → Int) (n : Nat) : Value := .agg #[.int .i64 (wrap64 (T c 0 n)), .int .i64 (wrap64 (T c 1 n)), .int .i64 (wrap64 (T c 2 n)), .int .i64 (wrap64 (T c 3 n))]

set_option maxHeartbeats 400000 in
theorem total_any (b off n cap : Nat) (c : Nat → Int) (w : World) (hn : n ≤ 1048576) (hc : ∀ j, j < n * 4 → w.cell? ⟨b, off + j, none⟩ = some (.int .i64 (c j))) (hb : b < w.heap.size) :
    Calls Yba.prog 6 #[.slice (some ⟨b, off, none⟩) n cap] w fun e w' => e = .returned (totals c n) ∧ Below w.heap.size w w' := by
  go_enter Yba.func6, Yba.ntmps6
  go_wp2
  go_loopw [8] (fun i wr => ∃ m : Nat, m ≤ n ∧ i = .int .i64 (m : Int) ∧ Below w.heap.size w wr ∧
     wr.rowIs (w.heap.size + 1) 25 4 (fun q => .int .i64 (wrap64 (T c q m))) ∧ wr.rowIs w.heap.size 25 4 (fun _ => .int .i64 0)) (fun i _ => n - (intOf i).toNat)
  case atStart =>
    refine ⟨0, Nat.zero_le _, rfl, ((Below.refl _ _).alloc (Nat.le_refl _) _).alloc (by simp) _, ?_, ?_⟩
    · have h := row4_new (w.alloc (.cells #[.int .i64 0, .int .i64 0, .int .i64 0, .int .i64 0] 25)) (.int .i64 0) (.int .i64 0) (.int .i64 0) (.int .i64 0)
      rw [World.size_alloc] at h
      refine h.congr fun i hi => ?_
      match i, hi with
      | 0, _ => simp [T, wrap_zero]
      | 1, _ => simp [T, wrap_zero]
      | 2, _ => simp [T, wrap_zero]
      | 3, _ => simp [T, wrap_zero]
    · refine (World.rowIs.alloc (row4_new w (.int .i64 0) (.int .i64 0) (.int .i64 0) (.int .i64 0)) _).congr fun i hi => ?_
      match i, hi with
      | 0, _ => rfl
      | 1, _ => rfl
      | 2, _ => rfl
      | 3, _ => rfl
  case round =>
    obtain ⟨m, hm, rfl, hbl, r1, r0⟩ := hrel
    have s0 := r1.cell (i := 0) (by omega)
    have s1 := r1.cell (i := 1) (by omega)
    have s2 := r1.cell (i := 2) (by omega)
    have s3 := r1.cell (i := 3) (by omega)
    have f1 := r1.frozen
    have hsz := r1.lt
    by_cases h0 : m < n
    · have g0 : wr.cell? ⟨b, off + m * 4, none⟩ = some (.int .i64 (c (m * 4))) := (hbl.cell (p := ⟨b, off + m * 4, none⟩) hb).trans (hc (m * 4) (by omega))
      have g1 : wr.cell? ⟨b, off + m * 4 + 1, none⟩ = some (.int .i64 (c (m * 4 + 1))) := (hbl.cell (p := ⟨b, off + m * 4 + 1, none⟩) hb).trans (hc (m * 4 + 1) (by omega))
      have g2 : wr.cell? ⟨b, off + m * 4 + 2, none⟩ = some (.int .i64 (c (m * 4 + 2))) := (hbl.cell (p := ⟨b, off + m * 4 + 2, none⟩) hb).trans (hc (m * 4 + 2) (by omega))
      have g3 : wr.cell? ⟨b, off + m * 4 + 3, none⟩ = some (.int .i64 (c (m * 4 + 3))) := (hbl.cell (p := ⟨b, off + m * 4 + 3, none⟩) hb).trans (hc (m * 4 + 3) (by omega))
      have R1 : Hid (wr.rowIs (w.heap.size + 1) 25 4 (fun q => .int .i64 (wrap64 (T c q m)))) := r1
      have R0 : Hid (wr.rowIs w.heap.size 25 4 (fun _ => .int .i64 0)) := r0
      clear r1 r0
      go_wp2
      go_roundw
      case rel =>
        refine ⟨m + 1, by omega, by go_num, (below4 hbl (by omega) _ _ _ _).alloc (by have := hbl.size; simp; omega) _, ?_, World.rowIs.alloc (row4_other R0.out (by omega) _ _ _ _) _⟩
        exact World.rowIs.alloc (row4_set R1.out (by rw [total_step]; rfl) (by rw [total_step]) (by rw [total_step]) (by rw [total_step])) _
      case measure => simp [intOf]; omega
    · obtain rfl : m = n := by omega
      have t0 := r0.cell (i := 0) (by omega)
      have t1 := r0.cell (i := 1) (by omega)
      have t2 := r0.cell (i := 2) (by omega)
      have t3 := r0.cell (i := 3) (by omega)
      have f0 := r0.frozen
      have hsz0 := r0.lt
      clear r1 r0
      go_wp2
      exact bodyPost_ret (v := totals c m) (by simp [results, Yba.results6, go_sem, totals, *]) rfl ⟨rfl, below4 hbl (Nat.le_refl _) _ _ _ _⟩

/-- .. of no element: whatever the slice's address. -/
theorem total_none (a : Option Addr) (cap : Nat) (w : World) :
    Calls Yba.prog 6 #[.slice a 0 cap] w fun e w' => e = .returned (.agg #[.int .i64 0, .int .i64 0, .int .i64 0, .int .i64 0]) ∧ w' = (w.alloc (.cells #[.int .i64 0, .int .i64 0, .int .i64 0, .int .i64 0] 25)).alloc (.cells #[.int .i64 0, .int .i64 0, .int .i64 0, .int .i64 0] 25) := by
  go_enter Yba.func6, Yba.ntmps6
  go_wp2
  refine wp_loop_rounds 1 ?_
  rw [rounds_succ]
  go_wp2
  exact bodyPost_ret (v := .agg #[.int .i64 0, .int .i64 0, .int .i64 0, .int .i64 0]) (by simp [results, Yba.results6, go_sem]) rfl ⟨rfl, rfl⟩
end Go.Proofs.Ybulkfgpk.lawS7901CWhole
