/-
  WALKS for 'LawS7904BWhole': nat.add, nat.sub at one word.
-/
import Derived.Test.YbulkfgraBWord
namespace Go.Proofs.Ybulkfgra.lawS7904BWhole
open Go.ChangeShapes Go.WideShapes Go.ChangeAt Go.RowKit

set_option maxRecDepth 20000 in
theorem nadd_10 (h : Nat) (n : Int) (w : World) (hc : w.cell? ⟨h, 0, none⟩ = some (.int .u64 n)) (hh : h < w.heap.size) :
    Calls Yba.prog 18 #[.slice none 0 0, .slice (some ⟨h, 0, none⟩) 1 1, .slice none 0 0] w fun e w' => e = .returned (.slice (some ⟨w.heap.size, 0, none⟩) 1 1) ∧ w' = w.alloc (.cells #[.int .u64 n] 53) := by
  go_enter Yba.func18, Yba.ntmps18
  go_wp2_with (go_at_call 21; refine (set_1 h n _ hc hh).mono ?_; rintro e w' ⟨rfl, rfl⟩)
  go_ret
  exact ⟨rfl, rfl⟩
set_option maxRecDepth 20000 in
theorem nadd_01 (h : Nat) (n : Int) (w : World) (hc : w.cell? ⟨h, 0, none⟩ = some (.int .u64 n)) (hh : h < w.heap.size) :
    Calls Yba.prog 18 #[.slice none 0 0, .slice none 0 0, .slice (some ⟨h, 0, none⟩) 1 1] w fun e w' => e = .returned (.slice (some ⟨w.heap.size, 0, none⟩) 1 1) ∧ w' = w.alloc (.cells #[.int .u64 n] 53) := by
  go_enter Yba.func18, Yba.ntmps18
  go_wp2_with (go_at_call 18; refine (nadd_10 h n _ hc hh).mono ?_; rintro e w' ⟨rfl, rfl⟩)
  go_ret
  exact ⟨rfl, rfl⟩
set_option maxRecDepth 20000 in
set_option maxHeartbeats 400000 in
theorem nadd_11 (g h : Nat) (x y : Int) (w : World) (hx : 0 < x) (hy : 0 < y) (hs : x + y < 18446744073709551616)
    (cx : w.cell? ⟨g, 0, none⟩ = some (.int .u64 x)) (cy : w.cell? ⟨h, 0, none⟩ = some (.int .u64 y)) (hg : g < w.heap.size) (hh : h < w.heap.size) :
    Calls Yba.prog 18 #[.slice (some ⟨g, 0, none⟩) 1 1, .slice (some ⟨g, 0, none⟩) 1 1, .slice (some ⟨h, 0, none⟩) 1 1] w fun e w' => e = .returned (.slice (some ⟨w.heap.size, 0, none⟩) 1 6) ∧ Below w.heap.size w w' := by
  have hen := enters_add
  have ha : (x + y == 0) = false := beq_eq_false_iff_ne.2 (by omega)
  have HX : Hid (0 ≤ x ∧ 0 ≤ y ∧ x + y < 18446744073709551616) := ⟨by omega, by omega, hs⟩
  clear hx hy hs
  go_enter Yba.func18, Yba.ntmps18
  go_wp2_with (go_at_call 22; refine (make_2 g _).mono ?_; rintro e w' ⟨rfl, rfl⟩)
  obtain ⟨w1, e1⟩ : ∃ w1, w1 = w.alloc (.cells #[.int .u64 0, .int .u64 0, .int .u64 0, .int .u64 0, .int .u64 0, .int .u64 0] 53) := ⟨_, rfl⟩
  have r1 : w1.rowIs w.heap.size 53 6 (fun _ => .int .u64 0) := by
    rw [e1]
    refine World.rowIs_alloc w #[.int .u64 0, .int .u64 0, .int .u64 0, .int .u64 0, .int .u64 0, .int .u64 0] 53 _ fun i hi => ?_
    match i, hi with
    | 0, _ => rfl
    | 1, _ => rfl
    | 2, _ => rfl
    | 3, _ => rfl
    | 4, _ => rfl
    | 5, _ => rfl
  have cx1 : w1.cell? ⟨g, 0, none⟩ = some (.int .u64 x) := by rw [e1, World.cell?_alloc_past _ _ _ hg]; exact cx
  have cy1 : w1.cell? ⟨h, 0, none⟩ = some (.int .u64 y) := by rw [e1, World.cell?_alloc_past _ _ _ hh]; exact cy
  have HB : Hid (Below w.heap.size w w1) := by rw [e1]; exact (Below.refl _ _).alloc (Nat.le_refl _) _
  have z0 : w1.cell? ⟨w.heap.size, 0, none⟩ = some (.int .u64 0) := r1.cell (i := 0) (by omega)
  have z1 : w1.cell? ⟨w.heap.size, 1, none⟩ = some (.int .u64 0) := r1.cell (i := 1) (by omega)
  have f0 := r1.frozen
  rw [← e1]
  have HR := hide2 r1
  clear e1 r1 cx cy
  go_region_with ((go_at_call 10; refine (addVV_1 w.heap.size g h 6 1 1 x y 0 _ HX.out.1 HX.out.2.1 HX.out.2.2 ?_ ?_ ?_ ?_).mono ?_; exact z0; exact f0 0; exact cx1; exact cy1; rintro e w' ⟨rfl, q, rfl⟩))
  all_goals
    have HR2 : Hid (((((w1.drewN (1 + q)).setCell ⟨w.heap.size, 0, none⟩ (.int .u64 (x + y))).setCell ⟨w.heap.size, 1, none⟩ (.int .u64 0))).rowIs w.heap.size 53 6 (fun j => if j = 1 then .int .u64 0 else if j = 0 then .int .u64 (x + y) else .int .u64 0)) := ((HR.out.of_block (w' := w1.drewN (1 + q)) rfl).set 0 _).set 1 _
    have HB2 : Hid (Below w.heap.size w (((w1.drewN (1 + q)).setCell ⟨w.heap.size, 0, none⟩ (.int .u64 (x + y))).setCell ⟨w.heap.size, 1, none⟩ (.int .u64 0))) := ((below_drewN HB.out _).setCell (p := ⟨w.heap.size, 0, none⟩) (Nat.le_refl _) _).setCell (p := ⟨w.heap.size, 1, none⟩) (Nat.le_refl _) _
    go_wp2_with (go_at_call 25; (refine (norm_2 w.heap.size 6 (x + y) _ (by omega) (by omega) ha ?_ ?_).mono ?_; exact HR2.out.cell (i := 0) (by omega); exact HR2.out.cell (i := 1) (by omega); rintro e w' ⟨rfl, rfl⟩))
    go_ret
    exact ⟨rfl, HB2.out⟩

set_option maxRecDepth 20000 in
set_option maxHeartbeats 400000 in
/-- 'nat.sub' in place: a number of one word less 1 -/
theorem nsub_11 (g h : Nat) (x : Nat) (w : World) (h1 : 1 ≤ x) (h2 : x < 18446744073709551616) (r : w.rowIs g 53 1 (fun _ => .int .u64 x))
    (cy : w.cell? ⟨h, 0, none⟩ = some (.int .u64 1)) :
    Calls Yba.prog 19 #[.slice (some ⟨g, 0, none⟩) 1 1, .slice (some ⟨g, 0, none⟩) 1 1, .slice (some ⟨h, 0, none⟩) 1 1] w fun e w' => e = .returned (.slice (some ⟨g, 0, none⟩) (if x = 1 then 0 else 1) 1) ∧ ∃ q z, w' = (w.drewN q).setCell ⟨g, 0, none⟩ z := by
  have hen := enters_sub
  have cx : w.cell? ⟨g, 0, none⟩ = some (.int .u64 x) := r.cell (i := 0) (by omega)
  have f0 := r.frozen
  have HR := hide2 r
  clear r
  by_cases e1 : x = 1
  · subst e1
    go_enter Yba.func19, Yba.ntmps19
    go_wp2_with (go_at_call 22; refine (make_in g _).mono ?_; rintro e w2 ⟨rfl, hw2⟩; subst hw2)
    go_region_with ((go_at_call 11; (refine (subVV_1 g h 1 1 1 _ (by omega) (by omega) ?_ ?_ ?_).mono ?_; exact cx; exact f0 0; exact cy; rintro e w' ⟨rfl, q, rfl⟩)))
    all_goals
      go_wp2_with (go_at_call 25; (refine (norm_0 g 1 _ (by omega) (by omega) ?_).mono ?_; exact ((HR.out.of_block (w' := World.drewN _ (1 + q)) rfl).set 0 (.int .u64 0)).cell (i := 0) (by omega); rintro e w' ⟨rfl, rfl⟩))
      go_ret
      exact ⟨rfl, _, _, rfl⟩
  · have e2 : ((x : Int) - 1 == 0) = false := beq_eq_false_iff_ne.2 (by omega)
    go_enter Yba.func19, Yba.ntmps19
    go_wp2_with (go_at_call 22; refine (make_in g _).mono ?_; rintro e w2 ⟨rfl, hw2⟩; subst hw2)
    go_region_with ((go_at_call 11; (refine (subVV_1 g h 1 1 x _ h1 h2 ?_ ?_ ?_).mono ?_; exact cx; exact f0 0; exact cy; rintro e w' ⟨rfl, q, rfl⟩)))
    all_goals
      go_wp2_with (go_at_call 25; (refine (norm_1 g 1 ((x : Int) - 1) _ (by omega) (by omega) e2 ?_).mono ?_; exact ((HR.out.of_block (w' := World.drewN _ (1 + q)) rfl).set 0 (.int .u64 ((x : Int) - 1))).cell (i := 0) (by omega); rintro e w' ⟨rfl, rfl⟩))
      go_ret
      exact ⟨rfl, _, _, rfl⟩
theorem nsub_K (K Z g h k : Nat) (x : Nat) (w : World) (h1 : 1 ≤ x) (h2 : x < 18446744073709551616) (hk : (if x = 1 then 0 else 1) = k) (r : w.rowIs g 53 1 (fun _ => .int .u64 x))
    (cy : w.cell? ⟨h, 0, none⟩ = some (.int .u64 1)) (hK : K ≤ g) (hne : Z ≠ g) :
    Calls Yba.prog 19 #[.slice (some ⟨g, 0, none⟩) 1 1, .slice (some ⟨g, 0, none⟩) 1 1, .slice (some ⟨h, 0, none⟩) 1 1] w fun e w' => e = .returned (.slice (some ⟨g, 0, none⟩) k 1) ∧ Below K w w' ∧ w'.heap[Z]? = w.heap[Z]? := by
  refine (nsub_11 g h x w h1 h2 r cy).mono ?_
  rintro e w' ⟨rfl, q, z, rfl⟩
  rw [hk]
  exact ⟨rfl, (below_drewN (Below.refl _ _) q).setCell (p := ⟨g, 0, none⟩) hK _, Below.heap_setCell _ _ _ _ hne⟩
end Go.Proofs.Ybulkfgra.lawS7904BWhole
