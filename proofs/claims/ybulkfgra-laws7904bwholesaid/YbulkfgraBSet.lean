/-
  WALKS for 'LawS7904BWhole': nat.make, nat.set, (*Int).Set.
-/
import Derived.Test.YbulkfgraBInt
import Derived.Deep.RegionWith
import Derived.RegionTactic
import Derived.Laws.CopyRow
import Derived.Laws.IdiomCopy
namespace Go.Proofs.Ybulkfgra.lawS7904BWhole
open Go.ChangeShapes Go.WideShapes Go.ChangeAt Go.RowKit

theorem info53 : (Yba.prog.info? 53).map (fun i => (i.zero, i.size, i.bytes)) = some (some (.int .u64 0), 1, 8) := by kernel_rfl
theorem size53 : (Yba.prog.info? 53).map (·.size) = some 1 := by kernel_rfl
theorem mk1 (w : World) : (Instr.makeSlice 54 (.int .i64 1) (.int .i64 1)).run Yba.prog w = .ok (.slice (some ⟨w.heap.size, 0, none⟩) 1 1) (w.alloc (.cells #[.int .u64 0] 53)) := by
  have h := run_make_row' 54 53 (.int .u64 0) 8 Yba.underlying54 info53 rfl .i64 .i64 1 (by omega) (by omega) w
  have e : madeCells #[Value.int .u64 0] 1 = #[.int .u64 0] := by kernel_rfl
  rw [e] at h
  exact h

theorem make_0 (w : World) : Calls Yba.prog 22 #[.slice none 0 0, .int .i64 0] w fun e w' => e = .returned (.slice none 0 0) ∧ w' = w := by
  go_enter Yba.func22, Yba.ntmps22
  go_wp2
  go_ret
  exact ⟨rfl, rfl⟩
set_option maxRecDepth 20000 in
theorem make_1 (w : World) : Calls Yba.prog 22 #[.slice none 0 0, .int .i64 1] w fun e w' => e = .returned (.slice (some ⟨w.heap.size, 0, none⟩) 1 1) ∧ w' = w.alloc (.cells #[.int .u64 0] 53) := by
  have hmk := mk1 w
  go_enter Yba.func22, Yba.ntmps22
  go_wp2
  go_ret
  exact ⟨rfl, rfl⟩
set_option maxRecDepth 20000 in
theorem set_0 (w : World) : Calls Yba.prog 21 #[.slice none 0 0, .slice none 0 0] w fun e w' => e = .returned (.slice none 0 0) ∧ w' = w := by
  have hcp : ∀ w : World, (Builtin.copy_ #[54, 54] 3 #[.slice none 0 0, .slice none 0 0]).run Yba.prog w = .ok (.int .i64 0) w := fun w => run_copy_none w 54 54 3 53 none none 0 0 0 0 Yba.underlying54 size53 rfl
  go_enter Yba.func21, Yba.ntmps21
  go_wp2_with (go_at_call 22; refine (make_0 _).mono ?_; rintro e w' ⟨rfl, rfl⟩)
  go_ret
  exact ⟨rfl, rfl⟩
theorem setRow_alloc (w : World) (c c' : Array Value) (t : TypeId) : (w.alloc (.cells c t)).setRow w.heap.size c' = w.alloc (.cells c' t) := by
  simp only [World.setRow, World.alloc]
  congr 1
  apply Array.ext
  · simp
  · intro i h1 h2
    by_cases h : i = w.heap.size
    · subst h
      simp [Array.getElem_modify]
    · have hlt : i < w.heap.size := by simp at h2; omega
      rw [Array.getElem_modify, if_neg (fun e => h e.symm), Array.getElem_push_lt hlt, Array.getElem_push_lt hlt]
theorem copy1 (g : Nat) (n : Int) (w : World) (hc : w.cell? ⟨g, 0, none⟩ = some (.int .u64 n)) (hg : g < w.heap.size) :
    (Builtin.copy_ #[54, 54] 3 #[.slice (some ⟨w.heap.size, 0, none⟩) 1 1, .slice (some ⟨g, 0, none⟩) 1 1]).run Yba.prog (w.alloc (.cells #[.int .u64 0] 53)) = .ok (.int .i64 1) (w.alloc (.cells #[.int .u64 n] 53)) := by
  have h := run_copy_row (P := Yba.prog) (w.alloc (.cells #[.int .u64 0] 53)) 54 54 3 53 w.heap.size 0 1 1 ⟨g, 0, none⟩ 1 1 #[.int .u64 0] 53 [.int .u64 n] Yba.underlying54 size53 (Deep.blk_alloc_new _ _) rfl (fun j v hj => by
    match j, hj with
    | 0, hj =>
      simp at hj
      subst hj
      rw [add_plain, World.cell?_alloc_past _ _ _ hg]
      exact hc) (by simp) (fun v hv => by simp at hv; subst hv; rfl)
  rw [h]
  have e := setRow_alloc w #[.int .u64 0] #[.int .u64 n] 53
  simpa [goInt] using e
set_option maxRecDepth 20000 in
theorem set_1 (g : Nat) (n : Int) (w : World) (hc : w.cell? ⟨g, 0, none⟩ = some (.int .u64 n)) (hg : g < w.heap.size) :
    Calls Yba.prog 21 #[.slice none 0 0, .slice (some ⟨g, 0, none⟩) 1 1] w fun e w' => e = .returned (.slice (some ⟨w.heap.size, 0, none⟩) 1 1) ∧ w' = w.alloc (.cells #[.int .u64 n] 53) := by
  have hcp := copy1 g n w hc hg
  go_enter Yba.func21, Yba.ntmps21
  go_wp2_with (go_at_call 22; refine (make_1 _).mono ?_; rintro e w' ⟨rfl, rfl⟩)
  go_ret
  exact ⟨rfl, rfl⟩

theorem neq_other {b c n m : Nat} {f g : Nat → Value} {w : World} (hne : b ≠ c) (hb : w.rowIs b 56 n f) (hc : w.rowIs c 56 m g) : (binOp .neq 24 (.pointer (some ⟨b, 0, none⟩)) (.pointer (some ⟨c, 0, none⟩))).run Yba.prog w = .ok (.bool true) w := by
  obtain ⟨j, hj, hs⟩ := info56'
  obtain ⟨cb, e1, _, _⟩ := hb
  obtain ⟨cc, e2, _, _⟩ := hc
  have hz : j.size ≠ 0 := by omega
  have hn : (⟨b, 0, none⟩ : Addr) ≠ ⟨c, 0, none⟩ := fun h => hne (congrArg Addr.block h)
  have h : ∀ d : Nat, (Op.equalIn (d + 1) 24 (.pointer (some ⟨b, 0, none⟩)) (.pointer (some ⟨c, 0, none⟩))).run Yba.prog w = .ok false w := fun d => by
    simp [Op.equalIn, run_underlying Yba.underlying24, sizeOf, typeInfo, hj, hz, run_sameAddr_other w hn e1 e2]
  simp only [binOp]
  simp [Op.equal, Op.maxDepth, h 9999]
theorem intset_0 (Z b : Nat) (B : Bool) (w : World) (q : (binOp .neq 24 (.pointer (some ⟨Z, 0, none⟩)) (.pointer (some ⟨b, 0, none⟩))).run Yba.prog w = .ok (.bool true) w)
    (z0 : w.cell? ⟨Z, 0, none⟩ = some (.bool false)) (z1 : w.cell? ⟨Z, 1, none⟩ = some (.slice none 0 0)) (f0 : w.frozen? ⟨Z, 0, none⟩ = false) (f1 : w.frozen? ⟨Z, 1, none⟩ = false)
    (b0 : w.cell? ⟨b, 0, none⟩ = some (.bool B)) (b1 : w.cell? ⟨b, 1, none⟩ = some (.slice none 0 0)) :
    Calls Yba.prog 16 #[.pointer (some ⟨Z, 0, none⟩), .pointer (some ⟨b, 0, none⟩)] w fun e w' => e = .returned (.pointer (some ⟨Z, 0, none⟩)) ∧ w' = ((w.setCell ⟨Z, 1, none⟩ (.slice none 0 0)).setCell ⟨Z, 0, none⟩ (.bool B)).drew := by
  go_enter Yba.func16, Yba.ntmps16
  go_wp2_with fail
  go_region_with ((go_at_call 21; refine (set_0 _).mono ?_; rintro e w' ⟨rfl, rfl⟩))
  all_goals
    go_wp2
    go_ret
    exact ⟨rfl, rfl⟩
theorem intset_1 (Z b g : Nat) (B : Bool) (n : Int) (w : World) (q : (binOp .neq 24 (.pointer (some ⟨Z, 0, none⟩)) (.pointer (some ⟨b, 0, none⟩))).run Yba.prog w = .ok (.bool true) w)
    (z0 : w.cell? ⟨Z, 0, none⟩ = some (.bool false)) (z1 : w.cell? ⟨Z, 1, none⟩ = some (.slice none 0 0)) (f0 : w.frozen? ⟨Z, 0, none⟩ = false) (f1 : w.frozen? ⟨Z, 1, none⟩ = false)
    (b0 : w.cell? ⟨b, 0, none⟩ = some (.bool B)) (b1 : w.cell? ⟨b, 1, none⟩ = some (.slice (some ⟨g, 0, none⟩) 1 1)) (g0 : w.cell? ⟨g, 0, none⟩ = some (.int .u64 n)) (hZ : Z < w.heap.size) (hb : b < w.heap.size) (hg : g < w.heap.size) :
    Calls Yba.prog 16 #[.pointer (some ⟨Z, 0, none⟩), .pointer (some ⟨b, 0, none⟩)] w fun e w' => e = .returned (.pointer (some ⟨Z, 0, none⟩)) ∧ w' = (((w.setCell ⟨Z, 1, none⟩ (.slice (some ⟨w.heap.size, 0, none⟩) 1 1)).setCell ⟨Z, 0, none⟩ (.bool B)).alloc (.cells #[.int .u64 n] 53)).drew := by
  go_enter Yba.func16, Yba.ntmps16
  go_wp2_with fail
  go_region_with ((go_at_call 21; refine (set_1 g n _ ?_ ?_).mono ?_; (first | exact g0 | (simp; done)); (first | exact hg | (simp; done)); rintro e w' ⟨rfl, rfl⟩))
  all_goals
    go_wp2
    go_ret
    exact ⟨rfl, rfl⟩

/-- '(*Int).Set' on a new Int -/
theorem intset_any (Z b lo hi : Nat) (x : Int) (w : World) (hz : w.rowIs Z 56 2 (fun j => if j = 0 then .bool false else .slice none 0 0)) (hb : IsInt w lo hi b x) (hhi : hi ≤ Z) :
    Calls Yba.prog 16 #[.pointer (some ⟨Z, 0, none⟩), .pointer (some ⟨b, 0, none⟩)] w fun e w' => e = .returned (.pointer (some ⟨Z, 0, none⟩)) ∧ IsInt w' Z w'.heap.size Z x ∧ Below Z w w' := by
  obtain ⟨h1, h2, v, r, m⟩ := hb
  have hZ := hz.lt
  have q := neq_other (by omega) hz r
  have z0 : w.cell? ⟨Z, 0, none⟩ = some (.bool false) := hz.cell (i := 0) (by omega)
  have z1 : w.cell? ⟨Z, 1, none⟩ = some (.slice none 0 0) := hz.cell (i := 1) (by omega)
  have b0 : w.cell? ⟨b, 0, none⟩ = some (.bool (decide (x < 0))) := r.cell (i := 0) (by omega)
  have b1 : w.cell? ⟨b, 1, none⟩ = some v := r.cell (i := 1) (by omega)
  rcases m with ⟨rfl, hx⟩ | ⟨g, rfl, hg1, hg2, hx, hx2, rg⟩
  · refine (intset_0 Z b _ w q z0 z1 (hz.frozen 0) (hz.frozen 1) b0 b1).mono ?_
    rintro e w' ⟨rfl, rfl⟩
    refine ⟨rfl, ⟨Nat.le_refl _, by simpa using hZ, .slice none 0 0, ?_, .inl ⟨rfl, hx⟩⟩, (((Below.refl Z w).setCell (p := ⟨Z, 1, none⟩) (Nat.le_refl _) _).setCell (p := ⟨Z, 0, none⟩) (Nat.le_refl _) _).drew⟩
    refine (((hz.set 1 _).set 0 _).congr fun i hi => ?_).drew
    match i, hi with
    | 0, _ => rfl
    | 1, _ => rfl
  · refine (intset_1 Z b g _ _ w q z0 z1 (hz.frozen 0) (hz.frozen 1) b0 b1 (rg.cell (i := 0) (by omega)) hZ r.lt rg.lt).mono ?_
    rintro e w' ⟨rfl, rfl⟩
    refine ⟨rfl, ⟨Nat.le_refl _, by simp; omega, .slice (some ⟨w.heap.size, 0, none⟩) 1 1, ?_, .inr ⟨w.heap.size, rfl, by omega, by simp, hx, hx2, ?_⟩⟩, ((((Below.refl Z w).setCell (p := ⟨Z, 1, none⟩) (Nat.le_refl _) _).setCell (p := ⟨Z, 0, none⟩) (Nat.le_refl _) _).alloc (by simp; omega) _).drew⟩
    · refine ((((hz.set 1 _).set 0 _).alloc _).congr fun i hi => ?_).drew
      match i, hi with
      | 0, _ => rfl
      | 1, _ => rfl
    · have := row1_new ((w.setCell ⟨Z, 1, none⟩ (.slice (some ⟨w.heap.size, 0, none⟩) 1 1)).setCell ⟨Z, 0, none⟩ (.bool (decide (x < 0)))) (.int .u64 (x.natAbs : Int)) 53
      simpa using this.drew
end Go.Proofs.Ybulkfgra.lawS7904BWhole
