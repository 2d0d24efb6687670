/-
  WALKS for 'LawS7904BWhole': a big.Int of one word or none: NewInt, nat.cmp, Cmp.
-/
import Derived.Test.YbulkfgraRows
import Derived.WalkKit
import Derived.ProofKit
import Derived.OpenShut
import Derived.WalkSpells
import Derived.WalkLawsBesides
import Derived.Deep.OwnRows
import Derived.LaidEqlPtr
import Derived.Lib.Builder
import Derived.BigQuiet
import Derived.Deep.QuietTactic
namespace Go.Proofs.Ybulkfgra.lawS7904BWhole
open Go.ChangeShapes Go.WideShapes Go.ChangeAt Go.RowKit
theorem hide2 {p : Prop} (h : p) : Hid p := h

theorem new_zero (w : World) : Calls Yba.prog 5 #[.int .i64 0] w fun e w' => e = .returned (.pointer (some ⟨w.heap.size, 0, none⟩)) ∧ w' = w.alloc (.cells #[.bool false, .slice none 0 0] 56) := by
  go_enter Yba.func5, Yba.ntmps5
  go_wp2
  go_ret
  exact ⟨rfl, rfl⟩
theorem new_pos (x : Int) (w : World) (h0 : 0 < x) (h1 : x ≤ 9223372036854775807) : Calls Yba.prog 5 #[.int .i64 x] w fun e w' => e = .returned (.pointer (some ⟨w.heap.size + 1, 0, none⟩)) ∧ w' = (w.alloc (.cells #[.int .u64 x] 53)).alloc (.cells #[.bool false, .slice (some ⟨w.heap.size, 0, none⟩) 1 1] 56) := by
  have e0 : (x == 0) = false := beq_eq_false_iff_ne.2 (by omega)
  have e1 : ¬ x < 0 := by omega
  go_enter Yba.func5, Yba.ntmps5
  go_wp2
  go_ret
  exact ⟨rfl, rfl⟩
theorem new_neg (x : Int) (w : World) (h0 : x < 0) (h1 : -9223372036854775808 ≤ x) : Calls Yba.prog 5 #[.int .i64 x] w fun e w' => e = .returned (.pointer (some ⟨w.heap.size + 1, 0, none⟩)) ∧ w' = (w.alloc (.cells #[.int .u64 (-x)] 53)).alloc (.cells #[.bool true, .slice (some ⟨w.heap.size, 0, none⟩) 1 1] 56) := by
  have e0 : (x == 0) = false := beq_eq_false_iff_ne.2 (by omega)
  have e2 : IntKind.u64.wrap (-IntKind.u64.wrap x) = -x := by
    rw [IntKind.wrap_u64, IntKind.wrap_u64]
    omega
  go_enter Yba.func5, Yba.ntmps5
  go_wp2
  go_ret
  exact ⟨rfl, rfl⟩

/-! ### A big.Int of one word or none -/
/-- the slice v is the number n, in one word, or nil where n is 0; its word lies in a block from lo on and below hi -/
def Mag (w : World) (lo hi : Nat) (v : Value) (n : Int) : Prop :=
  (v = .slice none 0 0 ∧ n = 0) ∨ ∃ g, v = .slice (some ⟨g, 0, none⟩) 1 1 ∧ lo ≤ g ∧ g < hi ∧ 0 < n ∧ n < 18446744073709551616 ∧ w.rowIs g 53 1 (fun _ => .int .u64 n)
/-- block b is a big.Int that holds x -/
def IsInt (w : World) (lo hi b : Nat) (x : Int) : Prop :=
  lo ≤ b ∧ b < hi ∧ ∃ v, w.rowIs b 56 2 (fun j => if j = 0 then .bool (decide (x < 0)) else v) ∧ Mag w lo hi v (x.natAbs : Int)
theorem row_below {w w' : World} {K b t n : Nat} {f : Nat → Value} (hb : Below K w w') (hlt : b < K) (h : w.rowIs b t n f) : w'.rowIs b t n f := h.of_block (hb.block b hlt)
theorem Mag.below {w w' : World} {K lo hi : Nat} {v : Value} {n : Int} (h : Mag w lo hi v n) (hb : Below K w w') (hk : hi ≤ K) : Mag w' lo hi v n := by
  rcases h with h | ⟨g, h1, h2, h3, h4, h5, h6⟩
  · exact .inl h
  · exact .inr ⟨g, h1, h2, h3, h4, h5, row_below hb (by omega) h6⟩
theorem IsInt.below {w w' : World} {K lo hi b : Nat} {x : Int} (h : IsInt w lo hi b x) (hb : Below K w w') (hk : hi ≤ K) : IsInt w' lo hi b x := by
  obtain ⟨h1, h2, v, hr, hm⟩ := h
  exact ⟨h1, h2, v, row_below hb (by omega) hr, hm.below hb hk⟩
theorem Mag.mono {w : World} {lo hi lo' hi' : Nat} {v : Value} {n : Int} (h : Mag w lo hi v n) (hl : lo' ≤ lo) (hh : hi ≤ hi') : Mag w lo' hi' v n := by
  rcases h with h | ⟨g, h1, h2, h3, h4, h5, h6⟩
  · exact .inl h
  · exact .inr ⟨g, h1, by omega, by omega, h4, h5, h6⟩
theorem IsInt.mono {w : World} {lo hi lo' hi' b : Nat} {x : Int} (h : IsInt w lo hi b x) (hl : lo' ≤ lo) (hh : hi ≤ hi') : IsInt w lo' hi' b x := by
  obtain ⟨h1, h2, v, hr, hm⟩ := h
  exact ⟨by omega, by omega, v, hr, hm.mono hl hh⟩
theorem IsInt.drewN {w : World} {lo hi b : Nat} {x : Int} (h : IsInt w lo hi b x) (q : Nat) : IsInt (w.drewN q) lo hi b x := h
theorem Mag.drewN {w : World} {lo hi : Nat} {v : Value} {x : Int} (h : Mag w lo hi v x) (q : Nat) : Mag (w.drewN q) lo hi v x := h

theorem row2_new (w : World) (v0 v1 : Value) (B : Bool) (h : v0 = .bool B) : (w.alloc (.cells #[v0, v1] 56)).rowIs w.heap.size 56 2 (fun j => if j = 0 then .bool B else v1) := by
  subst h
  refine World.rowIs_alloc w #[.bool B, v1] 56 _ fun i hi => ?_
  match i, hi with
  | 0, _ => rfl
  | 1, _ => rfl
theorem row1_new (w : World) (v : Value) (t : TypeId) : (w.alloc (.cells #[v] t)).rowIs w.heap.size t 1 (fun _ => v) := by
  refine World.rowIs_alloc w #[v] t _ fun i hi => ?_
  match i, hi with
  | 0, _ => rfl

/-- 'big.NewInt' -/
theorem new_any (x : Int) (w : World) (h0 : -9223372036854775808 ≤ x) (h1 : x ≤ 9223372036854775807) :
    Calls Yba.prog 5 #[.int .i64 x] w fun e w' => ∃ b, e = .returned (.pointer (some ⟨b, 0, none⟩)) ∧ IsInt w' w.heap.size w'.heap.size b x ∧ Below w.heap.size w w' := by
  rcases Int.lt_trichotomy x 0 with h | rfl | h
  · refine (new_neg x w h h0).mono ?_
    rintro e w' ⟨rfl, rfl⟩
    refine ⟨_, rfl, ⟨by omega, by simp, _, ?_, .inr ⟨w.heap.size, rfl, Nat.le_refl _, by simp; omega, by omega, by omega, ?_⟩⟩, ((Below.refl _ _).alloc (Nat.le_refl _) _).alloc (by simp) _⟩
    · have := row2_new (w.alloc (.cells #[.int .u64 (-x)] 53)) (.bool true) (.slice (some ⟨w.heap.size, 0, none⟩) 1 1) (decide (x < 0)) (by simp [h])
      simpa using this
    · rw [show ((x.natAbs : Nat) : Int) = -x by omega]
      exact (row1_new w _ 53).alloc _
  · refine (new_zero w).mono ?_
    rintro e w' ⟨rfl, rfl⟩
    refine ⟨_, rfl, ⟨by omega, by simp, _, ?_, .inl ⟨rfl, rfl⟩⟩, (Below.refl _ _).alloc (Nat.le_refl _) _⟩
    exact row2_new w _ _ _ (by simp)
  · refine (new_pos x w h h1).mono ?_
    rintro e w' ⟨rfl, rfl⟩
    refine ⟨_, rfl, ⟨by omega, by simp, _, ?_, .inr ⟨w.heap.size, rfl, Nat.le_refl _, by simp; omega, by omega, by omega, ?_⟩⟩, ((Below.refl _ _).alloc (Nat.le_refl _) _).alloc (by simp) _⟩
    · have := row2_new (w.alloc (.cells #[.int .u64 x] 53)) (.bool false) (.slice (some ⟨w.heap.size, 0, none⟩) 1 1) (decide (x < 0)) (by simp; omega)
      simpa using this
    · rw [show ((x.natAbs : Nat) : Int) = x by omega]
      exact (row1_new w _ 53).alloc _

def cmpI (x y : Int) : Int := if x < y then -1 else if x = y then 0 else 1
theorem cmpI_lt {x y : Int} (h : x < y) : cmpI x y = -1 := by rw [cmpI, if_pos h]
theorem cmpI_eq {x y : Int} (h : x = y) : cmpI x y = 0 := by rw [cmpI, if_neg (by omega), if_pos h]
theorem cmpI_gt {x y : Int} (h : y < x) : cmpI x y = 1 := by rw [cmpI, if_neg (by omega), if_neg (by omega)]
theorem cmpI_nn {x y : Int} (hx : x < 0) (hy : y < 0) : wrap64 (-cmpI (x.natAbs : Int) (y.natAbs : Int)) = cmpI x y := by
  rcases Int.lt_trichotomy x y with h | h | h
  · rw [cmpI_lt h, cmpI_gt (by omega)]; unfold wrap64; omega
  · rw [cmpI_eq h, cmpI_eq (by omega)]; unfold wrap64; omega
  · rw [cmpI_gt h, cmpI_lt (by omega)]; unfold wrap64; omega
theorem cmpI_pp {x y : Int} (hx : ¬ x < 0) (hy : ¬ y < 0) : cmpI (x.natAbs : Int) (y.natAbs : Int) = cmpI x y := by
  rw [show ((x.natAbs : Nat) : Int) = x by omega, show ((y.natAbs : Nat) : Int) = y by omega]
theorem ncmp_00 (w : World) : Calls Yba.prog 17 #[.slice none 0 0, .slice none 0 0] w fun e w' => e = .returned (.int .i64 0) ∧ w' = w := by
  go_enter Yba.func17, Yba.ntmps17
  go_wp2
  go_ret
  exact ⟨rfl, rfl⟩
theorem ncmp_01 (a : Option Addr) (w : World) : Calls Yba.prog 17 #[.slice none 0 0, .slice a 1 1] w fun e w' => e = .returned (.int .i64 (-1)) ∧ w' = w := by
  go_enter Yba.func17, Yba.ntmps17
  go_wp2
  go_ret
  exact ⟨rfl, rfl⟩
theorem ncmp_10 (a : Option Addr) (w : World) : Calls Yba.prog 17 #[.slice a 1 1, .slice none 0 0] w fun e w' => e = .returned (.int .i64 1) ∧ w' = w := by
  go_enter Yba.func17, Yba.ntmps17
  go_wp2
  go_ret
  exact ⟨rfl, rfl⟩
theorem ncmp_11 (g h : Nat) (x y : Int) (w : World) (hx : w.cell? ⟨g, 0, none⟩ = some (.int .u64 x)) (hy : w.cell? ⟨h, 0, none⟩ = some (.int .u64 y)) :
    Calls Yba.prog 17 #[.slice (some ⟨g, 0, none⟩) 1 1, .slice (some ⟨h, 0, none⟩) 1 1] w fun e w' => e = .returned (.int .i64 (cmpI x y)) ∧ ∃ q, w' = w.drewN q := by
  go_enter Yba.func17, Yba.ntmps17
  go_wp2
  refine wp_loop_rounds 1 ?_
  rw [rounds_succ]
  go_wp2_with fail
  go_quiet (fail)
  go_wp2_with fail
  go_quiet (fail)
  go_wp2_with fail
  · go_ret
    exact ⟨by rw [cmpI_lt (x := x) (y := y) (by assumption)]; rfl, _, by rw [World.drewN_drewN]⟩
  · go_quiet (fail)
    go_wp2
    · go_ret
      exact ⟨by rw [cmpI_gt (x := x) (y := y) (by assumption)]; rfl, _, by rw [World.drewN_drewN, World.drewN_drewN]⟩
    · go_ret
      exact ⟨by rw [cmpI_eq (x := x) (y := y) (by omega)]; rfl, _, by rw [World.drewN_drewN, World.drewN_drewN]⟩
/-- 'nat.cmp' -/
theorem ncmp_any (l1 h1 l2 h2 : Nat) (v1 v2 : Value) (x y : Int) (w : World) (hx : Mag w l1 h1 v1 x) (hy : Mag w l2 h2 v2 y) :
    Calls Yba.prog 17 #[v1, v2] w fun e w' => e = .returned (.int .i64 (cmpI x y)) ∧ ∃ q, w' = w.drewN q := by
  rcases hx with ⟨rfl, rfl⟩ | ⟨g, rfl, _, _, hx0, _, hxr⟩
  · rcases hy with ⟨rfl, rfl⟩ | ⟨h, rfl, _, _, hy0, _, hyr⟩
    · exact (ncmp_00 w).mono fun e w' ⟨he, hw⟩ => ⟨he, 0, hw⟩
    · exact (ncmp_01 _ w).mono fun e w' ⟨he, hw⟩ => ⟨by rw [he, cmpI, if_pos hy0], 0, hw⟩
  · rcases hy with ⟨rfl, rfl⟩ | ⟨h, rfl, _, _, hy0, _, hyr⟩
    · exact (ncmp_10 _ w).mono fun e w' ⟨he, hw⟩ => ⟨by rw [he, cmpI, if_neg (by omega), if_neg (by omega)], 0, hw⟩
    · exact ncmp_11 g h x y w (hxr.cell (i := 0) (by omega)) (hyr.cell (i := 0) (by omega))

theorem quiet_of2 {P : Program} {f : FuncId} {args : Array Value} {w : World} {p n : Nat} {v : Value}
    (h : Calls P f args (w.drewN (p + n)) fun e w' => e = .returned v ∧ ∃ m, w' = (w.drewN (p + n)).drewN m) : Calls P f args (w.drewN (p + n)) fun e w'' => e = .returned v ∧ ∃ m, w'' = w.drewN (p + m) :=
  h.mono fun _ _ ⟨he, m, hm⟩ => ⟨he, n + m, by rw [hm, World.drewN_drewN, Nat.add_assoc]⟩

theorem info56 : ((Yba.prog.info? 56).map fun i => i.size) = some 2 := by kernel_rfl
theorem info56' : ∃ j, Yba.prog.info? 56 = some j ∧ j.size = 2 := by
  have h := info56
  cases e : Yba.prog.info? 56 with
  | none => rw [e] at h; cases h
  | some j => rw [e] at h; exact ⟨j, rfl, by simpa using h⟩
theorem eql_same (b : Nat) (w : World) : (binOp .eql 24 (.pointer (some ⟨b, 0, none⟩)) (.pointer (some ⟨b, 0, none⟩))).run Yba.prog w = .ok (.bool true) w := by
  obtain ⟨j, hj, _⟩ := info56'
  exact run_eql_ptr_same w _ Yba.underlying24 hj
theorem neq_same (b : Nat) (w : World) : (binOp .neq 24 (.pointer (some ⟨b, 0, none⟩)) (.pointer (some ⟨b, 0, none⟩))).run Yba.prog w = .ok (.bool false) w := by
  obtain ⟨j, hj, _⟩ := info56'
  exact Lib.run_neq_ptr_same w _ Yba.underlying24 hj
theorem eql_other {b c n m : Nat} {f g : Nat → Value} {w : World} (hne : b ≠ c) (hb : w.rowIs b 56 n f) (hc : w.rowIs c 56 m g) : (binOp .eql 24 (.pointer (some ⟨b, 0, none⟩)) (.pointer (some ⟨c, 0, none⟩))).run Yba.prog w = .ok (.bool false) w := by
  obtain ⟨j, hj, hs⟩ := info56'
  obtain ⟨cb, e1, _, _⟩ := hb
  obtain ⟨cc, e2, _, _⟩ := hc
  exact run_eql_ptr_other w Yba.underlying24 hj (by omega) (fun h => hne (congrArg Addr.block h)) e1 e2

theorem cmp_same (b : Nat) (w : World) : Calls Yba.prog 7 #[.pointer (some ⟨b, 0, none⟩), .pointer (some ⟨b, 0, none⟩)] w fun e w' => e = .returned (.int .i64 0) ∧ w' = w := by
  have q := eql_same b
  go_enter Yba.func7, Yba.ntmps7
  go_wp2
  go_ret
  exact ⟨rfl, rfl⟩
theorem cmp_pp (b c l1 h1 l2 h2 : Nat) (v1 v2 : Value) (a1 a2 : Int) (w : World) (q : (binOp .eql 24 (.pointer (some ⟨b, 0, none⟩)) (.pointer (some ⟨c, 0, none⟩))).run Yba.prog w = .ok (.bool false) w)
    (cb0 : w.cell? ⟨b, 0, none⟩ = some (.bool false)) (cb1 : w.cell? ⟨b, 1, none⟩ = some v1) (cc0 : w.cell? ⟨c, 0, none⟩ = some (.bool false)) (cc1 : w.cell? ⟨c, 1, none⟩ = some v2) (hx : Mag w l1 h1 v1 a1) (hy : Mag w l2 h2 v2 a2) :
    Calls Yba.prog 7 #[.pointer (some ⟨b, 0, none⟩), .pointer (some ⟨c, 0, none⟩)] w fun e w' => e = .returned (.int .i64 (cmpI a1 a2)) ∧ ∃ q, w' = w.drewN q := by
  go_enter Yba.func7, Yba.ntmps7
  go_wp2_with fail
  go_quiet (fail)
  go_wp2_with fail
  go_quiet ((go_at_call 17; (refine quiet_of2 (ncmp_any l1 h1 l2 h2 v1 v2 a1 a2 _ ?_ ?_); exact hx; exact hy)))
  go_wp2
  go_ret
  exact ⟨rfl, _, rfl⟩
theorem cmp_nn (b c l1 h1 l2 h2 : Nat) (v1 v2 : Value) (a1 a2 : Int) (w : World) (q : (binOp .eql 24 (.pointer (some ⟨b, 0, none⟩)) (.pointer (some ⟨c, 0, none⟩))).run Yba.prog w = .ok (.bool false) w)
    (cb0 : w.cell? ⟨b, 0, none⟩ = some (.bool true)) (cb1 : w.cell? ⟨b, 1, none⟩ = some v1) (cc0 : w.cell? ⟨c, 0, none⟩ = some (.bool true)) (cc1 : w.cell? ⟨c, 1, none⟩ = some v2) (hx : Mag w l1 h1 v1 a1) (hy : Mag w l2 h2 v2 a2) :
    Calls Yba.prog 7 #[.pointer (some ⟨b, 0, none⟩), .pointer (some ⟨c, 0, none⟩)] w fun e w' => e = .returned (.int .i64 (wrap64 (-cmpI a1 a2))) ∧ ∃ q, w' = w.drewN q := by
  go_enter Yba.func7, Yba.ntmps7
  go_wp2_with fail
  go_quiet (fail)
  go_wp2_with fail
  go_quiet ((go_at_call 17; (refine quiet_of2 (ncmp_any l1 h1 l2 h2 v1 v2 a1 a2 _ ?_ ?_); exact hx; exact hy)))
  go_wp2
  go_ret
  exact ⟨rfl, _, rfl⟩
theorem cmp_pn (b c : Nat) (w : World) (q : (binOp .eql 24 (.pointer (some ⟨b, 0, none⟩)) (.pointer (some ⟨c, 0, none⟩))).run Yba.prog w = .ok (.bool false) w)
    (cb0 : w.cell? ⟨b, 0, none⟩ = some (.bool false)) (cc0 : w.cell? ⟨c, 0, none⟩ = some (.bool true)) :
    Calls Yba.prog 7 #[.pointer (some ⟨b, 0, none⟩), .pointer (some ⟨c, 0, none⟩)] w fun e w' => e = .returned (.int .i64 1) ∧ ∃ q, w' = w.drewN q := by
  go_enter Yba.func7, Yba.ntmps7
  go_wp2_with fail
  go_quiet (fail)
  go_wp2
  go_ret
  exact ⟨rfl, _, rfl⟩
theorem cmp_np (b c : Nat) (w : World) (q : (binOp .eql 24 (.pointer (some ⟨b, 0, none⟩)) (.pointer (some ⟨c, 0, none⟩))).run Yba.prog w = .ok (.bool false) w)
    (cb0 : w.cell? ⟨b, 0, none⟩ = some (.bool true)) (cc0 : w.cell? ⟨c, 0, none⟩ = some (.bool false)) :
    Calls Yba.prog 7 #[.pointer (some ⟨b, 0, none⟩), .pointer (some ⟨c, 0, none⟩)] w fun e w' => e = .returned (.int .i64 (-1)) ∧ ∃ q, w' = w.drewN q := by
  go_enter Yba.func7, Yba.ntmps7
  go_wp2_with fail
  go_quiet (fail)
  go_wp2
  go_ret
  exact ⟨rfl, _, rfl⟩
theorem cmp_any (b c l1 h1 l2 h2 : Nat) (x y : Int) (w : World) (hb : IsInt w l1 h1 b x) (hc : IsInt w l2 h2 c y) (heq : b = c → x = y) :
    Calls Yba.prog 7 #[.pointer (some ⟨b, 0, none⟩), .pointer (some ⟨c, 0, none⟩)] w fun e w' => e = .returned (.int .i64 (cmpI x y)) ∧ ∃ q, w' = w.drewN q := by
  by_cases hbc : b = c
  · obtain rfl := heq hbc
    subst hbc
    exact (cmp_same b w).mono fun e w' ⟨he, hw⟩ => ⟨by rw [he, cmpI, if_neg (by omega), if_pos rfl], 0, hw⟩
  · obtain ⟨_, _, v1, r1, m1⟩ := hb
    obtain ⟨_, _, v2, r2, m2⟩ := hc
    have q := eql_other hbc r1 r2
    have cb0 : w.cell? ⟨b, 0, none⟩ = some (.bool (decide (x < 0))) := r1.cell (i := 0) (by omega)
    have cb1 : w.cell? ⟨b, 1, none⟩ = some v1 := r1.cell (i := 1) (by omega)
    have cc0 : w.cell? ⟨c, 0, none⟩ = some (.bool (decide (y < 0))) := r2.cell (i := 0) (by omega)
    have cc1 : w.cell? ⟨c, 1, none⟩ = some v2 := r2.cell (i := 1) (by omega)
    by_cases hx : x < 0
    · rw [decide_eq_true hx] at cb0
      by_cases hy : y < 0
      · rw [decide_eq_true hy] at cc0
        refine (cmp_nn b c l1 h1 l2 h2 v1 v2 _ _ w q cb0 cb1 cc0 cc1 m1 m2).mono fun e w' ⟨he, hw⟩ => ⟨?_, hw⟩
        rw [he, cmpI_nn hx hy]
      · rw [decide_eq_false hy] at cc0
        exact (cmp_np b c w q cb0 cc0).mono fun e w' ⟨he, hw⟩ => ⟨by rw [he, cmpI, if_pos (by omega)], hw⟩
    · rw [decide_eq_false hx] at cb0
      by_cases hy : y < 0
      · rw [decide_eq_true hy] at cc0
        exact (cmp_pn b c w q cb0 cc0).mono fun e w' ⟨he, hw⟩ => ⟨by rw [he, cmpI, if_neg (by omega), if_neg (by omega)], hw⟩
      · rw [decide_eq_false hy] at cc0
        refine (cmp_pp b c l1 h1 l2 h2 v1 v2 _ _ w q cb0 cb1 cc0 cc1 m1 m2).mono fun e w' ⟨he, hw⟩ => ⟨?_, hw⟩
        rw [he, cmpI_pp hx hy]
end Go.Proofs.Ybulkfgra.lawS7904BWhole
