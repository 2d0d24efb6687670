/-
  'Rows.LawS7904CWholeSaid', proved. The frame is the guide's shell at this function's number and types; the walks are ours.
-/
import Derived.Test.YbulkfgraRows
import Derived.WalkKit
import Derived.ProofKit
import Derived.OpenShut
import Derived.WalkSpells
import Derived.Lib.Builder
import Derived.WalkLawsBesides
namespace Go.Proofs.Ybulkfgra.lawS7904CWhole
open Go.ChangeShapes Go.WideShapes Go.ChangeAt Go.RowKit
set_option linter.unusedVariables false      -- a walk need not use every 'w<i>' (that an integer argument fits its kind)

theorem own : ownKnob Yba.prog.godebug = none := by kernel_rfl

theorem some43 : (Yba.prog.info? 43).isSome = true := by kernel_rfl

/-! ### STEP 1: THE WALKS -/
/-- 'Clock.Tick' at Continuous. -/
theorem tick20a (c : Int) (w : World) (h : (c == 1) = true) :
    Calls Yba.prog 20 #[.int .i64 c] w fun e w' => e = .returned (.agg #[.int .i64 9]) ∧ w' = w.alloc (.cells #[.int .i64 9] 45) := by
  go_enter Yba.func20, Yba.ntmps20
  go_wp2
  exact bodyPost_ret (v := .agg #[.int .i64 9]) (by simp [results, Yba.results20, go_sem]) rfl ⟨rfl, rfl⟩
/-- 'Clock.Tick' at any other clock. -/
theorem tick20b (c : Int) (w : World) (h : (c == 1) = false) :
    Calls Yba.prog 20 #[.int .i64 c] w fun e w' => e = .returned (.agg #[.int .i64 0]) ∧ w' = w.alloc (.cells #[.int .i64 0] 45) := by
  go_enter Yba.func20, Yba.ntmps20
  go_wp2
  exact bodyPost_ret (v := .agg #[.int .i64 0]) (by simp [results, Yba.results20, go_sem]) rfl ⟨rfl, rfl⟩
/-- 'JobsAhead.tick' without a workload. -/
theorem tick9n (t : Int) (w : World) :
    Calls Yba.prog 9 #[.agg #[.slice none 0 0, .pointer none, .int .i64 t]] w fun e w' => e = .returned (.agg #[.int .i64 t]) ∧ w' = (w.alloc (.cells #[.slice none 0 0, .pointer none, .int .i64 t] 47)).alloc (.cells #[.int .i64 t] 45) := by
  go_enter Yba.func9, Yba.ntmps9
  go_wp2
  exact bodyPost_ret (v := .agg #[.int .i64 t]) (by simp [results, Yba.results9, go_sem]) rfl ⟨rfl, rfl⟩
/-- 'JobsAhead.tick' with a workload whose clock is Continuous. -/
theorem tick9a (c t : Int) (b : Nat) (w : World) (hc : w.cell? ⟨b, 0, none⟩ = some (.int .i64 c)) (hv : (c == 1) = true) (hb : b < w.heap.size) :
    Calls Yba.prog 9 #[.agg #[.slice none 0 0, .pointer (some ⟨b, 0, none⟩), .int .i64 t]] w fun e w' => e = .returned (.agg #[.int .i64 9]) ∧ w' = ((w.alloc (.cells #[.slice none 0 0, .pointer (some ⟨b, 0, none⟩), .int .i64 t] 47)).alloc (.cells #[.int .i64 9] 45)).alloc (.cells #[.int .i64 9] 45) := by
  go_enter Yba.func9, Yba.ntmps9
  go_wp2_with (go_at_call 20; refine (tick20a _ _ hv).mono ?_; rintro e w' ⟨rfl, rfl⟩)
  exact bodyPost_ret (v := .agg #[.int .i64 9]) (by simp [results, Yba.results9, go_sem]) rfl ⟨rfl, rfl⟩
/-- 'JobsAhead.tick' with a workload of any other clock. -/
theorem tick9b (c t : Int) (b : Nat) (w : World) (hc : w.cell? ⟨b, 0, none⟩ = some (.int .i64 c)) (hv : (c == 1) = false) (hb : b < w.heap.size) :
    Calls Yba.prog 9 #[.agg #[.slice none 0 0, .pointer (some ⟨b, 0, none⟩), .int .i64 t]] w fun e w' => e = .returned (.agg #[.int .i64 0]) ∧ w' = ((w.alloc (.cells #[.slice none 0 0, .pointer (some ⟨b, 0, none⟩), .int .i64 t] 47)).alloc (.cells #[.int .i64 0] 45)).alloc (.cells #[.int .i64 0] 45) := by
  go_enter Yba.func9, Yba.ntmps9
  go_wp2_with (go_at_call 20; refine (tick20b _ _ hv).mono ?_; rintro e w' ⟨rfl, rfl⟩)
  exact bodyPost_ret (v := .agg #[.int .i64 0]) (by simp [results, Yba.results9, go_sem]) rfl ⟨rfl, rfl⟩

theorem walkF (a1 : Int) (a2 : Int) (a3 : Int) (a4 : Int) (w : World) :
    Calls Yba.prog 4 #[.bool false, .int .i64 a1, .int .i64 a2, .int .i64 a3, .int .i64 a4] w fun e w' => e = .returned (.bool true) ∧ Grown w w' := by
  go_enter Yba.func4, Yba.ntmps4
  go_wp2_with (go_at_call 9; refine (tick9n _ _).mono ?_; rintro e w' ⟨rfl, rfl⟩)
  go_ret
  exact ⟨rfl, by repeat (first | exact Grown.refl _ | apply Grown.drew | apply Grown.alloc)⟩
set_option maxRecDepth 100000 in
theorem walkA (a1 : Int) (a2 : Int) (a3 : Int) (a4 : Int) (w : World) (h : (a1 == 1) = true) :
    Calls Yba.prog 4 #[.bool true, .int .i64 a1, .int .i64 a2, .int .i64 a3, .int .i64 a4] w fun e w' => e = .returned (.bool true) ∧ Grown w w' := by
  obtain ⟨i43, h43⟩ := Option.isSome_iff_exists.1 some43
  have q37 : ∀ (w : World) (a : Addr), (binOp .neq 37 (.pointer (some a)) (.pointer (some a))).run Yba.prog w = .ok (.bool false) w := fun w a => Lib.run_neq_ptr_same w a Yba.underlying37 h43
  have q40 : ∀ (w : World) (a : Option Addr) (n c n' c' : Nat), (binOp .neq 40 (.slice a n c) (.slice none n' c')).run Yba.prog w = .ok (.bool (!a.isNone)) w := fun w a n c n' c' => run_neq_slice_nil_any w 40 _ a n c n' c' Yba.underlying40
  have q41 : ∀ (w : World) (a : Option Addr) (n c n' c' : Nat), (binOp .neq 41 (.slice a n c) (.slice none n' c')).run Yba.prog w = .ok (.bool (!a.isNone)) w := fun w a n c n' c' => run_neq_slice_nil_any w 41 _ a n c n' c' Yba.underlying41
  go_enter Yba.func4, Yba.ntmps4
  go_wp2_with (go_at_call 9; refine (tick9a a1 _ _ _ (by simp) h (by simp; omega)).mono ?_; rintro e w' ⟨rfl, rfl⟩)
  go_ret
  exact ⟨rfl, by repeat (first | exact Grown.refl _ | apply Grown.drew | apply Grown.alloc)⟩
set_option maxRecDepth 100000 in
theorem walkB (a1 : Int) (a2 : Int) (a3 : Int) (a4 : Int) (w : World) (h : (a1 == 1) = false) :
    Calls Yba.prog 4 #[.bool true, .int .i64 a1, .int .i64 a2, .int .i64 a3, .int .i64 a4] w fun e w' => e = .returned (.bool true) ∧ Grown w w' := by
  obtain ⟨i43, h43⟩ := Option.isSome_iff_exists.1 some43
  have q37 : ∀ (w : World) (a : Addr), (binOp .neq 37 (.pointer (some a)) (.pointer (some a))).run Yba.prog w = .ok (.bool false) w := fun w a => Lib.run_neq_ptr_same w a Yba.underlying37 h43
  have q40 : ∀ (w : World) (a : Option Addr) (n c n' c' : Nat), (binOp .neq 40 (.slice a n c) (.slice none n' c')).run Yba.prog w = .ok (.bool (!a.isNone)) w := fun w a n c n' c' => run_neq_slice_nil_any w 40 _ a n c n' c' Yba.underlying40
  have q41 : ∀ (w : World) (a : Option Addr) (n c n' c' : Nat), (binOp .neq 41 (.slice a n c) (.slice none n' c')).run Yba.prog w = .ok (.bool (!a.isNone)) w := fun w a n c n' c' => run_neq_slice_nil_any w 41 _ a n c n' c' Yba.underlying41
  go_enter Yba.func4, Yba.ntmps4
  go_wp2_with (go_at_call 9; refine (tick9b a1 _ _ _ (by simp) h (by simp; omega)).mono ?_; rintro e w' ⟨rfl, rfl⟩)
  go_ret
  exact ⟨rfl, by repeat (first | exact Grown.refl _ | apply Grown.drew | apply Grown.alloc)⟩

theorem walk (a0 : Bool) (a1 : Int) (a2 : Int) (a3 : Int) (a4 : Int) (w1 : (Lit.int .i64 a1).wf = true) (w2 : (Lit.int .i64 a2).wf = true) (w3 : (Lit.int .i64 a3).wf = true) (w4 : (Lit.int .i64 a4).wf = true) (w : World) :
    Calls Yba.prog 4 #[.bool a0, .int .i64 a1, .int .i64 a2, .int .i64 a3, .int .i64 a4] w fun e w' => e = .returned (.bool true) ∧ Grown w w' := by
  match a0, h1 : (a1 == 1) with
  | false, _ => exact walkF a1 a2 a3 a4 w
  | true, true => exact walkA a1 a2 a3 a4 w h1
  | true, false => exact walkB a1 a2 a3 a4 w h1

/-! ### THE ROW's STEP: WRITTEN OUT: LEAVE IT -/
set_option maxRecDepth 100000 in
theorem lifted (os : Os) (started : os.Started) (H : Type) (enc : TypeId × Value → H) :
    ReturnsInHanded {} Yba.checked os 4 .any (Rows.lawS7904CWholeSpec.pre6 enc Yba.prog Yba.f4 Rows.lawS7904CWholeRow.domain false) (Rows.lawS7904CWholeSpec.post enc Yba.prog Yba.f4 false true false false) := by
  refine returnsInHanded_of_change (C := Yba.checked) own started (by kernel_rfl) Yba.func4
    (ChangeSpec.witness6 (enc := enc) (C := Yba.checked) false ⟨#[], #[.bool false, .int .i64 0, .int .i64 0, .int .i64 0, .int .i64 0], []⟩ 8 (by kernel_rfl) (by kernel_rfl) (by kernel_rfl) (by kernel_rfl)) ?_
  intro W base args ds gs before hval0 hW hcnd _
  have hval : ∀ (j : Nat) t v, Yba.f4.params[j]? = some t → args[j]? = some v → Value.okWide Yba.prog W .any base t v := hval0
  have hW' := hW
  obtain ⟨p, q, hA0, hV, rfl, hfz, hnd⟩ := hW
  have hA : DataW.TrodAll enc Yba.prog W 0 (fun _ => true) true Yba.f4.params.toList args.toList ds p := hA0
  rw [Yba.params4] at hA hval
  obtain ⟨v0, vs0, d0, ds0, p0, q0, hargs, rfl, rfl, h0, r0⟩ := trodAll_cons hA
  obtain ⟨v1, vs1, d1, ds1, p1, q1, rfl, rfl, rfl, h1, r1⟩ := trodAll_cons r0
  obtain ⟨v2, vs2, d2, ds2, p2, q2, rfl, rfl, rfl, h2, r2⟩ := trodAll_cons r1
  obtain ⟨v3, vs3, d3, ds3, p3, q3, rfl, rfl, rfl, h3, r3⟩ := trodAll_cons r2
  obtain ⟨v4, vs4, d4, ds4, p4, q4, rfl, rfl, rfl, h4, r4⟩ := trodAll_cons r3
  obtain ⟨rfl, rfl, rfl⟩ := trodAll_nil r4
  obtain rfl : args = #[v0, v1, v2, v3, v4] := by cases args; simp_all
  obtain ⟨rfl, rfl⟩ := trodVars_none hV
  obtain ⟨a0, rfl, rfl, rfl⟩ := open_bool Yba.underlying4 (hval 0 4 v0 rfl rfl) h0
  obtain ⟨a1, rfl, rfl, rfl, w1⟩ := open_int Yba.underlying3 (hval 1 3 v1 rfl rfl) h1
  obtain ⟨a2, rfl, rfl, rfl, w2⟩ := open_int Yba.underlying2 (hval 2 2 v2 rfl rfl) h2
  obtain ⟨a3, rfl, rfl, rfl, w3⟩ := open_int Yba.underlying3 (hval 3 3 v3 rfl rfl) h3
  obtain ⟨a4, rfl, rfl, rfl, w4⟩ := open_int Yba.underlying3 (hval 4 3 v4 rfl rfl) h4
  clear hA0 hval0
  simp only [List.append_nil] at hW'
  refine (walk a0 a1 a2 a3 a4 w1 w2 w3 w4 W).mono fun e W' ⟨he, hg⟩ => ?_
  subst he
  exact ⟨_, rfl, post_of_same (pa := []) (pv := []) hW' (fun _ _ _ => (trodAll_cons_mk (shut_bool Yba.underlying4 _) trodAll_mk0)) (fun sp _ => (trodAll_cons_mk (shut_bool Yba.underlying4 _) (trodAll_cons_mk (shut_int Yba.underlying3 w1) (trodAll_cons_mk (shut_int Yba.underlying2 w2) (trodAll_cons_mk (shut_int Yba.underlying3 w3) (trodAll_cons_mk (shut_int Yba.underlying3 w4) trodAll_mk0)))))) (fun _ _ => rfl) rfl
    (hg.frame _) hg.2.1 (ok_one (by kernel_rfl) rfl (okWide_bool_mk Yba.underlying4 _))⟩

theorem over : Rows.lawS7904CWholeRow.holds Yba.pinned (OpenSpec.ofChange Rows.lawS7904CWholeSpec) :=
  OpenClaim.holds_of_wide 4 Yba.f4 rfl rfl rfl rfl rfl rfl rfl ⟨rfl, rfl, rfl, rfl, rfl⟩ rfl rfl rfl rfl rfl (by kernel_rfl) Yba.func4 (by kernel_rfl)
    (of_decide_eq_true (by kernel_rfl)) (by unfold Func.isWrapper; first | (rw [if_pos (by decide +kernel)]; kernel_rfl) | (rw [if_neg (by decide +kernel)]; exact ⟨rfl, rfl⟩))
    (fun os started H enc _ => lifted os started H enc)

/-- ████ THE STATEMENT ████ -/
theorem proved : Rows.LawS7904CWholeSaid :=
  over
end Go.Proofs.Ybulkfgra.lawS7904CWhole
