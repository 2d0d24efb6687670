/-
  WALKS for 'LawS7901CWhole': 'zzs7901cfield', 'zzs7901csum'.
-/
import Derived.Test.YbulkfgpkRows
import Derived.Test.YbulkfgpkPlain
import Derived.WalkKit
import Derived.ProofKit
import Derived.OpenShut
import Derived.WalkSpells
import Derived.WalkLawsBesides
namespace Go.Proofs.Ybulkfgpk.lawS7901CWhole
open Go.ChangeShapes Go.WideShapes Go.ChangeAt Go.RowKit

theorem field_any (c0 c1 c2 c3 qi r : Int) (w : World) (h : (qi = 0 ∧ r = c0) ∨ (qi = 1 ∧ r = c1) ∨ (qi = 2 ∧ r = c2) ∨ (qi = 3 ∧ r = c3)) :
    Calls Yba.prog 8 #[.agg #[.int .i64 c0, .int .i64 c1, .int .i64 c2, .int .i64 c3], .int .i64 qi] w fun e w' => e = .returned (.int .i64 r) ∧ w' = w.alloc (.cells #[.int .i64 c0, .int .i64 c1, .int .i64 c2, .int .i64 c3] 25) := by
  rcases h with ⟨rfl, rfl⟩ | ⟨rfl, rfl⟩ | ⟨rfl, rfl⟩ | ⟨rfl, rfl⟩
  all_goals
    go_enter Yba.func8, Yba.ntmps8
    go_wp2
    go_ret
    exact ⟨rfl, rfl⟩

/-- which field: the number as the walk has it, and as a place in an element -/
def Fld (qi : Int) (q : Nat) : Prop := (qi = 0 ∧ q = 0) ∨ (qi = 1 ∧ q = 1) ∨ (qi = 2 ∧ q = 2) ∨ (qi = 3 ∧ q = 3)
theorem fld_pick {qi : Int} {q : Nat} (h : Fld qi q) (c : Nat → Int) (k : Nat) :
    (qi = 0 ∧ c (k * 4 + q) = c (k * 4)) ∨ (qi = 1 ∧ c (k * 4 + q) = c (k * 4 + 1)) ∨ (qi = 2 ∧ c (k * 4 + q) = c (k * 4 + 2)) ∨ (qi = 3 ∧ c (k * 4 + q) = c (k * 4 + 3)) := by
  rcases h with ⟨rfl, rfl⟩ | ⟨rfl, rfl⟩ | ⟨rfl, rfl⟩ | ⟨rfl, rfl⟩ <;> simp

theorem sum_step (c : Nat → Int) (q n k : Nat) : wrap64 (wrap64 (T c q n - T c q (k + 1)) + c (k * 4 + q)) = wrap64 (T c q n - T c q k) := by
  rw [wrap_add, T_succ]
  congr 1
  omega

set_option maxHeartbeats 400000 in
/-- 'zzs7901csum' over a row of the call's own. -/
theorem csum_any (B n : Nat) (c : Nat → Int) (qi : Int) (q : Nat) (w : World) (hq : Fld qi q) (hn : n ≤ 1048576) (hc : ∀ j, j < n * 4 → w.cell? ⟨B, j, none⟩ = some (.int .i64 (c j))) (hB : B < w.heap.size) :
    Calls Yba.prog 7 #[.slice (some ⟨B, 0, none⟩) n n, .int .i64 qi] w fun e w' => e = .returned (.int .i64 (wrap64 (T c q n))) ∧ Below w.heap.size w w' := by
  go_enter Yba.func7, Yba.ntmps7
  go_wp2
  go_loopw [5, 6] (fun s i wr => ∃ m : Nat, m ≤ n ∧ i = .int .i64 ((m : Int) - 1) ∧ s = .int .i64 (wrap64 (T c q n - T c q m)) ∧ Below w.heap.size w wr) (fun _ i _ => (intOf i + 1).toNat)
  case atStart => exact ⟨n, Nat.le_refl _, rfl, by simp [wrap_zero], Below.refl _ _⟩
  case round =>
    obtain ⟨m, hm, rfl, rfl, hb⟩ := hrel
    by_cases h0 : 0 < m
    · obtain ⟨k, rfl⟩ : ∃ k, m = k + 1 := ⟨m - 1, by omega⟩
      have g0 : wr.cell? ⟨B, k * 4, none⟩ = some (.int .i64 (c (k * 4))) := (hb.cell (p := ⟨B, k * 4, none⟩) hB).trans (hc _ (by omega))
      have g1 : wr.cell? ⟨B, k * 4 + 1, none⟩ = some (.int .i64 (c (k * 4 + 1))) := (hb.cell (p := ⟨B, k * 4 + 1, none⟩) hB).trans (hc _ (by omega))
      have g2 : wr.cell? ⟨B, k * 4 + 2, none⟩ = some (.int .i64 (c (k * 4 + 2))) := (hb.cell (p := ⟨B, k * 4 + 2, none⟩) hB).trans (hc _ (by omega))
      have g3 : wr.cell? ⟨B, k * 4 + 3, none⟩ = some (.int .i64 (c (k * 4 + 3))) := (hb.cell (p := ⟨B, k * 4 + 3, none⟩) hB).trans (hc _ (by omega))
      clear h0
      go_wp2_with (go_at_call 8; refine (field_any _ _ _ _ _ _ _ (fld_pick hq c k)).mono ?_; rintro e w' ⟨rfl, rfl⟩)
      go_roundw
      case rel => exact ⟨k, by omega, rfl, by rw [sum_step], hb.alloc (by have := hb.size; omega) _⟩
      case measure => simp [intOf]
    · obtain rfl : m = 0 := by omega
      go_wp2
      go_ret
      exact ⟨by simp [T], hb⟩

/-- .. over no element: whatever the slice's address. -/
theorem csum_none (a : Option Addr) (cap : Nat) (qi : Int) (w : World) :
    Calls Yba.prog 7 #[.slice a 0 cap, .int .i64 qi] w fun e w' => e = .returned (.int .i64 0) ∧ w' = w := by
  go_enter Yba.func7, Yba.ntmps7
  go_wp2
  refine wp_loop_rounds 1 ?_
  rw [rounds_succ]
  go_wp2
  go_ret
  exact ⟨rfl, rfl⟩
end Go.Proofs.Ybulkfgpk.lawS7901CWhole
