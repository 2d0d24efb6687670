/-
  WALKS for 'LawS7889AWhole': time.Time.Add and what it calls, at a time without a monotonic reading.
-/
import Derived.Test.YbulkfgiyRows
import Derived.Test.YbulkfgiyPlain
import Derived.WalkKit
import Derived.ProofKit
import Derived.OpenShut
import Derived.WalkSpells
import Derived.WalkLawsBesides
namespace Go.Proofs.Ybulkfgiy.lawS7889AWhole
open Go.ChangeShapes Go.WideShapes Go.ChangeAt Go.RowKit

theorem addSec (b : Nat) (W E d : Int) (w : World) (h0 : w.cell? ⟨b, 0, none⟩ = some (.int .u64 W)) (h1 : w.cell? ⟨b, 1, none⟩ = some (.int .i64 E)) (hf : w.frozen? ⟨b, 1, none⟩ = false)
    (hm : (bits BinOp.and IntKind.u64 W 9223372036854775808 != 0) = false) :
    Calls Yba.prog 11 #[.pointer (some ⟨b, 0, none⟩), .int .i64 d] w fun e w' => e = .returned (.tuple #[]) ∧ w' = w.setCell ⟨b, 1, none⟩ (.int .i64 (addE E d)) := by
  go_enter Yba.func11, Yba.ntmps11
  go_wp2
  · go_end0
    exact ⟨rfl, by rw [addE_1 _ _ ‹_›]⟩
  · go_end0
    exact ⟨rfl, by rw [addE_2 _ _ ‹_› ‹_›]⟩
  · go_end0
    exact ⟨rfl, by rw [addE_3 _ _ ‹_› ‹_›]⟩

theorem nsec (b : Nat) (W : Int) (w : World) (h0 : w.cell? ⟨b, 0, none⟩ = some (.int .u64 W)) (hW0 : 0 ≤ W) (hW1 : W < 1000000000) :
    Calls Yba.prog 10 #[.pointer (some ⟨b, 0, none⟩)] w fun e w' => e = .returned (.int .i32 W) ∧ w' = w := by
  have hn := and_low W hW0 (by omega)
  go_enter Yba.func10, Yba.ntmps10
  go_wp2
  go_ret
  exact ⟨rfl, rfl⟩

/-- the value that a time holds, as one value and as three cells -/
def tcells (W E : Int) : Array Value := #[.int .u64 W, .int .i64 E, .pointer none]

theorem add1 (W E d : Int) (w : World) (hW0 : 0 ≤ W) (hW1 : W < 1000000000) (hd0 : -9223372036854775808 ≤ d) (hd1 : d ≤ 9223372036854775807)
    (c1 : 1000000000 ≤ W + d.tmod 1000000000) :
    Calls Yba.prog 5 #[.agg #[.int .u64 W, .int .i64 E, .pointer none], .int .i64 d] w fun e w' => e = .returned (.agg (tcells (W + d.tmod 1000000000 - 1000000000) (addE E (d.tdiv 1000000000 + 1)))) ∧
      w' = (w.alloc (.cells (tcells (W + d.tmod 1000000000 - 1000000000) (addE E (d.tdiv 1000000000 + 1))) 56)).alloc (.cells (tcells (W + d.tmod 1000000000 - 1000000000) (addE E (d.tdiv 1000000000 + 1))) 56) := by
  have t0 := tm_lo d
  have t1 := tm_hi d
  obtain ⟨t2, t3⟩ := td_bd d hd0 hd1
  have b1 := andNot_low W hW0 (by omega)
  have b2 := or_zero (W + d.tmod 1000000000 - 1000000000) (by omega) (by omega)
  have b3 := and_mono (W + d.tmod 1000000000 - 1000000000) (by omega) (by omega)
  go_enter Yba.func5, Yba.ntmps5
  go_wp2_with (first | (go_at_call 10; refine (nsec _ W _ (by simp) (by omega) (by omega)).mono ?_; rintro e w' ⟨rfl, rfl⟩) | (go_at_call 11; refine (addSec _ (W + d.tmod 1000000000 - 1000000000) E _ _ (by simp) (by simp) (by simp) b3).mono ?_; rintro e w' ⟨rfl, rfl⟩))
  exact bodyPost_ret (v := .agg (tcells (W + d.tmod 1000000000 - 1000000000) (addE E (d.tdiv 1000000000 + 1)))) (by simp [results, Yba.results5, tcells, go_sem]) rfl ⟨rfl, rfl⟩

theorem add2 (W E d : Int) (w : World) (hW0 : 0 ≤ W) (hW1 : W < 1000000000) (hd0 : -9223372036854775808 ≤ d) (hd1 : d ≤ 9223372036854775807)
    (c1 : W + d.tmod 1000000000 < 0) :
    Calls Yba.prog 5 #[.agg #[.int .u64 W, .int .i64 E, .pointer none], .int .i64 d] w fun e w' => e = .returned (.agg (tcells (W + d.tmod 1000000000 + 1000000000) (addE E (d.tdiv 1000000000 - 1)))) ∧
      w' = (w.alloc (.cells (tcells (W + d.tmod 1000000000 + 1000000000) (addE E (d.tdiv 1000000000 - 1))) 56)).alloc (.cells (tcells (W + d.tmod 1000000000 + 1000000000) (addE E (d.tdiv 1000000000 - 1))) 56) := by
  have t0 := tm_lo d
  have t1 := tm_hi d
  obtain ⟨t2, t3⟩ := td_bd d hd0 hd1
  have b1 := andNot_low W hW0 (by omega)
  have b2 := or_zero (W + d.tmod 1000000000 + 1000000000) (by omega) (by omega)
  have b3 := and_mono (W + d.tmod 1000000000 + 1000000000) (by omega) (by omega)
  go_enter Yba.func5, Yba.ntmps5
  go_wp2_with (first | (go_at_call 10; refine (nsec _ W _ (by simp) (by omega) (by omega)).mono ?_; rintro e w' ⟨rfl, rfl⟩) | (go_at_call 11; refine (addSec _ (W + d.tmod 1000000000 + 1000000000) E _ _ (by simp) (by simp) (by simp) b3).mono ?_; rintro e w' ⟨rfl, rfl⟩))
  exact bodyPost_ret (v := .agg (tcells (W + d.tmod 1000000000 + 1000000000) (addE E (d.tdiv 1000000000 - 1)))) (by simp [results, Yba.results5, tcells, go_sem]) rfl ⟨rfl, rfl⟩

theorem add3 (W E d : Int) (w : World) (hW0 : 0 ≤ W) (hW1 : W < 1000000000) (hd0 : -9223372036854775808 ≤ d) (hd1 : d ≤ 9223372036854775807)
    (c1 : W + d.tmod 1000000000 < 1000000000) (c2 : 0 ≤ W + d.tmod 1000000000) :
    Calls Yba.prog 5 #[.agg #[.int .u64 W, .int .i64 E, .pointer none], .int .i64 d] w fun e w' => e = .returned (.agg (tcells (W + d.tmod 1000000000) (addE E (d.tdiv 1000000000)))) ∧
      w' = (w.alloc (.cells (tcells (W + d.tmod 1000000000) (addE E (d.tdiv 1000000000))) 56)).alloc (.cells (tcells (W + d.tmod 1000000000) (addE E (d.tdiv 1000000000))) 56) := by
  have t0 := tm_lo d
  have t1 := tm_hi d
  obtain ⟨t2, t3⟩ := td_bd d hd0 hd1
  have b1 := andNot_low W hW0 (by omega)
  have b2 := or_zero (W + d.tmod 1000000000) (by omega) (by omega)
  have b3 := and_mono (W + d.tmod 1000000000) (by omega) (by omega)
  go_enter Yba.func5, Yba.ntmps5
  go_wp2_with (first | (go_at_call 10; refine (nsec _ W _ (by simp) (by omega) (by omega)).mono ?_; rintro e w' ⟨rfl, rfl⟩) | (go_at_call 11; refine (addSec _ (W + d.tmod 1000000000) E _ _ (by simp) (by simp) (by simp) b3).mono ?_; rintro e w' ⟨rfl, rfl⟩))
  exact bodyPost_ret (v := .agg (tcells (W + d.tmod 1000000000) (addE E (d.tdiv 1000000000)))) (by simp [results, Yba.results5, tcells, go_sem]) rfl ⟨rfl, rfl⟩

/-- '(time.Time).Add' at a time without a monotonic reading, its location nil: two new blocks, the value in each. -/
theorem add_any (W E d : Int) (w : World) (hW0 : 0 ≤ W) (hW1 : W < 1000000000) (hd0 : -9223372036854775808 ≤ d) (hd1 : d ≤ 9223372036854775807) :
    Calls Yba.prog 5 #[.agg #[.int .u64 W, .int .i64 E, .pointer none], .int .i64 d] w fun e w' => e = .returned (.agg #[.int .u64 (addN W d), .int .i64 (addE E (addS W d)), .pointer none]) ∧
      w' = (w.alloc (.cells #[.int .u64 (addN W d), .int .i64 (addE E (addS W d)), .pointer none] 56)).alloc (.cells #[.int .u64 (addN W d), .int .i64 (addE E (addS W d)), .pointer none] 56) := by
  by_cases c1 : 1000000000 ≤ W + d.tmod 1000000000
  · rw [show addN W d = W + d.tmod 1000000000 - 1000000000 from if_pos c1, show addS W d = d.tdiv 1000000000 + 1 from if_pos c1]
    exact add1 W E d w hW0 hW1 hd0 hd1 c1
  · by_cases c2 : W + d.tmod 1000000000 < 0
    · rw [show addN W d = W + d.tmod 1000000000 + 1000000000 from by unfold addN; rw [if_neg c1, if_pos c2], show addS W d = d.tdiv 1000000000 - 1 from by unfold addS; rw [if_neg c1, if_pos c2]]
      exact add2 W E d w hW0 hW1 hd0 hd1 c2
    · rw [show addN W d = W + d.tmod 1000000000 from by unfold addN; rw [if_neg c1, if_neg c2], show addS W d = d.tdiv 1000000000 from by unfold addS; rw [if_neg c1, if_neg c2]]
      exact add3 W E d w hW0 hW1 hd0 hd1 (by omega) (by omega)
end Go.Proofs.Ybulkfgiy.lawS7889AWhole
