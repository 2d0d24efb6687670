/-
  PLAIN LAWS for 'LawS7889AWhole': the bits of a wall word below 2^30; time.Time.Add as a function of numbers. No Go in sight.
-/
import Derived.Laws.Bits64b
import Derived.WalkKit
namespace Go.Proofs.Ybulkfgiy.lawS7889AWhole
open Go.RowKit

theorem and_mono (W : Int) (h0 : 0 ≤ W) (h1 : W < 1073741824) : (bits BinOp.and IntKind.u64 W 9223372036854775808 != 0) = false := by
  obtain ⟨a, rfl⟩ := Int.eq_ofNat_of_zero_le h0
  have e := bits_and_u64_nat a 9223372036854775808 (by omega) (by omega)
  have z : a &&& 9223372036854775808 = 0 := by
    apply Nat.eq_of_testBit_eq
    intro i
    rw [Nat.testBit_and, show (9223372036854775808 : Nat) = 2 ^ 63 from rfl, Nat.testBit_two_pow, Nat.zero_testBit]
    by_cases h : 63 = i
    · subst h
      rw [Nat.testBit_lt_two_pow (by omega)]
      rfl
    · simp [h]
  rw [z] at e
  have e' : bits BinOp.and IntKind.u64 (a : Int) 9223372036854775808 = 0 := e
  rw [e']
  rfl
theorem and_low (W : Int) (h0 : 0 ≤ W) (h1 : W < 1073741824) : bits BinOp.and IntKind.u64 W 1073741823 = W := by
  obtain ⟨a, rfl⟩ := Int.eq_ofNat_of_zero_le h0
  have e := bits_and_u64_nat a 1073741823 (by omega) (by omega)
  have z : a &&& 1073741823 = a := by
    have := Nat.and_two_pow_sub_one_eq_mod a 30
    rw [Nat.mod_eq_of_lt (by omega)] at this
    simpa using this
  rw [z] at e
  exact e
theorem or_zero (W : Int) (h0 : 0 ≤ W) (h1 : W < 1073741824) : bits BinOp.or IntKind.u64 0 W = W := by
  obtain ⟨a, rfl⟩ := Int.eq_ofNat_of_zero_le h0
  have e := bits_or_u64_nat 0 a (by omega) (by omega)
  simpa using e
theorem andNot_low (W : Int) (h0 : 0 ≤ W) (h1 : W < 1073741824) : bits BinOp.andNot IntKind.u64 W 1073741823 = 0 := by
  obtain ⟨a, rfl⟩ := Int.eq_ofNat_of_zero_le h0
  have z : (BitVec.ofInt 64 (a : Int) &&& ~~~ (BitVec.ofInt 64 1073741823)) = 0#64 := by
    apply BitVec.eq_of_getLsbD_eq
    intro i hi
    rw [BitVec.ofInt_natCast, show (1073741823 : Int) = ((2 ^ 30 - 1 : Nat) : Int) from rfl, BitVec.ofInt_natCast]
    simp only [BitVec.getLsbD_and, BitVec.getLsbD_not, BitVec.getLsbD_ofNat, Nat.testBit_two_pow_sub_one, hi, decide_true, Bool.true_and]
    by_cases h : i < 30
    · simp [h]
    · have : a.testBit i = false := Nat.testBit_lt_two_pow (Nat.lt_of_lt_of_le (by omega : a < 2 ^ 30) (Nat.pow_le_pow_right (by omega) (by omega)))
      simp [this]
  show IntKind.u64.wrap ((BitVec.ofInt 64 (a : Int) &&& ~~~ (BitVec.ofInt 64 1073741823)).toNat : Int) = 0
  rw [z]
  rfl

/-- what 'addSec' makes of 'ext' -/
def addE (E d : Int) : Int := if (decide (E < wrap64 (E + d)) == decide (0 < d)) = true then wrap64 (E + d) else if 0 < d then 9223372036854775807 else -9223372036854775807
theorem addE_1 (E d : Int) (h : (decide (E < wrap64 (E + d)) == decide (0 < d)) = true) : addE E d = wrap64 (E + d) := if_pos h
theorem addE_2 (E d : Int) (h : (decide (E < wrap64 (E + d)) == decide (0 < d)) = false) (h2 : 0 < d) : addE E d = 9223372036854775807 := by unfold addE; rw [h, if_neg (by simp), if_pos h2]
theorem addE_3 (E d : Int) (h : (decide (E < wrap64 (E + d)) == decide (0 < d)) = false) (h2 : d ≤ 0) : addE E d = -9223372036854775807 := by unfold addE; rw [h, if_neg (by simp), if_neg (by omega)]

/-- the nanoseconds behind 'Add', and the seconds that it hands to 'addSec' -/
def addN (W d : Int) : Int := if 1000000000 ≤ W + d.tmod 1000000000 then W + d.tmod 1000000000 - 1000000000 else if W + d.tmod 1000000000 < 0 then W + d.tmod 1000000000 + 1000000000 else W + d.tmod 1000000000
def addS (W d : Int) : Int := if 1000000000 ≤ W + d.tmod 1000000000 then d.tdiv 1000000000 + 1 else if W + d.tmod 1000000000 < 0 then d.tdiv 1000000000 - 1 else d.tdiv 1000000000
theorem tm_lo (d : Int) : -1000000000 < d.tmod 1000000000 := by
  rcases Int.le_total 0 d with h | h
  · have := Int.tmod_nonneg 1000000000 h; omega
  · have h1 := Int.neg_tmod d 1000000000
    have h2 := Int.tmod_lt_of_pos (-d) (b := 1000000000) (by omega)
    omega
theorem tm_hi (d : Int) : d.tmod 1000000000 < 1000000000 := Int.tmod_lt_of_pos d (by omega)
theorem td_bd (d : Int) (h0 : -9223372036854775808 ≤ d) (h1 : d ≤ 9223372036854775807) : -9223372038 < d.tdiv 1000000000 ∧ d.tdiv 1000000000 < 9223372038 := by
  have h := Int.mul_tdiv_add_tmod d 1000000000
  have := tm_lo d
  have := tm_hi d
  omega
theorem addN_bd (W d : Int) (h0 : 0 ≤ W) (h1 : W < 1000000000) : 0 ≤ addN W d ∧ addN W d < 1000000000 := by
  have := tm_lo d
  have := tm_hi d
  unfold addN
  split
  · omega
  · split <;> omega
end Go.Proofs.Ybulkfgiy.lawS7889AWhole
