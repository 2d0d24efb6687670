/-
  PLAIN LAWS for 'LawS7904BWhole': the least of a row of numbers, and how often it stands there. No Go in sight.
-/
import Derived.WalkKit
namespace Go.Proofs.Ybulkfgra.lawS7904BWhole

/-- the least of the first m (of the first, where m is 0) -/
def mn (c : Nat → Int) : Nat → Int
  | 0 => c 0
  | m + 1 => if c m < mn c m then c m else mn c m
/-- how often it stands there, as 'least' counts -/
def ct (c : Nat → Int) : Nat → Nat
  | 0 => 0
  | m + 1 => if c m < mn c m then 1 else if c m = mn c m then ct c m + 1 else ct c m
/-- how often v stands among the first m -/
def cnt (c : Nat → Int) (v : Int) : Nat → Nat
  | 0 => 0
  | m + 1 => cnt c v m + (if c m = v then 1 else 0)

theorem mn_lt {c : Nat → Int} {m : Nat} (h : c m < mn c m) : mn c (m + 1) = c m := by rw [mn, if_pos h]
theorem mn_ge {c : Nat → Int} {m : Nat} (h : ¬ c m < mn c m) : mn c (m + 1) = mn c m := by rw [mn, if_neg h]
theorem ct_lt {c : Nat → Int} {m : Nat} (h : c m < mn c m) : ct c (m + 1) = 1 := by rw [ct, if_pos h]
theorem ct_eq {c : Nat → Int} {m : Nat} (h : c m = mn c m) : ct c (m + 1) = ct c m + 1 := by rw [ct, if_neg (by omega), if_pos h]
theorem ct_gt {c : Nat → Int} {m : Nat} (h : mn c m < c m) : ct c (m + 1) = ct c m := by rw [ct, if_neg (by omega), if_neg (by omega)]
theorem mn_le (c : Nat → Int) : ∀ m j, j < m → mn c m ≤ c j
  | m + 1, j, h => by
    by_cases hl : c m < mn c m
    · rw [mn_lt hl]
      by_cases e : j = m
      · subst e; exact Int.le_refl _
      · have := mn_le c m j (by omega); omega
    · rw [mn_ge hl]
      by_cases e : j = m
      · subst e; omega
      · exact mn_le c m j (by omega)
theorem mn_at (c : Nat → Int) (n : Nat) (hn : 0 < n) : ∀ m, m ≤ n → ∃ j, j < n ∧ mn c m = c j
  | 0, _ => ⟨0, hn, rfl⟩
  | m + 1, h => by
    by_cases hl : c m < mn c m
    · exact ⟨m, by omega, mn_lt hl⟩
    · obtain ⟨j, h1, h2⟩ := mn_at c n hn m (by omega)
      exact ⟨j, h1, by rw [mn_ge hl, h2]⟩
theorem cnt_none {c : Nat → Int} {v : Int} : ∀ m, (∀ j, j < m → v < c j) → cnt c v m = 0
  | 0, _ => rfl
  | m + 1, h => by
    have h1 := h m (by omega)
    rw [cnt, cnt_none m (fun j hj => h j (by omega)), if_neg (by omega)]
theorem cnt_le (c : Nat → Int) (v : Int) : ∀ m, cnt c v m ≤ m
  | 0 => Nat.le_refl _
  | m + 1 => by
    have := cnt_le c v m
    rw [cnt]
    split <;> omega
theorem ct_cnt (c : Nat → Int) : ∀ m, ct c m = cnt c (mn c m) m
  | 0 => rfl
  | m + 1 => by
    have ih := ct_cnt c m
    rcases Int.lt_trichotomy (c m) (mn c m) with h | h | h
    · rw [ct_lt h, mn_lt h, cnt, cnt_none m (fun j hj => by have := mn_le c m j hj; omega), if_pos rfl]
    · rw [ct_eq h, mn_ge (by omega), cnt, if_pos h, ih]
    · rw [ct_gt h, mn_ge (by omega), cnt, if_neg (by omega), ih]; rfl
theorem ct_le (c : Nat → Int) (m : Nat) : ct c m ≤ m := by rw [ct_cnt]; exact cnt_le c _ m
end Go.Proofs.Ybulkfgra.lawS7904BWhole
