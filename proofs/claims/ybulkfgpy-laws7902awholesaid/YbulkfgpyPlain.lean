/-
  PLAIN LAWS for 'LawS7902AWhole': the fields' words, joined by a blank, are the bytes that the law gathers one behind the other. No Go in sight.
-/
import Derived.Lib.Join
namespace Go.Proofs.Ybulkfgpy.lawS7902AWhole

/-- what the first m fields take, as the law counts it -/
def S (na va : Nat → ByteArray) : Nat → Nat
  | 0 => 0
  | m + 1 => S na va m + ((na m).size + (va m).size + 2)
theorem S_succ (na va : Nat → ByteArray) (m : Nat) : S na va (m + 1) = S na va m + ((na m).size + (va m).size + 2) := rfl
theorem S_ge (na va : Nat → ByteArray) : ∀ m, 2 * m ≤ S na va m
  | 0 => by simp [S]
  | m + 1 => by have := S_ge na va m; rw [S_succ]; omega
theorem S_mono (na va : Nat → ByteArray) {m n : Nat} (h : m ≤ n) : S na va m ≤ S na va n := by
  induction n with
  | zero => obtain rfl : m = 0 := by omega
            exact Nat.le_refl _
  | succ n ih =>
    by_cases e : m = n + 1
    · subst e; exact Nat.le_refl _
    · have := ih (by omega); rw [S_succ]; omega

/-- one word -/
def word (na va : Nat → ByteArray) (i : Nat) : ByteArray := na i ++ ⟨#[61]⟩ ++ va i
theorem word_data (na va : Nat → ByteArray) (i : Nat) : (word na va i).data.toList = (na i).data.toList ++ [61] ++ (va i).data.toList := by
  simp [word]

/-- the bytes that the law gathers out of the first m fields -/
def G (na va : Nat → ByteArray) : Nat → List UInt8
  | 0 => []
  | m + 1 => G na va m ++ (if 0 < m then [32] else []) ++ (na m).data.toList ++ [61] ++ (va m).data.toList
theorem G_len (na va : Nat → ByteArray) : ∀ m, (G na va m).length ≤ S na va m
  | 0 => by simp [G, S]
  | m + 1 => by
    have := G_len na va m
    have h1 : (na m).data.toList.length = (na m).size := by simp
    have h2 : (va m).data.toList.length = (va m).size := by simp
    simp only [G, S_succ, List.length_append, List.length_singleton, h1, h2]
    split <;> simp <;> omega

theorem join_snoc (x : List UInt8) (r : List (List UInt8)) (y sep : List UInt8) : Lib.join (x :: r ++ [y]) sep = Lib.join (x :: r) sep ++ sep ++ y := by
  rw [List.cons_append, Lib.join_cons, Lib.join_cons]
  simp [Lib.joinTail, List.append_assoc]

theorem join_G (na va : Nat → ByteArray) : ∀ m, Lib.join ((List.range m).map fun i => (word na va i).data.toList) [32] = G na va m
  | 0 => rfl
  | 1 => by simp [List.range_succ, Lib.join_one, word_data, G]
  | m + 2 => by
    have ih := join_G na va (m + 1)
    rw [List.range_succ, List.map_append]
    obtain ⟨x, r, e⟩ : ∃ x r, (List.range (m + 1)).map (fun i => (word na va i).data.toList) = x :: r := by
      rw [List.range_succ_eq_map]; exact ⟨_, _, rfl⟩
    rw [e] at ih ⊢
    rw [List.map_cons, List.map_nil, join_snoc, ih, word_data]
    simp [G, List.append_assoc]
end Go.Proofs.Ybulkfgpy.lawS7902AWhole
