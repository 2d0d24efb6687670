/-
  WALKS for 'LawS7904BWhole': (*rounding).least.
-/
import Derived.Test.YbulkfgraBSet
import Derived.Test.YbulkfgraBPlain
namespace Go.Proofs.Ybulkfgra.lawS7904BWhole
open Go.ChangeShapes Go.WideShapes Go.ChangeAt Go.RowKit

theorem row_same {w : World} {b t n : Nat} {f g : Nat → Value} (h : w.rowIs b t n f) (k : w.rowIs b t n g) (i : Nat) (hi : i < n) : f i = g i :=
  Option.some.inj ((h.cell hi).symm.trans (k.cell hi))
theorem IsInt.inj {w : World} {l1 h1 l2 h2 b : Nat} {x y : Int} (hx : IsInt w l1 h1 b x) (hy : IsInt w l2 h2 b y) : x = y := by
  obtain ⟨_, _, v1, r1, m1⟩ := hx
  obtain ⟨_, _, v2, r2, m2⟩ := hy
  have e0 := row_same r1 r2 0 (by omega)
  have e1 := row_same r1 r2 1 (by omega)
  simp at e0 e1
  subst e1
  have e3 : x.natAbs = y.natAbs := by
    rcases m1 with ⟨h, z1⟩ | ⟨g, h, _, _, p1, _, k1⟩
    · rcases m2 with ⟨_, z2⟩ | ⟨g', h', _⟩
      · omega
      · rw [h] at h'; cases h'
    · rcases m2 with ⟨h', _⟩ | ⟨g', h', _, _, p2, _, k2⟩
      · rw [h] at h'; cases h'
      · rw [h] at h'
        simp at h'
        subst h'
        have := row_same k1 k2 0 (by omega)
        simp at this
        omega
  have : x < 0 ↔ y < 0 := by simpa using e0
  omega

set_option maxHeartbeats 400000 in
theorem least_any (R V n lo hi : Nat) (P : Nat → Nat) (c : Nat → Int) (w : World) (hn : n ≤ 1048576) (h0 : 0 < n)
    (hf : w.cell? ⟨R, 3, none⟩ = some (.slice (some ⟨V, 0, none⟩) n n)) (hp : ∀ j, j < n → w.cell? ⟨V, j, none⟩ = some (.pointer (some ⟨P j, 0, none⟩)))
    (hI : ∀ j, j < n → IsInt w lo hi (P j) (c j)) (hhi : hi ≤ w.heap.size) :
    Calls Yba.prog 6 #[.pointer (some ⟨R, 0, none⟩)] w fun e w' => ∃ Z, e = .returned (.tuple #[.pointer (some ⟨Z, 0, none⟩), .int .i64 (ct c n : Int)]) ∧ IsInt w' w.heap.size w'.heap.size Z (mn c n) ∧ Below w.heap.size w w' := by
  have p0 := hp 0 h0
  have HP : Hid (∀ j, j < n → w.cell? ⟨V, j, none⟩ = some (.pointer (some ⟨P j, 0, none⟩))) := hp
  have HI : Hid (∀ j, j < n → IsInt w lo hi (P j) (c j)) := hI
  clear hp hI
  go_enter Yba.func6, Yba.ntmps6
  go_wp2
  go_loopw [4, 5, 20] (fun l a i wr => ∃ m j q : Nat, m ≤ n ∧ j < n ∧ i = .int .i64 (m : Int) ∧ l = .pointer (some ⟨P j, 0, none⟩) ∧ a = .int .i64 (ct c m : Int) ∧ c j = mn c m ∧ wr = w.drewN q) (fun _ _ i _ => n - (intOf i).toNat)
  case atStart => exact ⟨0, 0, 0, Nat.zero_le _, h0, rfl, rfl, rfl, rfl, rfl⟩
  case round =>
    obtain ⟨m, j, q, hm, hj, rfl, rfl, rfl, hcj, rfl⟩ := hrel
    by_cases hmn : m < n
    · have pm := HP.out m hmn
      have hcl := ct_le c m
      rcases Int.lt_trichotomy (c m) (mn c m) with h | h | h
      · go_wp2_with (go_at_call 7; refine (cmp_any (P m) (P j) lo hi lo hi (c m) (c j) _ ?_ ?_ ?_).mono ?_; exact HI.out m hmn; exact HI.out j hj; (intro e; exact (e ▸ HI.out m hmn : IsInt w lo hi (P j) (c m)).inj (HI.out j hj)); rw [cmpI_lt (by omega)]; rintro e w' ⟨rfl, q', rfl⟩)
        refine ⟨⟨m + 1, m, q + q', by omega, hmn, by go_num, rfl, by rw [ct_lt h]; rfl, (mn_lt h).symm, rfl⟩, ?_⟩
        simp [intOf]; omega
      · go_wp2_with (go_at_call 7; refine (cmp_any (P m) (P j) lo hi lo hi (c m) (c j) _ ?_ ?_ ?_).mono ?_; exact HI.out m hmn; exact HI.out j hj; (intro e; exact (e ▸ HI.out m hmn : IsInt w lo hi (P j) (c m)).inj (HI.out j hj)); rw [cmpI_eq (by omega)]; rintro e w' ⟨rfl, q', rfl⟩)
        refine ⟨⟨m + 1, j, q + q', by omega, hj, by go_num, rfl, by rw [ct_eq h]; go_num, by rw [mn_ge (by omega)]; exact hcj, rfl⟩, ?_⟩
        simp [intOf]; omega
      · go_wp2_with (go_at_call 7; refine (cmp_any (P m) (P j) lo hi lo hi (c m) (c j) _ ?_ ?_ ?_).mono ?_; exact HI.out m hmn; exact HI.out j hj; (intro e; exact (e ▸ HI.out m hmn : IsInt w lo hi (P j) (c m)).inj (HI.out j hj)); rw [cmpI_gt (by omega)]; rintro e w' ⟨rfl, q', rfl⟩)
        refine ⟨⟨m + 1, j, q + q', by omega, hj, by go_num, rfl, by rw [ct_gt h], by rw [mn_ge (by omega)]; exact hcj, rfl⟩, ?_⟩
        simp [intOf]; omega
    · obtain rfl : m = n := by omega
      have HN : Hid (IsInt ((w.drewN q).alloc (.cells #[.bool false, .slice none 0 0] 56)) lo hi (P j) (mn c m)) := by
        have hb : Below w.heap.size (w.drewN q) ((w.drewN q).alloc (.cells #[.bool false, .slice none 0 0] 56)) := (Below.refl _ _).alloc (by simp) _
        have h := (HI.out j hj).drewN q
        rw [hcj] at h
        exact h.below hb hhi
      have HB : Hid (Below w.heap.size w ((w.drewN q).alloc (.cells #[.bool false, .slice none 0 0] 56))) := (below_drewN (Below.refl _ _) q).alloc (by simp) _
      have HZ0 : (((w.drewN q).alloc (.cells #[.bool false, .slice none 0 0] 56)).rowIs w.heap.size 56 2 (fun j => if j = 0 then .bool false else .slice none 0 0)) := by
        have := row2_new (w.drewN q) (.bool false) (.slice none 0 0) false rfl
        simpa using this
      have HZ := hide2 HZ0
      clear HZ0
      go_wp2_with fail
      refine (intset_any w.heap.size (P j) lo hi (mn c m) _ HZ.out HN.out hhi).mono ?_
      rintro e w3 ⟨rfl, hI3, hb3⟩
      have HB3 : Hid (Below w.heap.size w w3) := HB.out.trans hb3
      have HI4 : Hid (IsInt w3 w.heap.size w3.heap.size w.heap.size (mn c m)) := hI3
      clear hb3 hI3
      go_wp2
      go_ret2
      exact ⟨_, rfl, HI4.out, HB3.out⟩
end Go.Proofs.Ybulkfgra.lawS7904BWhole
