/-
  THE WALK of 'LawS7904BWhole'.
-/
import Derived.Test.YbulkfgraBLeast
import Derived.Test.YbulkfgraBAdd
import Derived.Deep.RegionHeld3
namespace Go.Proofs.Ybulkfgra.lawS7904BWhole
open Go.ChangeShapes Go.WideShapes Go.ChangeAt Go.RowKit
theorem info24 : (Yba.prog.info? 24).map (fun i => (i.zero, i.size, i.bytes)) = some (some (.pointer none), 1, 8) := by kernel_rfl
theorem size24 : (Yba.prog.info? 24).map (·.size) = some 1 := by kernel_rfl
theorem mkp (n : Nat) (hn : n ≤ 1048576) (w : World) : (Instr.makeSlice 23 (.int .i64 (n : Int)) (.int .i64 (n : Int))).run Yba.prog w = .ok (.slice (some ⟨w.heap.size, 0, none⟩) n n) (w.alloc (.cells (madeCells #[.pointer none] n) 24)) :=
  run_make_row' 23 24 (.pointer none) 8 Yba.underlying23 info24 rfl .i64 .i64 n (by omega) (by omega) w
def ptr (b : Nat) : Value := .pointer (some ⟨b, 0, none⟩)
theorem val_step {w : World} {V n m b : Nat} {P : Nat → Nat} (h : w.rowIs V 24 n (fun j => if j < m then ptr (P j) else .pointer none)) :
    (w.setCell ⟨V, m, none⟩ (ptr b)).rowIs V 24 n (fun j => if j < m + 1 then ptr (if j = m then b else P j) else .pointer none) := by
  refine (h.set m _).congr fun i _ => ?_
  by_cases h0 : i = m
  · subst h0; simp
  · simp only [h0, if_false]
    by_cases hl : i < m
    · rw [if_pos hl, if_pos (by omega)]
    · rw [if_neg hl, if_neg (by omega)]

theorem Mag.setOther {w : World} {lo hi : Nat} {v : Value} {n : Int} (h : Mag w lo hi v n) {a : Addr} (ha : a.block < lo) (u : Value) : Mag (w.setCell a u) lo hi v n := by
  rcases h with h | ⟨g, h1, h2, h3, h4, h5, h6⟩
  · exact .inl h
  · exact .inr ⟨g, h1, h2, h3, h4, h5, h6.setOther (by omega) u⟩
theorem IsInt.setOther {w : World} {lo hi b : Nat} {x : Int} (h : IsInt w lo hi b x) {a : Addr} (ha : a.block < lo) (u : Value) : IsInt (w.setCell a u) lo hi b x := by
  obtain ⟨h1, h2, v, hr, hm⟩ := h
  exact ⟨h1, h2, v, hr.setOther (by omega) u, hm.setOther ha u⟩
theorem copyp (n : Nat) (w : World) (V : Nat) (P : Nat → Nat) (hV : V < w.heap.size) (hc : ∀ j, j < n → w.cell? ⟨V, j, none⟩ = some (ptr (P j))) :
    (Builtin.copy_ #[23, 23] 3 #[.slice (some ⟨w.heap.size, 0, none⟩) n n, .slice (some ⟨V, 0, none⟩) n n]).run Yba.prog (w.alloc (.cells (madeCells #[.pointer none] n) 24)) = .ok (.int .i64 (n : Int)) (w.alloc (.cells ((List.range n).map fun j => ptr (P j)).toArray 24)) := by
  have h := run_copy_row (P := Yba.prog) (w.alloc (.cells (madeCells #[.pointer none] n) 24)) 23 23 3 24 w.heap.size 0 n n ⟨V, 0, none⟩ n n (madeCells #[.pointer none] n) 24 ((List.range n).map fun j => ptr (P j)) Yba.underlying23 size24 (Deep.blk_alloc_new _ _) (by simp) (fun j v hj => by
    have hjn : j < n := by
      have := (List.getElem?_eq_some_iff.1 hj).1
      simpa using this
    rw [List.getElem?_map, List.getElem?_range hjn, Option.map_some, Option.some.injEq] at hj
    subst hj
    rw [add_plain, World.cell?_alloc_past _ _ _ hV, Nat.zero_add]
    exact hc j hjn) (by simp [size_madeCells]) (fun v hv => by
      obtain ⟨j, _, rfl⟩ := List.mem_map.1 hv
      rfl)
  rw [h]
  have e := setRow_alloc w (madeCells #[.pointer none] n) ((List.range n).map fun j => ptr (P j)).toArray 24
  have e2 : (madeCells #[.pointer none] n).toList.drop (0 + ((List.range n).map fun j => ptr (P j)).length) = [] := List.drop_eq_nil_of_le (by simp [size_madeCells])
  rw [e2]
  simpa [goInt] using e
theorem row_ptrs (w : World) (n : Nat) (P : Nat → Nat) : (w.alloc (.cells ((List.range n).map fun j => ptr (P j)).toArray 24)).rowIs w.heap.size 24 n (fun j => ptr (P j)) := by
  have h := World.rowIs_alloc w ((List.range n).map fun j => ptr (P j)).toArray 24 (fun j => ptr (P j)) (fun i hi => by
    have hi' : i < n := by simpa using hi
    simp [hi'])
  simpa using h

/-- what stands from the copy on: the argument, 'value', 'ptrs', the rounding, the numbers -/
structure Kept (b off n V T R lo hi : Nat) (P : Nat → Nat) (c : Nat → Int) (w : World) : Prop where
  vals : ∀ j, j < n → w.cell? ⟨b, off + j, none⟩ = some (.int .i64 (c j))
  value : w.rowIs V 24 n (fun j => ptr (P j))
  ptrs : w.rowIs T 24 n (fun j => ptr (P j))
  box : w.cell? ⟨R, 3, none⟩ = some (.slice (some ⟨V, 0, none⟩) n n)
  ints : ∀ j, j < n → IsInt w lo hi (P j) (c j)
theorem Kept.below {b off n V T R lo hi K : Nat} {P : Nat → Nat} {c : Nat → Int} {w w' : World} (h : Kept b off n V T R lo hi P c w) (hb : Below K w w') (k1 : b < K) (k2 : V < K) (k3 : T < K) (k4 : R < K) (k5 : hi ≤ K) : Kept b off n V T R lo hi P c w' :=
  ⟨fun j hj => (hb.cell (p := ⟨b, off + j, none⟩) k1).trans (h.vals j hj), row_below hb k2 h.value, row_below hb k3 h.ptrs, (hb.cell (p := ⟨R, 3, none⟩) k4).trans h.box, fun j hj => (h.ints j hj).below hb k5⟩
theorem kept_start {b off n V : Nat} {P : Nat → Nat} {c : Nat → Int} (w1 : World) (hb1 : b < w1.heap.size) (hV : V < w1.heap.size) (hc : ∀ j, j < n → w1.cell? ⟨b, off + j, none⟩ = some (.int .i64 (c j)))
    (hr : w1.rowIs V 24 n (fun j => ptr (P j))) (hI : ∀ j, j < n → IsInt w1 (V + 1) w1.heap.size (P j) (c j)) :
    Kept b off n V w1.heap.size (w1.heap.size + 1) (V + 1) w1.heap.size P c ((w1.alloc (.cells ((List.range n).map fun j => ptr (P j)).toArray 24)).alloc (.cells #[.slice none 0 0, .slice none 0 0, .slice none 0 0, .slice (some ⟨V, 0, none⟩) n n, .slice none 0 0, .pointer none] 31)) := by
  have hb : Below w1.heap.size w1 ((w1.alloc (.cells ((List.range n).map fun j => ptr (P j)).toArray 24)).alloc (.cells #[.slice none 0 0, .slice none 0 0, .slice none 0 0, .slice (some ⟨V, 0, none⟩) n n, .slice none 0 0, .pointer none] 31)) := ((Below.refl _ _).alloc (Nat.le_refl _) _).alloc (by simp) _
  exact ⟨fun j hj => (hb.cell (p := ⟨b, off + j, none⟩) hb1).trans (hc j hj), row_below hb hV hr, (row_ptrs w1 n P).alloc _, (World.cell?_alloc_at _ _ _ 3 (by simp)).trans rfl, fun j hj => (hI j hj).below hb (Nat.le_refl _)⟩

/-- what stands while the last loop runs -/
def Keeps5 (b off n V T R lo hi : Nat) (P : Nat → Nat) (c : Nat → Int) (w w' : World) : Prop :=
  Below w.heap.size w w' ∧ Kept b off n V T R lo hi P c w' ∧ R < w'.heap.size
/-- .. with the cells that its one statement loads -/
def Held5 (b off n V T R lo hi : Nat) (P : Nat → Nat) (c : Nat → Int) (k : Nat) (w w' : World) : Prop :=
  w'.cell? ⟨R, 3, none⟩ = some (.slice (some ⟨V, 0, none⟩) n n) ∧ w'.cell? ⟨V, k, none⟩ = some (.pointer (some ⟨P k, 0, none⟩)) ∧ w'.cell? ⟨T, k, none⟩ = some (.pointer (some ⟨P k, 0, none⟩)) ∧ w'.cell? ⟨b, off + k, none⟩ = some (.int .i64 (c k)) ∧ Keeps5 b off n V T R lo hi P c w w'
theorem held5_of {b off n V T R lo hi : Nat} {P : Nat → Nat} {c : Nat → Int} {k : Nat} {w w' : World} (hk : k < n) (h : Keeps5 b off n V T R lo hi P c w w') : Held5 b off n V T R lo hi P c k w w' :=
  ⟨h.2.1.box, h.2.1.value.cell hk, h.2.1.ptrs.cell hk, h.2.1.vals k hk, h⟩
theorem held5_drew {b off n V T R lo hi : Nat} {P : Nat → Nat} {c : Nat → Int} {k : Nat} {w w' : World} (hk : k < n) (h : Keeps5 b off n V T R lo hi P c w w') : Held5 b off n V T R lo hi P c k w w'.drew :=
  held5_of hk ⟨h.1.drew, ⟨h.2.1.vals, h.2.1.value, h.2.1.ptrs, h.2.1.box, h.2.1.ints⟩, h.2.2⟩
theorem held5_int {b off n V T R lo hi : Nat} {P : Nat → Nat} {c : Nat → Int} {k : Nat} {w w' : World} (hk : k < n) (h : Held5 b off n V T R lo hi P c k w w') : IsInt w' lo hi (P k) (c k) := h.2.2.2.2.2.1.ints k hk
theorem held5_last {b off n V T R lo hi : Nat} {P : Nat → Nat} {c : Nat → Int} {k : Nat} {w w' : World} (h : Held5 b off n V T R lo hi P c k w w') : Keeps5 b off n V T R lo hi P c w w' := h.2.2.2.2
theorem held5_step {b off n V hi : Nat} {P : Nat → Nat} {c : Nat → Int} {k : Nat} {w wp w' : World} (hb1 : b < hi) (hsz : V < hi) (hk : k < n) (hb : Below wp.heap.size wp w') (hh : Held5 b off n V hi (hi + 1) (V + 1) hi P c k w wp) : Held5 b off n V hi (hi + 1) (V + 1) hi P c k w w' := by
  have h := hh.2.2.2.2
  have hR := h.2.2
  exact held5_of hk ⟨h.1.trans (hb.mono h.1.size), h.2.1.below hb (by omega) (by omega) (by omega) (by omega) (by omega), Nat.lt_of_lt_of_le hR hb.size⟩
theorem cmp_below (b c l1 h1 l2 h2 : Nat) (x y : Int) (w : World) (hb : IsInt w l1 h1 b x) (hc : IsInt w l2 h2 c y) (heq : b = c → x = y) :
    Calls Yba.prog 7 #[.pointer (some ⟨b, 0, none⟩), .pointer (some ⟨c, 0, none⟩)] w fun e w' => e = .returned (.int .i64 (cmpI x y)) ∧ Below w.heap.size w w' :=
  (cmp_any b c l1 h1 l2 h2 x y w hb hc heq).mono fun _ _ ⟨he, q, hw⟩ => ⟨he, hw ▸ below_drewN (Below.refl _ _) q⟩

set_option maxRecDepth 20000 in
set_option maxHeartbeats 1000000 in
theorem law_pos (b off n cap : Nat) (c : Nat → Int) (w : World) (hn : n ≤ 1048576) (h0 : 0 < n) (hc : ∀ j, j < n → w.cell? ⟨b, off + j, none⟩ = some (.int .i64 (c j)))
    (hlo : ∀ j, j < n → -9223372036854775808 ≤ c j) (hhi : ∀ j, j < n → c j ≤ 9223372036854775807) (hb : b < w.heap.size) :
    Calls Yba.prog 3 #[.slice (some ⟨b, off, none⟩) n cap] w fun e w' => e = .returned (.bool true) ∧ Below w.heap.size w w' := by
  have hmk := mkp n hn
  have hne : ((n : Int) == 0) = false := beq_eq_false_iff_ne.2 (by omega)
  have HC := hide2 hc
  have HL := hide2 hlo
  have HH := hide2 hhi
  clear hc hlo hhi
  go_enter Yba.func3, Yba.ntmps3
  go_wp2
  go_loopw [31] (fun i wr => ∃ (m : Nat) (P : Nat → Nat), m ≤ n ∧ i = .int .i64 (m : Int) ∧ Below w.heap.size w wr ∧ w.heap.size + 1 ≤ wr.heap.size ∧ wr.rowIs w.heap.size 24 n (fun j => if j < m then ptr (P j) else .pointer none) ∧ ∀ j, j < m → IsInt wr (w.heap.size + 1) wr.heap.size (P j) (c j)) (fun i _ => n - (intOf i).toNat)
  case atStart => exact ⟨0, fun _ => 0, Nat.zero_le _, rfl, (Below.refl _ _).alloc (Nat.le_refl _) _, by simp, (World.rowIs_made w (.pointer none) n 24).congr fun i hi => by simp, fun j hj => by omega⟩
  case round =>
    obtain ⟨m, P, hm, rfl, hbl, hsz, r, hI⟩ := hrel
    by_cases hmn : m < n
    · have g0 : wr.cell? ⟨b, off + m, none⟩ = some (.int .i64 (c m)) := (hbl.cell (p := ⟨b, off + m, none⟩) hb).trans (HC.out m hmn)
      have HR := hide2 r
      have HI := hide2 hI
      have HB := hide2 hbl
      have k0 : wr.cell? ⟨w.heap.size, m, none⟩ = some (.pointer none) := (r.cell (i := m) hmn).trans (by rw [if_neg (by omega)])
      have f := r.frozen
      clear r hI hbl
      go_wp2_with (go_at_call 5; (refine (new_any (c m) _ (HL.out m hmn) (HH.out m hmn)).mono ?_; rintro e w2 ⟨p, rfl, hp, hb2⟩; have k1 := (hb2.cell (p := ⟨w.heap.size, m, none⟩) hsz).trans k0; have f1 := (World.frozen?_of_block (a := ⟨w.heap.size, m, none⟩) (hb2.block _ hsz)).trans (f m); have hs2 := hb2.size; have HP := hide2 hp; have HB2 := hide2 hb2; clear hp hb2))
      refine ⟨⟨m + 1, fun j => if j = m then p else P j, by omega, by go_num, (HB.out.trans (HB2.out.mono (by omega))).setCell (p := ⟨w.heap.size, m, none⟩) (Nat.le_refl _) _, by simp; omega, val_step (row_below HB2.out hsz HR.out), ?_⟩, ?_⟩
      · have e : (w2.setCell ⟨w.heap.size, m, none⟩ (.pointer (some ⟨p, 0, none⟩))).heap.size = w2.heap.size := by simp
        rw [e]
        intro j hj
        refine IsInt.setOther ?_ (by show w.heap.size < _; omega) _
        show IsInt w2 (w.heap.size + 1) w2.heap.size (if j = m then p else P j) (c j)
        by_cases hjm : j = m
        · rw [if_pos hjm, hjm]
          exact HP.out.mono hsz (Nat.le_refl _)
        · rw [if_neg hjm]
          exact ((HI.out j (by omega)).below HB2.out (Nat.le_refl _)).mono (Nat.le_refl _) hs2
      · simp [intOf]; omega
    · obtain rfl : m = n := by omega
      obtain ⟨w1, e1⟩ : ∃ w1, w1 = wr := ⟨_, rfl⟩
      subst e1
      have hcp := copyp m w1 w.heap.size P hsz (fun j hj => (r.cell (i := j) hj).trans (by rw [if_pos hj]))
      have HR := hide2 r
      have HI := hide2 hI
      have HB := hide2 hbl
      have g0 : w1.cell? ⟨b, off, none⟩ = some (.int .i64 (c 0)) := (hbl.cell (p := ⟨b, off, none⟩) hb).trans (HC.out 0 h0)
      have hb1 : b < w1.heap.size := by omega
      have HK0 : Kept b off m w.heap.size w1.heap.size (w1.heap.size + 1) (w.heap.size + 1) w1.heap.size P c ((w1.alloc (.cells ((List.range m).map fun j => ptr (P j)).toArray 24)).alloc (.cells #[.slice none 0 0, .slice none 0 0, .slice none 0 0, .slice (some ⟨w.heap.size, 0, none⟩) m m, .slice none 0 0, .pointer none] 31)) :=
        kept_start w1 hb1 hsz (fun j hj => (hbl.cell (p := ⟨b, off + j, none⟩) hb).trans (HC.out j hj)) (r.congr fun i hi => by rw [if_pos hi]) hI
      have hB2 : Below w.heap.size w ((w1.alloc (.cells ((List.range m).map fun j => ptr (P j)).toArray 24)).alloc (.cells #[.slice none 0 0, .slice none 0 0, .slice none 0 0, .slice (some ⟨w.heap.size, 0, none⟩) m m, .slice none 0 0, .pointer none] 31)) := (hbl.alloc (by omega) _).alloc (by simp; omega) _
      have hS2 : ((w1.alloc (.cells ((List.range m).map fun j => ptr (P j)).toArray 24)).alloc (.cells #[.slice none 0 0, .slice none 0 0, .slice none 0 0, .slice (some ⟨w.heap.size, 0, none⟩) m m, .slice none 0 0, .pointer none] 31)).heap.size = w1.heap.size + 2 := by simp
      clear r hI hbl HR HI HB HC
      have HK1 := hide2 HK0
      have HB1 := hide2 hB2
      have HS1 := hide2 hS2
      clear HK0 hB2 hS2
      go_wp2
      obtain ⟨w2, e2⟩ : ∃ w2, w2 = ((w1.alloc (.cells ((List.range m).map fun j => ptr (P j)).toArray 24)).alloc (.cells #[.slice none 0 0, .slice none 0 0, .slice none 0 0, .slice (some ⟨w.heap.size, 0, none⟩) m m, .slice none 0 0, .pointer none] 31)) := ⟨_, rfl⟩
      rw [← e2] at HK1 HB1 HS1
      rw [← e2]
      have hs2 := HS1.out
      clear e2 hcp g0 hmk
      go_loopw [8, 56] (fun v i wr => ∃ k : Nat, k ≤ m ∧ i = .int .i64 (k : Int) ∧ v = .int .i64 (mn c k) ∧ wr = w2) (fun _ i _ => m - (intOf i).toNat)
      case atStart => exact ⟨0, Nat.zero_le _, rfl, rfl, rfl⟩
      case round =>
        obtain ⟨k, hk, rfl, rfl, hw⟩ := hrel
        have hw' := hw.symm
        subst hw'
        clear hw
        by_cases hkm : k < m
        · have g := HK1.out.vals k hkm
          by_cases hlt : c k < mn c k
          · go_wp2
            go_roundw
            case rel => exact ⟨k + 1, by omega, by go_num, by rw [mn_lt hlt], trivial⟩
            case measure => simp [intOf]; omega
          · go_wp2
            go_roundw
            case rel => exact ⟨k + 1, by omega, by go_num, by rw [mn_ge hlt], trivial⟩
            case measure => simp [intOf]; omega
        · obtain rfl : m = k := by omega
          clear hkm hk
          go_wp2
          go_loopw [11, 67] (fun v i wr => ∃ k : Nat, k ≤ m ∧ i = .int .i64 (k : Int) ∧ v = .int .i64 (cnt c (mn c m) k : Int) ∧ wr = w2) (fun _ i _ => m - (intOf i).toNat)
          case atStart => exact ⟨0, Nat.zero_le _, rfl, rfl, rfl⟩
          case round =>
            obtain ⟨k, hk, rfl, rfl, hw⟩ := hrel
            have hw' := hw.symm
            subst hw'
            clear hw
            have hcl := cnt_le c (mn c m) k
            by_cases hkm : k < m
            · have g := HK1.out.vals k hkm
              by_cases hlt : c k = mn c m
              · have hlt' : (c k == mn c m) = true := beq_iff_eq.2 hlt
                go_wp2
                go_roundw
                case rel => exact ⟨k + 1, by omega, by go_num, by rw [cnt, if_pos hlt]; go_num, trivial⟩
                case measure => simp [intOf]; omega
              · have hlt' : (c k == mn c m) = false := beq_eq_false_iff_ne.2 hlt
                go_wp2
                go_roundw
                case rel => exact ⟨k + 1, by omega, by go_num, by rw [cnt, if_neg hlt]; rfl, trivial⟩
                case measure => simp [intOf]; omega
            · obtain rfl : m = k := by omega
              clear hkm hk
              go_wp2_with fail
              refine (least_any (w1.heap.size + 1) w.heap.size m (w.heap.size + 1) w1.heap.size P c w2 hn h0 HK1.out.box (fun j hj => HK1.out.value.cell hj) HK1.out.ints (by omega)).mono ?_
              rintro e w3 ⟨Z, rfl, hIZ, hb3⟩
              rw [ct_cnt]
              have hs3 := hb3.size
              have HB3 : Hid (Below w.heap.size w w3) := HB1.out.trans (hb3.mono HB1.out.size)
              have HK3 := hide2 (HK1.out.below hb3 (by omega) (by omega) (by omega) (by omega) (by omega))
              have HZ3 := hide2 hIZ
              have hZlt := hIZ.1
              clear hb3 hIZ
              obtain ⟨j0, hj0, emn⟩ := mn_at c m h0 m (Nat.le_refl _)
              have HM : Hid (-9223372036854775808 ≤ mn c m ∧ mn c m ≤ 9223372036854775807) := by
                rw [emn]
                exact ⟨HL.out j0 hj0, HH.out j0 hj0⟩
              clear emn
              go_wp2_with (first
                | (go_at_call 5; (refine (new_any (mn c m) _ HM.out.1 HM.out.2).mono ?_; rintro e w4 ⟨p, rfl, hp, hb4⟩; have HP := hide2 hp; have HB4 := hide2 hb4; have hs4 := hb4.size; clear hp hb4))
                | (go_at_call 7; (refine (cmp_any Z _ _ _ _ _ (mn c m) (mn c m) _ (HZ3.out.below HB4.out (Nat.le_refl _)) HP.out (fun _ => rfl)).mono ?_; rw [cmpI_eq rfl]; rintro e w5 ⟨rfl, q5, rfl⟩)))
              obtain ⟨w5, e5⟩ : ∃ w5, w5 = w4.drewN q5 := ⟨_, rfl⟩
              have HK5 : Hid (Kept b off m w.heap.size w1.heap.size (w1.heap.size + 1) (w.heap.size + 1) w1.heap.size P c w5) := by
                rw [e5]
                exact HK3.out.below (below_drewN HB4.out q5) (by omega) (by omega) (by omega) (by omega) (by omega)
              have HB5 : Hid (Below w.heap.size w w5) := by
                rw [e5]
                exact below_drewN (HB3.out.trans (HB4.out.mono (by omega))) q5
              have HZ5 : Hid (IsInt w5 w2.heap.size w3.heap.size Z (mn c m)) := by
                rw [e5]
                exact HZ3.out.below (below_drewN HB4.out q5) (Nat.le_refl _)
              have hs5 : w3.heap.size ≤ w5.heap.size := by
                rw [e5]
                simpa using hs4
              rw [← e5]
              clear e5 HK3 HB3 HZ3 HB4 HP hs4 HK1 HB1
              go_loopw [98] (fun i wr => ∃ k : Nat, k ≤ m ∧ i = .int .i64 (k : Int) ∧ wr = w5) (fun i _ => m - (intOf i).toNat)
              case atStart => exact ⟨0, Nat.zero_le _, rfl, rfl⟩
              case round =>
                obtain ⟨k, hk, rfl, hw⟩ := hrel
                have hw' := hw.symm
                subst hw'
                clear hw
                by_cases hkm : k < m
                · have g : w5.cell? ⟨w1.heap.size, k, none⟩ = some (.pointer (some ⟨P k, 0, none⟩)) := HK5.out.ptrs.cell hkm
                  have q : (binOp .eql 24 (.pointer (some ⟨Z, 0, none⟩)) (.pointer (some ⟨P k, 0, none⟩))).run Yba.prog w5 = .ok (.bool false) w5 := by
                    obtain ⟨_, _, v1, r1, _⟩ := HZ5.out
                    obtain ⟨_, hlt, v2, r2, _⟩ := HK5.out.ints k hkm
                    exact eql_other (by omega) r1 r2
                  go_wp2
                  go_roundw
                  case rel => exact ⟨k + 1, by omega, by go_num, trivial⟩
                  case measure => simp [intOf]; omega
                · obtain rfl : m = k := by omega
                  clear hkm hk
                  go_wp2_with fail
                  refine (new_any 1 w5 (by omega) (by omega)).mono ?_
                  rintro e w6 ⟨p, rfl, hp, hb6⟩
                  have hs6 := hb6.size
                  have HP := hide2 hp
                  have HB6 := hide2 hb6
                  clear hp hb6
                  go_wp2_with fail
                  refine (add_any w2.heap.size w3.heap.size w5.heap.size w6.heap.size Z p (mn c m) w6 (HZ5.out.below HB6.out hs5) HP.out HM.out.2 HM.out.1).mono ?_
                  rintro e w7 ⟨⟨v7, rfl⟩, hb7⟩
                  have hs7 := hb7.size
                  have HB7 : Hid (Below w2.heap.size w5 w7) := (HB6.out.mono (by omega)).trans hb7
                  have HK7 : Hid (Kept b off m w.heap.size w1.heap.size (w1.heap.size + 1) (w.heap.size + 1) w1.heap.size P c w7) := HK5.out.below HB7.out (by omega) (by omega) (by omega) (by omega) (by omega)
                  have HB8 : Hid (Below w.heap.size w w7) := HB5.out.trans (HB7.out.mono (by omega))
                  have bx := HK7.out.box
                  clear hb7 HB6 HP HB5 HK5 HZ5 HB7
                  go_wp2
                  go_loopw [122] (fun i wr => ∃ k : Nat, k ≤ m ∧ i = .int .i64 (k : Int) ∧ Keeps5 b off m w.heap.size w1.heap.size (w1.heap.size + 1) (w.heap.size + 1) w1.heap.size P c w wr) (fun i _ => m - (intOf i).toNat)
                  case atStart => exact ⟨0, Nat.zero_le _, rfl, HB8.out, HK7.out, by omega⟩
                  case round =>
                    clear HB8 HK7 bx
                    obtain ⟨k, hk, rfl, hK⟩ := hrel
                    have HKK := hide2 hK
                    by_cases hkm : k < m
                    · have HLk := hide2 (And.intro (HL.out k hkm) (HH.out k hkm))
                      have g0 := hK.2.1.box
                      have g1 : wr.cell? ⟨w.heap.size, k, none⟩ = some (.pointer (some ⟨P k, 0, none⟩)) := hK.2.1.value.cell hkm
                      have g2 : wr.cell? ⟨w1.heap.size, k, none⟩ = some (.pointer (some ⟨P k, 0, none⟩)) := hK.2.1.ptrs.cell hkm
                      have g3 := hK.2.1.vals k hkm
                      have q := neq_same (P k)
                      have i0 : (0 : Int) ≤ (k : Int) := by omega
                      have i1 : (k : Int) < (m : Int) := by omega
                      go_wp2_with fail
                      go_region_held3 (fun w' => w'.cell? ⟨w1.heap.size + 1, 3, none⟩ = some (.slice (some ⟨w.heap.size, 0, none⟩) m m) ∧ w'.cell? ⟨w.heap.size, k, none⟩ = some (.pointer (some ⟨P k, 0, none⟩)) ∧ w'.cell? ⟨w1.heap.size, k, none⟩ = some (.pointer (some ⟨P k, 0, none⟩)) ∧ w'.cell? ⟨b, off + k, none⟩ = some (.int .i64 (c k)) ∧ Keeps5 b off m w.heap.size w1.heap.size (w1.heap.size + 1) (w.heap.size + 1) w1.heap.size P c w w')
                        (first | exact held5_step hb1 hsz hkm (by assumption) (by assumption) | exact held5_drew hkm (by assumption) | exact held5_of hkm (by assumption))
                        (first
                          | (go_at_call 5; (refine (new_any (c k) _ HLk.out.1 HLk.out.2).mono ?_; rintro e w8 ⟨p8, rfl, hp8, hb8⟩))
                          | (go_at_call 7; (refine (cmp_below (P k) _ _ _ _ _ (c k) (c k) _ (held5_int (b := b) (off := off) (n := m) (V := w.heap.size) (T := w1.heap.size) (R := w1.heap.size + 1) (lo := w.heap.size + 1) (hi := w1.heap.size) (P := P) (c := c) (k := k) (w := w) hkm (by assumption)) (by assumption) (fun _ => rfl)).mono ?_; rw [cmpI_eq rfl]; rintro e w9 ⟨rfl, hb9⟩)))
                      have HF := hide2 (held5_last (b := b) (off := off) (n := m) (V := w.heap.size) (T := w1.heap.size) (R := w1.heap.size + 1) (lo := w.heap.size + 1) (hi := w1.heap.size) (P := P) (c := c) (k := k) (w := w) (by assumption))
                      clear hb8 hb9 hp8
                      go_wp2
                      go_roundw
                      case rel => exact ⟨k + 1, by omega, by go_num, HF.out⟩
                      case measure => simp [intOf]; omega
                    · clear hK
                      go_wp2
                      go_ret
                      exact ⟨rfl, HKK.out.1⟩

theorem law_short (a : Option Addr) (cap : Nat) (w : World) :
    Calls Yba.prog 3 #[.slice a 0 cap] w fun e w' => e = .returned (.bool true) ∧ Below w.heap.size w w' := by
  go_enter Yba.func3, Yba.ntmps3
  go_wp2
  go_ret
  exact ⟨rfl, Below.refl _ _⟩
theorem law_long (a : Option Addr) (n cap : Nat) (w : World) (hn : 1048576 < n) (hm : n ≤ 9223372036854775807) :
    Calls Yba.prog 3 #[.slice a n cap] w fun e w' => e = .returned (.bool true) ∧ Below w.heap.size w w' := by
  have hne : ((n : Int) == 0) = false := beq_eq_false_iff_ne.2 (by omega)
  go_enter Yba.func3, Yba.ntmps3
  go_wp2
  go_ret
  exact ⟨rfl, Below.refl _ _⟩
end Go.Proofs.Ybulkfgra.lawS7904BWhole
