/-
  THE WALK of 'LawS7902AWhole'.
-/
import Derived.Test.YbulkfgpyStr
import Derived.Test.YbulkfgpyShelf
import Derived.BigQuiet
import Derived.Deep.QuietTactic
import Derived.Deep.RegionHeld3
import Derived.Deep.RegionWith
import Derived.Lib.BufSteps
import Derived.Lib.BufferRead
namespace Go.Proofs.Ybulkfgpy.lawS7902AWhole
open Go.ChangeShapes Go.WideShapes Go.ChangeAt Go.RowKit
theorem info5 : (Yba.prog.info? 5).map (fun i => (i.zero, i.size, i.bytes)) = some (some (.int .u8 0), 1, 1) := by kernel_rfl
theorem row_below {w w' : World} {K b t n : Nat} {f : Nat → Value} (hb : Below K w w') (hlt : b < K) (h : w.rowIs b t n f) : w'.rowIs b t n f := h.of_block (hb.block b hlt)
theorem hide2 {p : Prop} (h : p) : Hid p := h
theorem info27 : (Yba.prog.info? 27).map (fun i => (i.zero, i.size, i.bytes)) = some (some (.agg #[.string ⟨#[]⟩, .string ⟨#[]⟩]), 2, 32) := by kernel_rfl
theorem made_fld (n i : Nat) (hi : i < n) : (madeCells #[.string ⟨#[]⟩, .string ⟨#[]⟩] n)[i]? = some (.string ⟨#[]⟩) := by
  have h4 : i % 2 < 2 := Nat.mod_lt _ (by omega)
  simp only [madeCells, List.size_toArray, List.length_cons, List.length_nil]
  rw [Array.getElem?_map, Array.getElem?_range]
  simp only [hi, if_true, Option.map_some]
  congr 1
  generalize i % 2 = r at h4
  match r, h4 with
  | 0, _ => rfl
  | 1, _ => rfl
/-- 'make([]field, n)' -/
theorem run_make25 (n : Nat) (hn : n ≤ 1048576) (w : World) :
    (Instr.makeSlice 25 (.int .i64 (n : Int)) (.int .i64 (n : Int))).run Yba.prog w = .ok (.slice (some ⟨w.heap.size, 0, none⟩) n n) (w.alloc (.cells (madeCells #[.string ⟨#[]⟩, .string ⟨#[]⟩] (n * 2)) 27)) := by
  obtain ⟨i, hi, hz0, hz1, hz2⟩ := info_parts info27
  have h := run_make (P := Yba.prog) w 25 27 i (.agg #[.string ⟨#[]⟩, .string ⟨#[]⟩]) Yba.underlying25 hi hz0 .i64 .i64 (n : Int) (n : Int) (by omega) (by omega) (by rw [hz2]; omega) (by omega)
  rw [h]
  simp [hz1, Value.cells]
theorem row_new25 (w : World) (n : Nat) : (w.alloc (.cells (madeCells #[.string ⟨#[]⟩, .string ⟨#[]⟩] (n * 2)) 27)).rowIs w.heap.size 27 (n * 2) (fun _ => .string ⟨#[]⟩) := by
  have h := World.rowIs_alloc w (madeCells #[.string ⟨#[]⟩, .string ⟨#[]⟩] (n * 2)) 27 (fun _ => .string ⟨#[]⟩) (fun i hi => made_fld _ i (by rwa [size_madeCells] at hi))
  rwa [size_madeCells] at h
/-- the copy's cell j -/
def cellAt (na va : Nat → ByteArray) (j : Nat) : Value := if j % 2 = 0 then .string (na (j / 2)) else .string (va (j / 2))
theorem cellAt_even (na va : Nat → ByteArray) (m : Nat) : cellAt na va (m * 2) = .string (na m) := by
  have h : m * 2 % 2 = 0 := by omega
  have h' : m * 2 / 2 = m := by omega
  rw [cellAt, if_pos h, h']
theorem cellAt_odd (na va : Nat → ByteArray) (m : Nat) : cellAt na va (m * 2 + 1) = .string (va m) := by
  have h : ¬ (m * 2 + 1) % 2 = 0 := by omega
  have h' : (m * 2 + 1) / 2 = m := by omega
  rw [cellAt, if_neg h, h']
theorem copy_step {w : World} {B n m : Nat} {na va : Nat → ByteArray} (h : w.rowIs B 27 (n * 2) (fun j => if j < m * 2 then cellAt na va j else .string ⟨#[]⟩)) :
    ((w.setCell ⟨B, m * 2, none⟩ (.string (na m))).setCell ⟨B, m * 2 + 1, none⟩ (.string (va m))).rowIs B 27 (n * 2) (fun j => if j < (m + 1) * 2 then cellAt na va j else .string ⟨#[]⟩) := by
  refine ((h.set (m * 2) _).set (m * 2 + 1) _).congr fun i _ => ?_
  by_cases h1 : i = m * 2 + 1
  · subst h1; rw [if_pos rfl, if_pos (by omega), cellAt_odd]
  · by_cases h0 : i = m * 2
    · subst h0; rw [if_neg (by omega), if_pos rfl, if_pos (by omega), cellAt_even]
    · simp only [h1, h0, if_false]
      by_cases hl : i < m * 2
      · rw [if_pos hl, if_pos (by omega)]
      · rw [if_neg hl, if_neg (by omega)]

theorem tot {na va : Nat → ByteArray} {m : Nat} (hS : S na va m ≤ 1048576) (h0 : (na m).size ≤ 140737488355328) (h1 : (va m).size ≤ 140737488355328) :
    wrap64 (↑(S na va m) + wrap64 (wrap64 (↑(na m).size + ↑(va m).size) + 2)) = ((S na va (m + 1) : Nat) : Int) := by
  rw [S_succ]
  unfold wrap64
  omega

/-- (*Record).String of a record with at least one field -/
theorem str_G (R B n : Nat) (na va : Nat → ByteArray) (w : World) (hn : n ≤ 524288) (h0 : 0 < n) (hS : S na va n ≤ 1048576) (hf : w.cell? ⟨R, 1, none⟩ = some (.slice (some ⟨B, 0, none⟩) n n)) (hr : w.rowIs B 27 (n * 2) (cellAt na va)) (hR : R < w.heap.size) :
    Calls Yba.prog 4 #[.pointer (some ⟨R, 0, none⟩)] w fun e w' => e = .returned (.string ⟨(G na va n).toArray⟩) ∧ Below w.heap.size w w' := by
  refine str_pos R B n na va ⟨(G na va n).toArray⟩ w (by omega) h0 hf (fun j hj => (hr.cell (i := j * 2) (by omega)).trans (by rw [cellAt_even])) (fun j hj => (hr.cell (i := j * 2 + 1) (by omega)).trans (by rw [cellAt_odd])) (fun j hj => ?_) hR hr.lt (fun w' h => ?_)
  · have a2 := S_mono na va (m := j + 1) (n := n) (by omega)
    rw [S_succ] at a2
    omega
  · have hx : ((List.range n).map (word na va)).length = n := by simp
    have hj : Lib.join (((List.range n).map (word na va)).map (·.data.toList)) [32] = G na va n := by
      rw [List.map_map]
      exact join_G na va n
    have hl := G_len na va n
    have c := Yba.strings_Join w.heap.size 0 n ((List.range n).map (word na va)) ⟨#[32]⟩ w' (fun j x hjx => by
      have hjn : j < n := by
        have := (List.getElem?_eq_some_iff.1 hjx).1
        simpa using this
      rw [List.getElem?_map, List.getElem?_range hjn, Option.map_some, Option.some.injEq] at hjx
      subst hjx
      rw [Nat.zero_add]
      exact h.cell hjn) h.lt (by rw [hx]; omega) (by rw [hx]; omega) (by
        show (Lib.join (((List.range n).map (word na va)).map (·.data.toList)) [32]).length ≤ _
        rw [hj]; omega)
    rw [hx] at c
    refine c.mono fun e w'' ⟨he, hb⟩ => ⟨?_, hb⟩
    rw [he]
    show Ending.returned (.string ⟨(Lib.join (((List.range n).map (word na va)).map (·.data.toList)) [32]).toArray⟩) = _
    rw [hj]
/-- .. with none -/
theorem str_E (R : Nat) (a : Option Addr) (w : World) (hf : w.cell? ⟨R, 1, none⟩ = some (.slice a 0 0)) (hR : R < w.heap.size) :
    Calls Yba.prog 4 #[.pointer (some ⟨R, 0, none⟩)] w fun e w' => e = .returned (.string ⟨#[]⟩) ∧ Below w.heap.size w w' :=
  str_none R a w hf hR (fun w' a c => Yba.strings_Join_none a c _ w')
theorem buf_pos {na va : Nat → ByteArray} {m B : Nat} {v : Value} {W0 w : World} (h0 : 0 < m) (h : Lib.OwnBuf B 5 v ((G na va m).length + 1 + (na m).size + 1 + (va m).size) (Lib.byteCells (G na va m) ++ [Value.int IntKind.u8 32] ++ Lib.strCells (na m) ++ [Value.int IntKind.u8 61] ++ Lib.strCells (va m)) W0 w) :
    Lib.OwnBuf B 5 v (G na va (m + 1)).length (Lib.byteCells (G na va (m + 1))) W0 w := by
  have e1 : (G na va m).length + 1 + (na m).size + 1 + (va m).size = (G na va (m + 1)).length := by
    simp [G, h0]; omega
  have e2 : Lib.byteCells (G na va m) ++ [Value.int IntKind.u8 32] ++ Lib.strCells (na m) ++ [Value.int IntKind.u8 61] ++ Lib.strCells (va m) = Lib.byteCells (G na va (m + 1)) := by
    simp [G, h0, Lib.byteCells, Lib.strCells]
  rw [← e1, ← e2]
  exact h
theorem buf_zero {na va : Nat → ByteArray} {m B : Nat} {v : Value} {W0 w : World} (h0 : ¬ 0 < m) (h : Lib.OwnBuf B 5 v ((G na va m).length + (na m).size + 1 + (va m).size) (Lib.byteCells (G na va m) ++ Lib.strCells (na m) ++ [Value.int IntKind.u8 61] ++ Lib.strCells (va m)) W0 w) :
    Lib.OwnBuf B 5 v (G na va (m + 1)).length (Lib.byteCells (G na va (m + 1))) W0 w := by
  have e1 : (G na va m).length + (na m).size + 1 + (va m).size = (G na va (m + 1)).length := by
    simp [G, h0]; omega
  have e2 : Lib.byteCells (G na va m) ++ Lib.strCells (na m) ++ [Value.int IntKind.u8 61] ++ Lib.strCells (va m) = Lib.byteCells (G na va (m + 1)) := by
    simp [G, h0, Lib.byteCells, Lib.strCells]
  rw [← e1, ← e2]
  exact h
theorem buf_string {l : List UInt8} {B : Nat} {v : Value} {W0 w : World} (h : Lib.OwnBuf B 5 v l.length (Lib.byteCells l) W0 w) :
    (convert 32 9 v).run Yba.prog w = .ok (.string ⟨l.toArray⟩) w := by
  rcases h.1.2 with ⟨rfl, hn⟩ | ⟨g, cap, cur, fz, rfl, hb, hg, hfz, hnc, hcm, hcs, htk⟩
  · obtain rfl : l = [] := List.length_eq_zero_iff.1 hn
    exact Lib.run_convert_nil_bytes w 32 9 5 0 Yba.underlying32 Yba.underlying5 Yba.underlying9
  · exact run_convert_bytes_back w 32 9 5 ⟨g, 0, none⟩ cap l Yba.underlying32 Yba.underlying5 Yba.underlying9 (Lib.bytes_of_row hg (by simpa using htk))

set_option maxHeartbeats 1000000 in
set_option maxRecDepth 20000 in
theorem law_pos (line : Int) (b off n cap : Nat) (na va : Nat → ByteArray) (w : World) (hn : n ≤ 140737488355328) (h0 : 0 < n)
    (hc0 : ∀ j, j < n → w.cell? ⟨b, off + j * 2, none⟩ = some (.string (na j))) (hc1 : ∀ j, j < n → w.cell? ⟨b, off + j * 2 + 1, none⟩ = some (.string (va j)))
    (hz0 : ∀ j, j < n → (na j).size ≤ 140737488355328) (hz1 : ∀ j, j < n → (va j).size ≤ 140737488355328) (hb : b < w.heap.size) :
    Calls Yba.prog 3 #[.int .i64 line, .slice (some ⟨b, off, none⟩) n cap] w fun e w' => e = .returned (.bool true) ∧ Below w.heap.size w w' := by
  have q22 : ∀ (w : World) (a : Option Addr) (n c n' c' : Nat), (binOp .neq 22 (.slice a n c) (.slice none n' c')).run Yba.prog w = .ok (.bool (!a.isNone)) w := fun w a n c n' c' => run_neq_slice_nil_any w 22 _ a n c n' c' Yba.underlying22
  go_enter Yba.func3, Yba.ntmps3
  go_wp2
  go_loopw [5, 6] (fun t i wr => ∃ m : Nat, m ≤ n ∧ i = .int .i64 (m : Int) ∧ t = .int .i64 (S na va m : Int) ∧ S na va m ≤ 1048576 ∧ Below w.heap.size w wr) (fun _ i _ => n - (intOf i).toNat)
  case atStart => exact ⟨0, Nat.zero_le _, rfl, rfl, by simp [S], Below.refl _ _⟩
  case round =>
    obtain ⟨m, hm, rfl, rfl, hS, hbl⟩ := hrel
    by_cases hmn : m < n
    · have g0 : wr.cell? ⟨b, off + m * 2, none⟩ = some (.string (na m)) := (hbl.cell (p := ⟨b, off + m * 2, none⟩) hb).trans (hc0 m hmn)
      have g1 : wr.cell? ⟨b, off + m * 2 + 1, none⟩ = some (.string (va m)) := (hbl.cell (p := ⟨b, off + m * 2 + 1, none⟩) hb).trans (hc1 m hmn)
      have z0 := hz0 m hmn
      have z1 := hz1 m hmn
      have i0 : (0 : Int) ≤ (m : Int) := by omega
      have i1 : (m : Int) < (n : Int) := by omega
      have HB : Hid (Below w.heap.size w wr) := hbl
      clear hbl hc0 hc1 hz0 hz1 q22
      have HZ : Hid ((na m).size ≤ 140737488355328 ∧ (va m).size ≤ 140737488355328) := ⟨z0, z1⟩
      clear z0 z1
      go_wp2_with fail
      go_quiet (fail)
      go_wp2
      · go_ret
        exact ⟨rfl, below_drewN HB.out _⟩
      · have ht := tot hS HZ.out.1 HZ.out.2
        rename_i hle
        rw [ht] at hle
        refine ⟨⟨m + 1, by omega, by go_num, by rw [ht], by omega, below_drewN HB.out _⟩, ?_⟩
        simp [intOf]; omega
    · obtain rfl : m = n := by omega
      have hn2 : m ≤ 524288 := by have := S_ge na va m; omega
      have HS : Hid (S na va m ≤ 1048576) := hS
      have HB1 : Hid (Below w.heap.size w wr) := hbl
      have hs1 := hbl.size
      have hc0' : ∀ j, j < m → wr.cell? ⟨b, off + j * 2, none⟩ = some (.string (na j)) := fun j hj => (hbl.cell (p := ⟨b, off + j * 2, none⟩) hb).trans (hc0 j hj)
      have hc1' : ∀ j, j < m → wr.cell? ⟨b, off + j * 2 + 1, none⟩ = some (.string (va j)) := fun j hj => (hbl.cell (p := ⟨b, off + j * 2 + 1, none⟩) hb).trans (hc1 j hj)
      have hb1 : b < wr.heap.size := by omega
      have C0 := hide2 hc0'
      have C1 := hide2 hc1'
      clear hc0 hc1 hc0' hc1' hz0 hz1 hbl hS hm hn hmn
      have hmk := run_make25 m (by omega)
      obtain ⟨w1, e1⟩ : ∃ w1, w1 = wr := ⟨_, rfl⟩
      subst e1
      go_wp2
      go_loopw [8] (fun i wr => ∃ k : Nat, k ≤ m ∧ i = .int .i64 (k : Int) ∧ Below w1.heap.size w1 wr ∧ wr.rowIs w1.heap.size 27 (m * 2) (fun j => if j < k * 2 then cellAt na va j else .string ⟨#[]⟩)) (fun i _ => m - (intOf i).toNat)
      case atStart => exact ⟨0, Nat.zero_le _, rfl, (Below.refl _ _).alloc (Nat.le_refl _) _, (row_new25 w1 m).congr fun i hi => by simp⟩
      case round =>
        obtain ⟨k, hk, rfl, hbl, r⟩ := hrel
        have hsz := r.lt
        have f := r.frozen
        have HB : Hid (Below w1.heap.size w1 wr) := hbl
        by_cases hkn : k < m
        · have g0 : wr.cell? ⟨b, off + k * 2, none⟩ = some (.string (na k)) := (hbl.cell (p := ⟨b, off + k * 2, none⟩) hb1).trans (C0.out k hkn)
          have g1 : wr.cell? ⟨b, off + k * 2 + 1, none⟩ = some (.string (va k)) := (hbl.cell (p := ⟨b, off + k * 2 + 1, none⟩) hb1).trans (C1.out k hkn)
          have k0 : wr.cell? ⟨w1.heap.size, k * 2, none⟩ = some (.string ⟨#[]⟩) := (r.cell (i := k * 2) (by omega)).trans (by rw [if_neg (by omega)])
          have k1 : wr.cell? ⟨w1.heap.size, k * 2 + 1, none⟩ = some (.string ⟨#[]⟩) := (r.cell (i := k * 2 + 1) (by omega)).trans (by rw [if_neg (by omega)])
          have RR : Hid (wr.rowIs w1.heap.size 27 (m * 2) (fun j => if j < k * 2 then cellAt na va j else .string ⟨#[]⟩)) := r
          have i0 : (0 : Int) ≤ (k : Int) := by omega
          have i1 : (k : Int) < (m : Int) := by omega
          clear r hbl
          go_wp2_with fail
          go_region
          go_wp2
          refine ⟨⟨k + 1, by omega, by go_num, ((HB.out.setCell (Nat.le_refl _) _).setCell (Nat.le_refl _) _).drew, (copy_step RR.out).drew⟩, ?_⟩
          simp [intOf]; omega
        · obtain rfl : k = m := by omega
          have RR : Hid (wr.rowIs w1.heap.size 27 (k * 2) (cellAt na va)) := r.congr fun i hi => by rw [if_pos hi]
          have hb2 : b < wr.heap.size := by omega
          have D0 : Hid (∀ j, j < k → wr.cell? ⟨b, off + j * 2, none⟩ = some (.string (na j))) := fun j hj => (hbl.cell (p := ⟨b, off + j * 2, none⟩) hb1).trans (C0.out j hj)
          have D1 : Hid (∀ j, j < k → wr.cell? ⟨b, off + j * 2 + 1, none⟩ = some (.string (va j))) := fun j hj => (hbl.cell (p := ⟨b, off + j * 2 + 1, none⟩) hb1).trans (C1.out j hj)
          have BB : Hid (Below w.heap.size w wr) := HB1.out.trans (hbl.mono hs1)
          clear r hbl f C0 C1 HB HB1
          obtain ⟨w2, e2⟩ : ∃ w2, w2 = wr := ⟨_, rfl⟩
          subst e2
          go_wp2_with fail
          refine (str_G w2.heap.size w1.heap.size k na va _ hn2 h0 HS.out (World.cell?_alloc_at _ _ _ 1 rfl) (RR.out.alloc _) (by simp)).mono ?_
          rintro e w3 ⟨rfl, hb3'⟩
          have hb3 : Below (w2.heap.size + 1) (w2.alloc (.cells #[.int .i64 line, .slice (some ⟨w1.heap.size, 0, none⟩) k k] 30)) w3 := by simpa using hb3'
          have hs3 : w2.heap.size + 1 ≤ w3.heap.size := by simpa using hb3.size
          have BB3 : Hid (Below w.heap.size w w3) := (BB.out.alloc (by omega) _).trans (hb3.mono (by omega))
          have R3 : Hid (w3.rowIs w1.heap.size 27 (k * 2) (cellAt na va)) := row_below hb3 (by omega) (RR.out.alloc _)
          have L3 : Hid (w3.cell? ⟨w2.heap.size, 0, none⟩ = some (.int .i64 line)) := (hb3.cell (p := ⟨w2.heap.size, 0, none⟩) (by simp)).trans (World.cell?_alloc_at _ _ _ 0 rfl)
          have F3 : Hid (w3.cell? ⟨w2.heap.size, 1, none⟩ = some (.slice (some ⟨w1.heap.size, 0, none⟩) k k)) := (hb3.cell (p := ⟨w2.heap.size, 1, none⟩) (by simp)).trans (World.cell?_alloc_at _ _ _ 1 rfl)
          have E0 : Hid (∀ j, j < k → w3.cell? ⟨b, off + j * 2, none⟩ = some (.string (na j))) := fun j hj => (hb3.cell (p := ⟨b, off + j * 2, none⟩) (by show b < _; omega)).trans ((World.cell?_alloc_past _ _ _ hb2).trans (D0.out j hj))
          have E1 : Hid (∀ j, j < k → w3.cell? ⟨b, off + j * 2 + 1, none⟩ = some (.string (va j))) := fun j hj => (hb3.cell (p := ⟨b, off + j * 2 + 1, none⟩) (by show b < _; omega)).trans ((World.cell?_alloc_past _ _ _ hb2).trans (D1.out j hj))
          have hbw3 : b < w3.heap.size := by omega
          clear RR D0 D1 BB hb3' hb3
          obtain ⟨i5, hi5, hz50, hz51, hz52⟩ := info_parts info5
          go_wp2
          go_loopw [11, 12] (fun v i wr => ∃ m : Nat, m ≤ k ∧ i = .int .i64 (m : Int) ∧ Lib.OwnBuf w3.heap.size 5 v (G na va m).length (Lib.byteCells (G na va m)) w3 wr) (fun _ i _ => k - (intOf i).toNat)
          case atStart => exact ⟨0, Nat.zero_le _, rfl, World.ownsRowF_nil _ _ _ _, Below.refl _ _, Nat.le_refl _⟩
          case round =>
            obtain ⟨m, hm, rfl, ho⟩ := hrel
            by_cases hmk : m < k
            · have hG : (G na va m).length + (na m).size + (va m).size + 2 ≤ 1048576 := by
                have a1 := G_len na va m
                have a2 := S_mono na va (m := m + 1) (n := k) (by omega)
                have a3 := HS.out
                rw [S_succ] at a2
                omega
              have g0 : wr.cell? ⟨b, off + m * 2, none⟩ = some (.string (na m)) := (ho.2.1.cell (p := ⟨b, off + m * 2, none⟩) hbw3).trans (E0.out m hmk)
              have HG := hide2 hG
              clear hG
              go_wp2_with (at_builtin; first
                  | (refine Lib.wpList_append_byte rfl _ _ 32 rfl w3.heap.size 5 i5 Yba.underlying32 hi5 hz50 hz51 hz52 _ _ _ rfl w3 _ _ (by assumption) rfl (by have := HG.out; omega) ?_; intro v' w' hb'; have q0 := (hb'.2.1.cell (p := ⟨b, off + m * 2, none⟩) hbw3).trans (E0.out m hmk); have q1 := (hb'.2.1.cell (p := ⟨b, off + m * 2 + 1, none⟩) hbw3).trans (E1.out m hmk))
                  | (refine Lib.wpList_append_text rfl _ _ 32 9 rfl w3.heap.size 5 i5 Yba.underlying32 Yba.underlying9 hi5 hz50 hz51 hz52 _ _ _ rfl w3 (by assumption) _ rfl (by have := HG.out; omega) ?_; intro v' w' hb'; have q0 := (hb'.2.1.cell (p := ⟨b, off + m * 2, none⟩) hbw3).trans (E0.out m hmk); have q1 := (hb'.2.1.cell (p := ⟨b, off + m * 2 + 1, none⟩) hbw3).trans (E1.out m hmk)))
              · refine ⟨⟨m + 1, by omega, by go_num, buf_pos (by assumption) (by assumption)⟩, ?_⟩
                simp [intOf]; omega
              · refine ⟨⟨m + 1, by omega, by go_num, buf_zero (by assumption) (by assumption)⟩, ?_⟩
                simp [intOf]; omega
            · obtain rfl : m = k := by omega
              have hcv := buf_string ho
              have HB : Hid (Below w3.heap.size w3 wr) := ho.2.1
              have l4 := (HB.out.cell (p := ⟨w2.heap.size, 0, none⟩) (by show w2.heap.size < _; omega)).trans L3.out
              have f4 := (HB.out.cell (p := ⟨w2.heap.size, 1, none⟩) (by show w2.heap.size < _; omega)).trans F3.out
              have hs4 := HB.out.size
              clear ho L3 F3
              obtain ⟨w4, e4⟩ : ∃ w4, w4 = wr := ⟨_, rfl⟩
              subst e4
              go_wp2
              go_loopw [13] (fun i wr => ∃ q : Nat, q ≤ m ∧ i = .int .i64 (q : Int) ∧ Below w3.heap.size w3 wr ∧ wr.cell? ⟨w2.heap.size, 1, none⟩ = some (.slice (some ⟨w1.heap.size, 0, none⟩) m m)) (fun i _ => m - (intOf i).toNat)
              case atStart => exact ⟨0, Nat.zero_le _, rfl, HB.out, f4⟩
              case round =>
                clear HB l4 f4 hs4 hcv
                obtain ⟨q, hq, rfl, hbl, f5⟩ := hrel
                have HB : Hid (Below w3.heap.size w3 wr) := hbl
                have F5 := hide2 f5
                by_cases hqm : q < m
                · have g0 : wr.cell? ⟨b, off + q * 2, none⟩ = some (.string (na q)) := (hbl.cell (p := ⟨b, off + q * 2, none⟩) hbw3).trans (E0.out q hqm)
                  have g1 : wr.cell? ⟨b, off + q * 2 + 1, none⟩ = some (.string (va q)) := (hbl.cell (p := ⟨b, off + q * 2 + 1, none⟩) hbw3).trans (E1.out q hqm)
                  have k0 : wr.cell? ⟨w1.heap.size, q * 2, none⟩ = some (.string (na q)) := (hbl.cell (p := ⟨w1.heap.size, q * 2, none⟩) (by show w1.heap.size < _; omega)).trans ((R3.out.cell (i := q * 2) (by omega)).trans (by rw [cellAt_even]))
                  have k1 : wr.cell? ⟨w1.heap.size, q * 2 + 1, none⟩ = some (.string (va q)) := (hbl.cell (p := ⟨w1.heap.size, q * 2 + 1, none⟩) (by show w1.heap.size < _; omega)).trans ((R3.out.cell (i := q * 2 + 1) (by omega)).trans (by rw [cellAt_odd]))
                  have i0 : (0 : Int) ≤ (q : Int) := by omega
                  have i1 : (q : Int) < (m : Int) := by omega
                  clear hbl
                  go_wp2_with fail
                  go_quiet (fail)
                  go_wp2
                  go_roundw
                  case rel => exact ⟨q + 1, by omega, by go_num, below_drewN HB.out _, F5.out⟩
                  case measure => simp [intOf]; omega
                · clear hbl
                  go_wp2
                  go_ret
                  exact ⟨rfl, BB3.out.trans (HB.out.mono (by omega))⟩

set_option maxHeartbeats 400000 in
set_option maxRecDepth 20000 in
theorem law_nil (line : Int) (w : World) :
    Calls Yba.prog 3 #[.int .i64 line, .slice none 0 0] w fun e w' => e = .returned (.bool true) ∧ Below w.heap.size w w' := by
  have q22 : ∀ (w : World) (a : Option Addr) (n c n' c' : Nat), (binOp .neq 22 (.slice a n c) (.slice none n' c')).run Yba.prog w = .ok (.bool (!a.isNone)) w := fun w a n c n' c' => run_neq_slice_nil_any w 22 _ a n c n' c' Yba.underlying22
  have cv : ∀ w : World, (convert 32 9 (.slice none 0 0)).run Yba.prog w = .ok (.string ⟨#[]⟩) w := fun w => Lib.run_convert_nil_bytes w 32 9 5 0 Yba.underlying32 Yba.underlying5 Yba.underlying9
  go_enter Yba.func3, Yba.ntmps3
  go_wp2
  refine wp_loop_rounds 1 ?_
  rw [rounds_succ]
  go_wp2_with fail
  refine (str_E w.heap.size none _ (World.cell?_alloc_at _ _ _ 1 rfl) (by simp)).mono ?_
  rintro e w3 ⟨rfl, hb3'⟩
  have hb3 : Below (w.heap.size + 1) (w.alloc (.cells #[.int .i64 line, .slice none 0 0] 30)) w3 := by simpa using hb3'
  have BB3 : Hid (Below w.heap.size w w3) := ((Below.refl _ _).alloc (Nat.le_refl _) _).trans (hb3.mono (by omega))
  have l3 : w3.cell? ⟨w.heap.size, 0, none⟩ = some (.int .i64 line) := (hb3.cell (p := ⟨w.heap.size, 0, none⟩) (by simp)).trans (World.cell?_alloc_at _ _ _ 0 rfl)
  have f3 : w3.cell? ⟨w.heap.size, 1, none⟩ = some (.slice none 0 0) := (hb3.cell (p := ⟨w.heap.size, 1, none⟩) (by simp)).trans (World.cell?_alloc_at _ _ _ 1 rfl)
  clear hb3 hb3'
  go_wp2
  refine wp_loop_rounds 1 ?_
  rw [rounds_succ]
  go_wp2
  refine wp_loop_rounds 1 ?_
  rw [rounds_succ]
  go_wp2
  go_ret
  exact ⟨rfl, BB3.out⟩

set_option maxHeartbeats 400000 in
set_option maxRecDepth 20000 in
theorem law_empty (line : Int) (a : Addr) (cap : Nat) (w : World) :
    Calls Yba.prog 3 #[.int .i64 line, .slice (some a) 0 cap] w fun e w' => e = .returned (.bool true) ∧ Below w.heap.size w w' := by
  have q22 : ∀ (w : World) (a : Option Addr) (n c n' c' : Nat), (binOp .neq 22 (.slice a n c) (.slice none n' c')).run Yba.prog w = .ok (.bool (!a.isNone)) w := fun w a n c n' c' => run_neq_slice_nil_any w 22 _ a n c n' c' Yba.underlying22
  have cv : ∀ w : World, (convert 32 9 (.slice none 0 0)).run Yba.prog w = .ok (.string ⟨#[]⟩) w := fun w => Lib.run_convert_nil_bytes w 32 9 5 0 Yba.underlying32 Yba.underlying5 Yba.underlying9
  have hmk : ∀ w : World, (Instr.makeSlice 25 (.int .i64 0) (.int .i64 0)).run Yba.prog w = .ok (.slice (some ⟨w.heap.size, 0, none⟩) 0 0) (w.alloc (.cells (madeCells #[.string ⟨#[]⟩, .string ⟨#[]⟩] 0) 27)) := run_make25 0 (by omega)
  go_enter Yba.func3, Yba.ntmps3
  go_wp2
  refine wp_loop_rounds 1 ?_
  rw [rounds_succ]
  go_wp2
  refine wp_loop_rounds 1 ?_
  rw [rounds_succ]
  go_wp2_with fail
  obtain ⟨w2, e2⟩ : ∃ w2, w2 = w.alloc (.cells (madeCells #[.string ⟨#[]⟩, .string ⟨#[]⟩] 0) 27) := ⟨_, rfl⟩
  have hs2 : w2.heap.size = w.heap.size + 1 := by rw [e2]; simp
  have hb2 : Below w.heap.size w w2 := by rw [e2]; exact (Below.refl _ _).alloc (Nat.le_refl _) _
  rw [← e2, ← hs2]
  refine (str_E w2.heap.size (some ⟨w.heap.size, 0, none⟩) _ (World.cell?_alloc_at _ _ _ 1 rfl) (by simp)).mono ?_
  rintro e w3 ⟨rfl, hb3'⟩
  have hb3 : Below (w2.heap.size + 1) (w2.alloc (.cells #[.int .i64 line, .slice (some ⟨w.heap.size, 0, none⟩) 0 0] 30)) w3 := by simpa using hb3'
  have BB3 : Hid (Below w.heap.size w w3) := (hb2.alloc (by omega) _).trans (hb3.mono (by omega))
  have l3 : w3.cell? ⟨w2.heap.size, 0, none⟩ = some (.int .i64 line) := (hb3.cell (p := ⟨w2.heap.size, 0, none⟩) (by simp)).trans (World.cell?_alloc_at _ _ _ 0 rfl)
  have f3 : w3.cell? ⟨w2.heap.size, 1, none⟩ = some (.slice (some ⟨w.heap.size, 0, none⟩) 0 0) := (hb3.cell (p := ⟨w2.heap.size, 1, none⟩) (by simp)).trans (World.cell?_alloc_at _ _ _ 1 rfl)
  clear hb3 hb3' hs2 e2
  go_wp2
  refine wp_loop_rounds 1 ?_
  rw [rounds_succ]
  go_wp2
  refine wp_loop_rounds 1 ?_
  rw [rounds_succ]
  go_wp2
  go_ret
  exact ⟨rfl, BB3.out⟩
end Go.Proofs.Ybulkfgpy.lawS7902AWhole
