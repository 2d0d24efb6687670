/-
  'Rows.LawS7902AWholeSaid', proved. The frame is the guide's, turned to an integer and a slice of structs of two strings; the walks are ours.
-/
import Derived.Test.YbulkfgpyRows
import Derived.WalkKit
import Derived.ProofKit
import Derived.OpenShut
import Derived.SizedLaws
import Derived.Deep.Slices
import Derived.Test.YbulkfgpyLaw
namespace Go.Proofs.Ybulkfgpy.lawS7902AWhole
open Go.ChangeShapes Go.WideShapes Go.ChangeAt Go.RowKit

theorem own : ownKnob Yba.prog.godebug = none := by kernel_rfl
theorem laidOut : laidOutB Yba.prog = true := by kernel_rfl
theorem cells24 : Yba.prog.cellsOf 24 = 2 := by kernel_rfl
theorem cells9 : Yba.prog.cellsOf 9 = 1 := by kernel_rfl
theorem bytes24 : Yba.prog.bytesOf 24 = 32 := by kernel_rfl

/-- WHAT THE WALK IS TOLD OF THE SLICE THAT CAME IN: it is nil; or it leads to a row of two strings an element, none of them beyond the form's reach. -/
def IsRow (w : World) (a : Option Addr) (len cap : Nat) : Prop :=
  (a = none ∧ len = 0 ∧ cap = 0) ∨
  ∃ (x : Addr) (na va : Nat → ByteArray), a = some x ∧ len ≤ 140737488355328 ∧ ∀ j, j < len → w.cell? (x.add (j * 2)) = some (.string (na j)) ∧ w.cell? (x.add (j * 2 + 1)) = some (.string (va j)) ∧ (na j).size ≤ 140737488355328 ∧ (va j).size ≤ 140737488355328

theorem cell_lt {w : World} {a : Addr} {v : Value} (h : w.cell? a = some v) : a.block < w.heap.size := by
  by_cases hb : a.block < w.heap.size
  · exact hb
  · simp [World.cell?, Array.getElem?_eq_none (Nat.le_of_not_lt hb)] at h

/-! ### STEP 1: THE WALK -/
theorem walk (line : Int) (a0 : Option Addr) (len0 cap0 : Nat) (w : World) (w0 : IsRow w a0 len0 cap0) :
    Calls Yba.prog 3 #[.int .i64 line, .slice a0 len0 cap0] w fun e w' => e = .returned (.bool true) ∧ Below w.heap.size w w' := by
  rcases w0 with ⟨rfl, rfl, rfl⟩ | ⟨x, na, va, rfl, hm, hc⟩
  · exact law_nil line w
  · by_cases h0 : len0 = 0
    · subst h0
      exact law_empty line x cap0 w
    · obtain ⟨b, off, spot⟩ := x
      have hf := (hc 0 (by omega)).1
      have hspot : spot = none := by simpa [Addr.add] using World.cell?_spot hf
      subst hspot
      have hlt : b < w.heap.size := cell_lt hf
      exact law_pos line b off len0 cap0 na va w hm (by omega) (fun j hj => by rw [← add_plain]; exact (hc j hj).1) (fun j hj => by rw [Nat.add_assoc, ← add_plain]; exact (hc j hj).2.1) (fun j hj => (hc j hj).2.2.1) (fun j hj => (hc j hj).2.2.2) hlt

/-- two cells of an element, read as data, are two strings -/
theorem elem {H : Type} {enc : TypeId × Value → H} {w : World} {spare : Nat → Bool} {n : Nat} {cs : List Value} {y : DataW H × List MemPlace} (h : DataW.trod enc Yba.prog w 0 spare true n 24 cs = some y) :
    ∃ s0 s1 : ByteArray, cs = [.string s0, .string s1] ∧ y.1 = .agg [.lit (.string s0.data.toList), .lit (.string s1.data.toList)] := by
  obtain ⟨xs, k, _, hy, hlen, hxl, hf⟩ := DataW.trod_struct Yba.underlying24 h
  rw [cells24] at hlen
  match xs, hxl, cs, hlen with
  | [y0, y1], _, [v0, v1], _ =>
    have g0 := hf 0 _ rfl
    have g1 := hf 1 _ rfl
    simp [cells9] at g0 g1
    obtain ⟨s0, e0, f0, _⟩ := DataW.trod_string Yba.underlying9 g0
    obtain ⟨s1, e1, f1, _⟩ := DataW.trod_string Yba.underlying9 g1
    simp at e0 e1
    exact ⟨s0, s1, by rw [e0, e1], by rw [hy, f0, f1]; rfl⟩

theorem weightsAll_mem {H : Type} {P : Program} {e : TypeId} : ∀ {l : List (DataW H)} {d : DataW H}, d ∈ l → ∀ n ∈ d.weights P e, n ∈ DataW.weightsAll P e l
  | d0 :: l, d, hd, n, hn => by
    simp only [DataW.weightsAll, List.mem_append]
    rcases List.mem_cons.1 hd with rfl | h
    · exact .inl hn
    · exact .inr (weightsAll_mem h n hn)

theorem weights_elem {H : Type} (s0 s1 : List UInt8) (n : Nat) (hn : n = s0.length ∨ n = s1.length) : n ∈ (DataW.agg [.lit (.string s0), .lit (.string s1)] : DataW H).weights Yba.prog 24 := by
  simp [DataW.weights, DataW.weightsEach, Yba.underlying24, hn]

theorem isRow {H : Type} {enc : TypeId × Value → H} {w : World} {a : Option Addr} {len cap : Nat} {fuel : Nat} {y : DataW H × List MemPlace} (h : DataW.trod enc Yba.prog w 0 (fun _ => true) true fuel 22 [.slice a len cap] = some y) (hw : ∀ n ∈ y.1.weights Yba.prog 22, n ≤ reachBytes) : IsRow w a len cap := by
  rcases Deep.open_slice Yba.underlying22 h with ⟨hcs, _⟩ | ⟨x, len', cap', m, n, D, Pl, hcs, _, hl, hm, hmm, hy, hx⟩
  · simp at hcs
    exact .inl hcs
  · simp at hcs
    obtain ⟨rfl, rfl, rfl⟩ := hcs
    simp only [if_true] at hmm
    subst hy
    have hr : reachBytes ≤ 140737488355328 := by decide
    have hlen : len ≤ 140737488355328 := by
      have := hw _ (by rw [DataW.weights, Yba.underlying22]; exact List.mem_cons_self ..)
      rw [bytes24] at this
      simp at this
      omega
    have each : ∀ i, i < len → ∃ q : ByteArray × ByteArray, w.cell? (x.add (i * 2)) = some (.string q.1) ∧ w.cell? (x.add (i * 2 + 1)) = some (.string q.2) ∧ q.1.size ≤ 140737488355328 ∧ q.2.size ≤ 140737488355328 := by
      intro i hi
      obtain ⟨cs', h1, h2⟩ := hx i (by omega)
      rw [cells24] at h1
      obtain ⟨_, _, hcell⟩ := World.cells?_some h1
      obtain ⟨s0, s1, rfl, hd⟩ := elem h2
      have hin : ∀ n ∈ (D i).weights Yba.prog 24, n ≤ reachBytes := fun n hn => hw n (by
        rw [DataW.weights, Yba.underlying22]
        refine List.mem_cons_of_mem _ (List.mem_append_left _ (weightsAll_mem (List.mem_map.2 ⟨i, List.mem_range.2 hi, rfl⟩) n hn)))
      simp only at hd
      rw [hd] at hin
      have b0 := hin _ (weights_elem _ _ _ (.inl rfl))
      have b1 := hin _ (weights_elem _ _ _ (.inr rfl))
      have e0 := hcell 0 (by omega)
      have e1 := hcell 1 (by omega)
      rw [Deep.add_add] at e0 e1
      refine ⟨(s0, s1), e0, e1, ?_, ?_⟩
      · simp at b0 ⊢; omega
      · simp at b1 ⊢; omega
    obtain ⟨q, hq⟩ := Deep.choose_lt each
    exact .inr ⟨x, fun j => (q j).1, fun j => (q j).2, rfl, hlen, fun j hj => hq j hj⟩

/-! ### THE ROW's STEP -/
set_option maxRecDepth 100000 in
theorem lifted (os : Os) (started : os.Started) (H : Type) (enc : TypeId × Value → H) :
    ReturnsInHanded {} Yba.checked os 3 .any (Rows.lawS7902AWholeSpec.pre6 enc Yba.prog Yba.f3 Rows.lawS7902AWholeRow.domain false) (Rows.lawS7902AWholeSpec.post enc Yba.prog Yba.f3 false true false false) := by
  refine returnsInHanded_of_change_sized (C := Yba.checked) own started (by kernel_rfl) Yba.func3
    (ChangeSpec.witness6 (enc := enc) (C := Yba.checked) false ⟨#[], #[.int .i64 0, .slice none 0 0], []⟩ 8 (by kernel_rfl) (by kernel_rfl) (by kernel_rfl) (by kernel_rfl)) ?_
  intro W base args ds gs before hval0 hW hcnd hsz0 _
  have hval : ∀ (j : Nat) t v, Yba.f3.params[j]? = some t → args[j]? = some v → Value.okWide Yba.prog W .any base t v := hval0
  have hW' := hW
  obtain ⟨p, q, hA0, hV, rfl, hfz, hnd⟩ := hW
  have hA : DataW.TrodAll enc Yba.prog W 0 (fun _ => true) true Yba.f3.params.toList args.toList ds p := hA0
  have hsz : (DataW.weightsEach Yba.prog (Yba.f3.params.toList ++ Rows.lawS7902AWholeSpec.plain.varTypes Yba.prog) (ds ++ gs)).all (· ≤ reachBytes) = true := hsz0
  rw [Yba.params3] at hA hval hsz
  obtain ⟨v0, vs0, d0, ds0, p0, q0, hargs, rfl, rfl, h0, r0⟩ := trodAll_cons hA
  obtain ⟨v1, vs1, d1, ds1, p1, q1, rfl, rfl, rfl, h1, r1⟩ := trodAll_cons r0
  obtain ⟨rfl, rfl, rfl⟩ := trodAll_nil r1
  obtain rfl : args = #[v0, v1] := by cases args; simp_all
  obtain ⟨rfl, rfl⟩ := trodVars_none hV
  obtain ⟨a0, rfl, rfl, rfl, w0⟩ := open_int Yba.underlying3 (hval 0 3 v0 rfl rfl) h0
  obtain ⟨a1, len1, cap1, rfl⟩ := okWide_slice Yba.underlying22 (hval 1 22 v1 rfl rfl)
  have k1 := h1
  have lt1 : ∀ x ∈ p1, x.block < W.heap.size := by obtain ⟨m, hm⟩ := k1; exact DataW.trod_lt m _ _ _ hm
  have hwt : ∀ n ∈ d1.weights Yba.prog 22, n ≤ reachBytes := fun n hn => by
    have := List.all_eq_true.1 hsz n (DataW.weights_mem_each (j := 1) (t := 22) (d := d1) rfl rfl n hn)
    simpa using this
  have w1 : IsRow W a1 len1 cap1 := by
    obtain ⟨fuel, hf⟩ := h1
    exact isRow (y := (d1, p1)) (by simpa [Value.cells] using hf) hwt
  clear hA0 hval0 hsz0
  refine (walk a0 a1 len1 cap1 W w1).mono fun e W' ⟨he, bel⟩ => ?_
  subst he
  exact ⟨_, rfl, _, _, _, [], _, [], hW', trodAll_mk1 (shut_bool Yba.underlying4 _), (trodAll_cons_mk (shut_int Yba.underlying3 w0) (trodAll_cons_mk (Below.trod laidOut (by kernel_rfl) (of_decide_eq_true (by kernel_rfl)) k1 bel lt1) trodAll_mk0)), rfl, bel.frame _, fun h => by cases h⟩

theorem over : Rows.lawS7902AWholeRow.holds Yba.pinned (OpenSpec.ofChange Rows.lawS7902AWholeSpec) :=
  OpenClaim.holds_of_wide 3 Yba.f3 rfl rfl rfl rfl rfl rfl rfl ⟨rfl, rfl, rfl, rfl, rfl⟩ rfl rfl rfl rfl rfl (by kernel_rfl) Yba.func3 (by kernel_rfl)
    (of_decide_eq_true (by kernel_rfl)) (by unfold Func.isWrapper; first | (rw [if_pos (by decide +kernel)]; kernel_rfl) | (rw [if_neg (by decide +kernel)]; exact ⟨rfl, rfl⟩))
    (fun os started H enc _ => lifted os started H enc)

/-- THE STATEMENT -/
theorem proved : Rows.LawS7902AWholeSaid := over
end Go.Proofs.Ybulkfgpy.lawS7902AWhole
