/-
  'Rows.LawS7901CWholeSaid', proved. The frame is the guide's, turned to a slice of structs of four integers; the walks are ours.
-/
import Derived.Test.YbulkfgpkRows
import Derived.WalkKit
import Derived.ProofKit
import Derived.OpenShut
import Derived.Deep.Slices
import Derived.Test.YbulkfgpkLaw
namespace Go.Proofs.Ybulkfgpk.lawS7901CWhole
open Go.ChangeShapes Go.WideShapes Go.ChangeAt Go.RowKit

theorem own : ownKnob Yba.prog.godebug = none := by kernel_rfl
theorem laidOut : laidOutB Yba.prog = true := by kernel_rfl
theorem cells25 : Yba.prog.cellsOf 25 = 4 := by kernel_rfl
theorem cells3 : Yba.prog.cellsOf 3 = 1 := by kernel_rfl

/-- WHAT THE WALK IS TOLD OF THE SLICE THAT CAME IN: it is nil; or it leads to a row of four numbers an element. -/
def IsRow (w : World) (a : Option Addr) (len cap : Nat) : Prop :=
  (a = none ∧ len = 0 ∧ cap = 0) ∨
  ∃ (x : Addr) (c : Nat → Int), a = some x ∧ len ≤ cap ∧ cap ≤ maxLen ∧ ∀ j, j < len * 4 → w.cell? (x.add j) = some (.int .i64 (c j))

theorem cell_lt {w : World} {a : Addr} {v : Value} (h : w.cell? a = some v) : a.block < w.heap.size := by
  by_cases hb : a.block < w.heap.size
  · exact hb
  · simp [World.cell?, Array.getElem?_eq_none (Nat.le_of_not_lt hb)] at h

/-! ### STEP 1: THE WALK -/
theorem walk (a0 : Option Addr) (len0 cap0 : Nat) (w : World) (w0 : IsRow w a0 len0 cap0) :
    Calls Yba.prog 3 #[.slice a0 len0 cap0] w fun e w' => e = .returned (.bool true) ∧ Below w.heap.size w w' := by
  rcases w0 with ⟨rfl, rfl, rfl⟩ | ⟨x, c, rfl, hl, hm, hc⟩
  · exact law_nil w
  · unfold maxLen at hm
    by_cases hlong : 1048576 < len0
    · exact law_long _ _ _ _ hlong (by omega)
    · by_cases h0 : len0 = 0
      · subst h0
        exact law_empty x cap0 w
      · obtain ⟨b, off, spot⟩ := x
        have hf := hc 0 (by omega)
        have hspot : spot = none := by simpa [Addr.add] using World.cell?_spot hf
        subst hspot
        have hlt : b < w.heap.size := cell_lt hf
        exact law_pos b off len0 cap0 c w (by omega) (by omega) (fun j hj => by rw [← add_plain]; exact hc j hj) hlt

/-- four cells of an element, read as data, are four integers -/
theorem elem {H : Type} {enc : TypeId × Value → H} {w : World} {spare : Nat → Bool} {n : Nat} {cs : List Value} {y : DataW H × List MemPlace} (h : DataW.trod enc Yba.prog w 0 spare true n 25 cs = some y) :
    ∃ z0 z1 z2 z3 : Int, cs = [.int .i64 z0, .int .i64 z1, .int .i64 z2, .int .i64 z3] := by
  obtain ⟨xs, k, _, _, hlen, hxl, hf⟩ := DataW.trod_struct Yba.underlying25 h
  rw [cells25] at hlen
  match xs, hxl, cs, hlen with
  | [y0, y1, y2, y3], _, [v0, v1, v2, v3], _ =>
    have g0 := hf 0 _ rfl
    have g1 := hf 1 _ rfl
    have g2 := hf 2 _ rfl
    have g3 := hf 3 _ rfl
    simp [cells3] at g0 g1 g2 g3
    obtain ⟨z0, e0, _⟩ := DataW.trod_int Yba.underlying3 g0
    obtain ⟨z1, e1, _⟩ := DataW.trod_int Yba.underlying3 g1
    obtain ⟨z2, e2, _⟩ := DataW.trod_int Yba.underlying3 g2
    obtain ⟨z3, e3, _⟩ := DataW.trod_int Yba.underlying3 g3
    simp at e0 e1 e2 e3
    exact ⟨z0, z1, z2, z3, by rw [e0, e1, e2, e3]⟩

theorem isRow {H : Type} {enc : TypeId × Value → H} {w : World} {a : Option Addr} {len cap : Nat} {fuel : Nat} {y : DataW H × List MemPlace} (h : DataW.trod enc Yba.prog w 0 (fun _ => true) true fuel 22 [.slice a len cap] = some y) : IsRow w a len cap := by
  rcases Deep.open_slice Yba.underlying22 h with ⟨hcs, _⟩ | ⟨x, len', cap', m, n, D, Pl, hcs, _, hl, hm, hmm, _, hx⟩
  · simp at hcs
    exact .inl hcs
  · simp at hcs
    obtain ⟨rfl, rfl, rfl⟩ := hcs
    simp only [if_true] at hmm
    have each : ∀ i, i < len → ∃ q : Nat → Int, ∀ r, r < 4 → w.cell? (x.add (i * 4 + r)) = some (.int .i64 (q r)) := by
      intro i hi
      obtain ⟨cs', h1, h2⟩ := hx i (by omega)
      rw [cells25] at h1
      obtain ⟨_, _, hcell⟩ := World.cells?_some h1
      obtain ⟨z0, z1, z2, z3, rfl⟩ := elem h2
      refine ⟨fun r => [z0, z1, z2, z3].getD r 0, fun r hr => ?_⟩
      have e := hcell r hr
      rw [Deep.add_add] at e
      rw [e]
      match r, hr with
      | 0, _ => rfl
      | 1, _ => rfl
      | 2, _ => rfl
      | 3, _ => rfl
    obtain ⟨q, hq⟩ := Deep.choose_lt each
    refine .inr ⟨x, fun j => q (j / 4) (j % 4), rfl, hl, hm, fun j hj => ?_⟩
    have e := hq (j / 4) (by omega) (j % 4) (Nat.mod_lt _ (by omega))
    rwa [show j / 4 * 4 + j % 4 = j by omega] at e

/-! ### THE ROW's STEP -/
set_option maxRecDepth 100000 in
theorem lifted (os : Os) (started : os.Started) (H : Type) (enc : TypeId × Value → H) :
    ReturnsInHanded {} Yba.checked os 3 .any (Rows.lawS7901CWholeSpec.pre6 enc Yba.prog Yba.f3 Rows.lawS7901CWholeRow.domain false) (Rows.lawS7901CWholeSpec.post enc Yba.prog Yba.f3 false true false false) := by
  refine returnsInHanded_of_change (C := Yba.checked) own started (by kernel_rfl) Yba.func3
    (ChangeSpec.witness6 (enc := enc) (C := Yba.checked) false ⟨#[], #[.slice none 0 0], []⟩ 8 (by kernel_rfl) (by kernel_rfl) (by kernel_rfl) (by kernel_rfl)) ?_
  intro W base args ds gs before hval0 hW hcnd _
  have hval : ∀ (j : Nat) t v, Yba.f3.params[j]? = some t → args[j]? = some v → Value.okWide Yba.prog W .any base t v := hval0
  have hW' := hW
  obtain ⟨p, q, hA0, hV, rfl, hfz, hnd⟩ := hW
  have hA : DataW.TrodAll enc Yba.prog W 0 (fun _ => true) true Yba.f3.params.toList args.toList ds p := hA0
  rw [Yba.params3] at hA hval
  obtain ⟨v0, vs0, d0, ds0, p0, q0, hargs, rfl, rfl, h0, r0⟩ := trodAll_cons hA
  obtain ⟨rfl, rfl, rfl⟩ := trodAll_nil r0
  obtain rfl : args = #[v0] := by cases args; simp_all
  obtain ⟨rfl, rfl⟩ := trodVars_none hV
  obtain ⟨a0, len0, cap0, rfl⟩ := okWide_slice Yba.underlying22 (hval 0 22 v0 rfl rfl)
  have k0 := h0
  have lt0 : ∀ x ∈ p0, x.block < W.heap.size := by obtain ⟨m, hm⟩ := k0; exact DataW.trod_lt m _ _ _ hm
  have w0 : IsRow W a0 len0 cap0 := by
    obtain ⟨fuel, hf⟩ := h0
    exact isRow (by simpa [Value.cells] using hf)
  clear hA0 hval0
  refine (walk a0 len0 cap0 W w0).mono fun e W' ⟨he, bel⟩ => ?_
  subst he
  exact ⟨_, rfl, _, _, _, [], _, [], hW', trodAll_mk1 (shut_bool Yba.underlying4 _), (trodAll_cons_mk (Below.trod laidOut (by kernel_rfl) (of_decide_eq_true (by kernel_rfl)) k0 bel lt0) trodAll_mk0), rfl, bel.frame _, fun h => by cases h⟩

theorem over : Rows.lawS7901CWholeRow.holds Yba.pinned (OpenSpec.ofChange Rows.lawS7901CWholeSpec) :=
  OpenClaim.holds_of_wide 3 Yba.f3 rfl rfl rfl rfl rfl rfl rfl ⟨rfl, rfl, rfl, rfl, rfl⟩ rfl rfl rfl rfl rfl (by kernel_rfl) Yba.func3 (by kernel_rfl)
    (of_decide_eq_true (by kernel_rfl)) (by unfold Func.isWrapper; first | (rw [if_pos (by decide +kernel)]; kernel_rfl) | (rw [if_neg (by decide +kernel)]; exact ⟨rfl, rfl⟩))
    (fun os started H enc _ => lifted os started H enc)

/-- THE STATEMENT -/
theorem proved : Rows.LawS7901CWholeSaid := over
end Go.Proofs.Ybulkfgpk.lawS7901CWhole
