/-
  WALKS for 'LawS7904BWhole': (*Int).Add(z, z, 1) at an Int of one word or none: it writes nothing but its own memory.
-/
import Derived.Test.YbulkfgraBNat
namespace Go.Proofs.Ybulkfgra.lawS7904BWhole
open Go.ChangeShapes Go.WideShapes Go.ChangeAt Go.RowKit

set_option maxRecDepth 20000 in
set_option maxHeartbeats 400000 in
theorem add_zero (Z Y h : Nat) (w : World) (rz : w.rowIs Z 56 2 (fun j => if j = 0 then .bool false else .slice none 0 0))
    (y0 : w.cell? ⟨Y, 0, none⟩ = some (.bool false)) (y1 : w.cell? ⟨Y, 1, none⟩ = some (.slice (some ⟨h, 0, none⟩) 1 1)) (hh : w.cell? ⟨h, 0, none⟩ = some (.int .u64 1)) (hlt : h < w.heap.size) :
    Calls Yba.prog 8 #[.pointer (some ⟨Z, 0, none⟩), .pointer (some ⟨Z, 0, none⟩), .pointer (some ⟨Y, 0, none⟩)] w fun e w' => (∃ v, e = .returned v) ∧ Below Z w w' := by
  have z0 : w.cell? ⟨Z, 0, none⟩ = some (.bool false) := rz.cell (i := 0) (by omega)
  have z1 : w.cell? ⟨Z, 1, none⟩ = some (.slice none 0 0) := rz.cell (i := 1) (by omega)
  have hZ := rz.lt
  have f := rz.frozen
  have HR := hide2 rz
  clear rz
  go_enter Yba.func8, Yba.ntmps8
  go_wp2_with fail
  go_quiet (fail)
  go_wp2_with fail
  obtain ⟨w5, e5⟩ : ∃ w5, w5 = w.drewN nq := ⟨_, rfl⟩
  have HB5 : Hid (Below Z w w5) := by rw [e5]; exact below_drewN (Below.refl _ _) nq
  replace z0 : w5.cell? ⟨Z, 0, none⟩ = some (.bool false) := by rw [e5]; exact z0
  replace z1 : w5.cell? ⟨Z, 1, none⟩ = some (.slice none 0 0) := by rw [e5]; exact z1
  replace y0 : w5.cell? ⟨Y, 0, none⟩ = some (.bool false) := by rw [e5]; exact y0
  replace y1 : w5.cell? ⟨Y, 1, none⟩ = some (.slice (some ⟨h, 0, none⟩) 1 1) := by rw [e5]; exact y1
  replace hh : w5.cell? ⟨h, 0, none⟩ = some (.int .u64 1) := by rw [e5]; exact hh
  replace hlt : h < w5.heap.size := by rw [e5]; exact hlt
  replace hZ : Z < w5.heap.size := by rw [e5]; exact hZ
  have f0 : w5.frozen? ⟨Z, 0, none⟩ = false := by rw [e5]; exact f 0
  have f1 : w5.frozen? ⟨Z, 1, none⟩ = false := by rw [e5]; exact f 1
  rw [← e5]
  clear e5 f
  go_region_with ((go_at_call 18; (refine (nadd_01 h 1 _ ?_ ?_).mono ?_; exact hh; exact hlt; rintro e w' ⟨rfl, rfl⟩)))
  all_goals
    go_wp2
    go_ret
    exact ⟨⟨_, rfl⟩, (((HB5.out.setCell (p := ⟨Z, 1, none⟩) (Nat.le_refl _) _).setCell (p := ⟨Z, 0, none⟩) (Nat.le_refl _) _).alloc (by simp; omega) _).drew⟩
set_option maxRecDepth 20000 in
set_option maxHeartbeats 400000 in
theorem add_pos (Z Y g h : Nat) (x : Int) (w : World) (rz : w.rowIs Z 56 2 (fun j => if j = 0 then .bool false else .slice (some ⟨g, 0, none⟩) 1 1))
    (hx : 0 < x) (hx2 : x + 1 < 18446744073709551616) (cg : w.cell? ⟨g, 0, none⟩ = some (.int .u64 x)) (hg : g < w.heap.size)
    (y0 : w.cell? ⟨Y, 0, none⟩ = some (.bool false)) (y1 : w.cell? ⟨Y, 1, none⟩ = some (.slice (some ⟨h, 0, none⟩) 1 1)) (hh : w.cell? ⟨h, 0, none⟩ = some (.int .u64 1)) (hlt : h < w.heap.size) :
    Calls Yba.prog 8 #[.pointer (some ⟨Z, 0, none⟩), .pointer (some ⟨Z, 0, none⟩), .pointer (some ⟨Y, 0, none⟩)] w fun e w' => (∃ v, e = .returned v) ∧ Below Z w w' := by
  have z0 : w.cell? ⟨Z, 0, none⟩ = some (.bool false) := rz.cell (i := 0) (by omega)
  have z1 : w.cell? ⟨Z, 1, none⟩ = some (.slice (some ⟨g, 0, none⟩) 1 1) := rz.cell (i := 1) (by omega)
  have hZ := rz.lt
  have f := rz.frozen
  have HX := hide2 (And.intro hx hx2)
  clear rz hx hx2
  go_enter Yba.func8, Yba.ntmps8
  go_wp2_with fail
  go_quiet (fail)
  go_wp2_with fail
  obtain ⟨w5, e5⟩ : ∃ w5, w5 = w.drewN nq := ⟨_, rfl⟩
  have HB5 : Hid (Below Z w w5) := by rw [e5]; exact below_drewN (Below.refl _ _) nq
  replace z0 : w5.cell? ⟨Z, 0, none⟩ = some (.bool false) := by rw [e5]; exact z0
  replace z1 : w5.cell? ⟨Z, 1, none⟩ = some (.slice (some ⟨g, 0, none⟩) 1 1) := by rw [e5]; exact z1
  replace y0 : w5.cell? ⟨Y, 0, none⟩ = some (.bool false) := by rw [e5]; exact y0
  replace y1 : w5.cell? ⟨Y, 1, none⟩ = some (.slice (some ⟨h, 0, none⟩) 1 1) := by rw [e5]; exact y1
  replace hh : w5.cell? ⟨h, 0, none⟩ = some (.int .u64 1) := by rw [e5]; exact hh
  replace cg : w5.cell? ⟨g, 0, none⟩ = some (.int .u64 x) := by rw [e5]; exact cg
  replace hlt : h < w5.heap.size := by rw [e5]; exact hlt
  replace hg : g < w5.heap.size := by rw [e5]; exact hg
  replace hZ : Z < w5.heap.size := by rw [e5]; exact hZ
  have f0 : w5.frozen? ⟨Z, 0, none⟩ = false := by rw [e5]; exact f 0
  have f1 : w5.frozen? ⟨Z, 1, none⟩ = false := by rw [e5]; exact f 1
  rw [← e5]
  clear e5 f
  go_region_with ((go_at_call 18; (refine (nadd_11 g h x 1 _ HX.out.1 (by omega) HX.out.2 ?_ ?_ ?_ ?_).mono ?_; exact cg; exact hh; exact hg; exact hlt; rintro e w6 ⟨rfl, hb6⟩; have k0 := (hb6.cell (p := ⟨Z, 0, none⟩) hZ).trans z0; have k1 := (hb6.cell (p := ⟨Z, 1, none⟩) hZ).trans z1; have k2 := (World.frozen?_of_block (hb6.block Z hZ)).trans f0; have k3 := (World.frozen?_of_block (hb6.block Z hZ)).trans f1; have HB6 := hide2 hb6; clear hb6)))
  all_goals
    go_wp2
    go_ret
    exact ⟨⟨_, rfl⟩, ((HB5.out.drew.trans (HB6.out.mono (Nat.le_of_lt hZ))).setCell (p := ⟨Z, 1, none⟩) (Nat.le_refl _) _).setCell (p := ⟨Z, 0, none⟩) (Nat.le_refl _) _⟩

set_option maxRecDepth 20000 in
set_option maxHeartbeats 2000000 in
theorem add_neg (K Z Y g h k : Nat) (x : Nat) (w : World) (rz : w.rowIs Z 56 2 (fun j => if j = 0 then .bool true else .slice (some ⟨g, 0, none⟩) 1 1)) (hk : (if x = 1 then 0 else 1) = k)
    (h1 : 1 ≤ x) (h2 : x < 18446744073709551616) (rg : w.rowIs g 53 1 (fun _ => .int .u64 x)) (hKg : K ≤ g) (hKZ : K ≤ Z) (hne : Z ≠ g)
    (y0 : w.cell? ⟨Y, 0, none⟩ = some (.bool false)) (y1 : w.cell? ⟨Y, 1, none⟩ = some (.slice (some ⟨h, 0, none⟩) 1 1)) (rh : w.rowIs h 53 1 (fun _ => .int .u64 1)) :
    Calls Yba.prog 8 #[.pointer (some ⟨Z, 0, none⟩), .pointer (some ⟨Z, 0, none⟩), .pointer (some ⟨Y, 0, none⟩)] w fun e w' => (∃ v, e = .returned v) ∧ Below K w w' := by
  have z0 : w.cell? ⟨Z, 0, none⟩ = some (.bool true) := rz.cell (i := 0) (by omega)
  have z1 : w.cell? ⟨Z, 1, none⟩ = some (.slice (some ⟨g, 0, none⟩) 1 1) := rz.cell (i := 1) (by omega)
  have f := rz.frozen
  have MG : Hid (Mag w g (g + 1) (.slice (some ⟨g, 0, none⟩) 1 1) x) := .inr ⟨g, rfl, by omega, by omega, by omega, by omega, rg⟩
  have MH : Hid (Mag w h (h + 1) (.slice (some ⟨h, 0, none⟩) 1 1) 1) := .inr ⟨h, rfl, by omega, by omega, by omega, by omega, rh⟩
  have hcmp : 0 ≤ cmpI x 1 := by
    unfold cmpI
    split
    · omega
    · split <;> omega
  have RG := hide2 rg
  have RH := hide2 rh
  have HK := hide2 hk
  have HX := hide2 (And.intro h1 h2)
  clear rz rg rh hk h1 h2
  go_enter Yba.func8, Yba.ntmps8
  go_wp2_with fail
  go_quiet (fail)
  obtain ⟨q1, eq1⟩ : ∃ q1, q1 = nq := ⟨_, rfl⟩
  subst eq1
  go_wp2_with fail
  go_quiet ((go_at_call 17; (refine quiet_of2 (ncmp_any g (g + 1) h (h + 1) _ _ x 1 _ ?_ ?_); exact MG.out; exact MH.out)))
  go_wp2_with fail
  obtain ⟨w5, e5⟩ : ∃ w5, w5 = w.drewN (q1 + nq) := ⟨_, rfl⟩
  have HB5 : Hid (Below K w w5) := by rw [e5]; exact below_drewN (Below.refl _ _) _
  replace z0 : w5.cell? ⟨Z, 0, none⟩ = some (.bool true) := by rw [e5]; exact z0
  replace z1 : w5.cell? ⟨Z, 1, none⟩ = some (.slice (some ⟨g, 0, none⟩) 1 1) := by rw [e5]; exact z1
  replace y0 : w5.cell? ⟨Y, 0, none⟩ = some (.bool false) := by rw [e5]; exact y0
  replace y1 : w5.cell? ⟨Y, 1, none⟩ = some (.slice (some ⟨h, 0, none⟩) 1 1) := by rw [e5]; exact y1
  have RG5 : Hid (w5.rowIs g 53 1 (fun _ => .int .u64 x)) := by rw [e5]; exact RG.out
  have hh : w5.cell? ⟨h, 0, none⟩ = some (.int .u64 1) := by rw [e5]; exact RH.out.cell (i := 0) (by omega)
  have f0 : w5.frozen? ⟨Z, 0, none⟩ = false := by rw [e5]; exact f 0
  have f1 : w5.frozen? ⟨Z, 1, none⟩ = false := by rw [e5]; exact f 1
  rw [World.drewN_drewN, ← e5]
  clear e5 f RG RH MG MH hcmp
  have hk01 : k = 0 ∨ k = 1 := by
    have := HK.out
    split at this <;> omega
  rcases hk01 with hk0 | hk0
  all_goals
    subst hk0
    go_region_with ((go_at_call 19; (refine (nsub_K K Z g h _ x _ HX.out.1 HX.out.2 HK.out ?_ ?_ hKg hne).mono ?_; exact RG5.out; exact hh; rintro e w6 ⟨rfl, hb6, hz6⟩; have k0 := (World.cell?_of_block (a := ⟨Z, 0, none⟩) hz6).trans z0; have k1 := (World.cell?_of_block (a := ⟨Z, 1, none⟩) hz6).trans z1; have k2 := (World.frozen?_of_block (a := ⟨Z, 0, none⟩) hz6).trans f0; have k3 := (World.frozen?_of_block (a := ⟨Z, 1, none⟩) hz6).trans f1; have HB6 := hide2 hb6; clear hb6 hz6)))
    all_goals
      go_wp2
      go_ret
      exact ⟨⟨_, rfl⟩, ((HB5.out.drew.trans HB6.out).setCell (p := ⟨Z, 1, none⟩) hKZ _).setCell (p := ⟨Z, 0, none⟩) hKZ _⟩

/-- 'res.Add(res, 1)', res an Int of one word or none whose memory lies from K on: nothing below K is written -/
theorem add_any (K hi l2 h2 Z Y : Nat) (x : Int) (w : World) (hz : IsInt w K hi Z x) (hy : IsInt w l2 h2 Y 1) (hx1 : x ≤ 9223372036854775807) (hx0 : -9223372036854775808 ≤ x) :
    Calls Yba.prog 8 #[.pointer (some ⟨Z, 0, none⟩), .pointer (some ⟨Z, 0, none⟩), .pointer (some ⟨Y, 0, none⟩)] w fun e w' => (∃ v, e = .returned v) ∧ Below K w w' := by
  obtain ⟨hKZ, _, v, r, m⟩ := hz
  obtain ⟨_, _, v2, r2, m2⟩ := hy
  rcases m2 with ⟨_, h1⟩ | ⟨h, rfl, _, _, _, _, rh⟩
  · exact absurd h1 (by decide)
  have rh' : w.rowIs h 53 1 (fun _ => .int .u64 1) := rh
  have y0 : w.cell? ⟨Y, 0, none⟩ = some (.bool false) := (r2.cell (i := 0) (by omega)).trans rfl
  have y1 : w.cell? ⟨Y, 1, none⟩ = some (.slice (some ⟨h, 0, none⟩) 1 1) := r2.cell (i := 1) (by omega)
  have hh : w.cell? ⟨h, 0, none⟩ = some (.int .u64 1) := rh'.cell (i := 0) (by omega)
  rcases m with ⟨rfl, hx⟩ | ⟨g, rfl, hKg, _, hx, hx2, rg⟩
  · have : x = 0 := by omega
    subst this
    exact (add_zero Z Y h w (r.congr fun i _ => by simp) y0 y1 hh rh'.lt).mono fun e w' ⟨he, hb⟩ => ⟨he, hb.mono hKZ⟩
  · have hne : Z ≠ g := by
      rintro rfl
      obtain ⟨c1, e1, _⟩ := r
      obtain ⟨c2, e2, _⟩ := rg
      rw [e1] at e2
      simp at e2
    by_cases hs : x < 0
    · exact add_neg K Z Y g h _ x.natAbs w (r.congr fun i _ => by simp [hs]) rfl (by omega) (by omega) rg hKg hKZ hne y0 y1 rh'
    · have e : ((x.natAbs : Nat) : Int) = x := by omega
      rw [e] at rg
      exact (add_pos Z Y g h x w (r.congr fun i _ => by simp [hs]) (by omega) (by omega) (rg.cell (i := 0) (by omega)) rg.lt y0 y1 hh rh'.lt).mono fun e w' ⟨he, hb⟩ => ⟨he, hb.mono hKZ⟩
end Go.Proofs.Ybulkfgra.lawS7904BWhole
