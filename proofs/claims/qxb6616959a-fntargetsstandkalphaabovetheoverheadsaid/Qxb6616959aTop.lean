/-
  THE WALK OF THE LAW ITSELF.
-/
import Derived.Test.Qxb6616959aWalks2
namespace Go.Proofs.Qxb6616959a
open Go.RowKit Fl
attribute [local go_sem] run_store_float

/-- The plain law: what the four tests of the law ask. -/
theorem law {al be ga p o k t i t0 i0 t1 i1 ka q1 q2 : Nat} (hk : fin k) (hT : TR al be ga p o k t i) (hT0 : TR 0 be ga p o k t0 i0) (hT1 : TR 0 be ga p o 4607182418800017408 t1 i1)
    (hka : FR .mul k al ka) : (FR .add ka t0 q1 → sameB t q1 = true) ∧ (FR .add ka i0 q2 → sameB i q2 = true) ∧ sameB t0 t1 = true ∧ sameB i0 i1 = true := by
  obtain ⟨ka', hka', x, y, hO, hx, hy⟩ := hT
  obtain ⟨z0, hz0, x0, y0, hO0, hx0, hy0⟩ := hT0
  obtain ⟨z1, hz1, x1, y1, hO1, hx1, hy1⟩ := hT1
  have zz0 := mul_zero hk hz0
  have zz1 := mul_zero fin_one hz1
  have e0 := hO.det hO0
  have e1 := hO0.det hO1
  obtain ⟨_, _, b0, c0⟩ := hO0
  obtain ⟨_, _, b1, c1⟩ := hO1
  exact ⟨fun h => core (hka'.det hka) zz0 e0.1 b0 hx hx0 h, fun h => core (hka'.det hka) zz0 e0.2 c0 hy hy0 h, core0 zz0 zz1 e1.1 b0 b1 hx0 hx1, core0 zz0 zz1 e1.2 c0 c1 hy0 hy1⟩

set_option maxHeartbeats 1000000 in
theorem top (al be ga p o k : Nat) (w : World) :
    Calls Try.prog 3 #[.float .f64 al, .float .f64 be, .float .f64 ga, .float .f64 p, .float .f64 o, .float .f64 k] w fun e w' => e = .returned (.bool true) ∧ Below w.heap.size w w' := by
  cases h1 : (FloatKind.f64.format.order k 18442240474082181119 == some .gt || FloatKind.f64.format.order k 18442240474082181119 == some .eq) with
  | false =>
    go_enter Try.func3, Try.ntmps3
    go_wp2_with fail
    go_ret
    exact ⟨rfl, Below.refl _ _⟩
  | true =>
    cases h2 : (FloatKind.f64.format.order k 9218868437227405311 == some .lt || FloatKind.f64.format.order k 9218868437227405311 == some .eq) with
    | false =>
      go_enter Try.func3, Try.ntmps3
      go_wp2_with fail
      go_ret
      exact ⟨rfl, Below.refl _ _⟩
    | true =>
      have hk : fin k := fin_of_tests h1 h2
      have rm := run_mul
      have ra := run_add
      go_enter Try.func3, Try.ntmps3
      go_wp2_with fail
      clear h1 h2
      refine (tar_any al be ga p o k _).mono ?_
      rintro e w1 ⟨t, i, rfl, hT, hb1⟩
      have c1 := keep_cell hb1 (b := w.heap.size) (o := 0) (v := .float .f64 p) (by simp)
      have c2 := keep_cell hb1 (b := w.heap.size) (o := 1) (v := .float .f64 o) (by simp)
      have z1 : w.heap.size < w1.heap.size := by (have := hb1.size; simp at this; omega)
      go_wp2_with fail
      refine (tar_any 0 be ga p o k _).mono ?_
      rintro e w2 ⟨t0, i0, rfl, hT0, hb2⟩
      have d1 := keep_cell hb2 (b := w.heap.size) (o := 0) (v := .float .f64 p) (by simp [go_sem, c1, z1])
      have d2 := keep_cell hb2 (b := w.heap.size) (o := 1) (v := .float .f64 o) (by simp [go_sem, c2, z1])
      have d3 := keep_cell hb2 (b := w1.heap.size) (o := 0) (v := .float .f64 t) (by simp [go_sem])
      have d4 := keep_cell hb2 (b := w1.heap.size) (o := 1) (v := .float .f64 i) (by simp [go_sem])
      have d5 := keep_cell hb2 (b := w1.heap.size + 1) (o := 0) (v := .float .f64 0) (by simp [go_sem])
      have d6 := keep_cell hb2 (b := w1.heap.size + 1) (o := 1) (v := .float .f64 be) (by simp [go_sem])
      have d7 := keep_cell hb2 (b := w1.heap.size + 1) (o := 2) (v := .float .f64 ga) (by simp [go_sem])
      have z2 : w1.heap.size + 1 < w2.heap.size := by (have := hb2.size; simp at this; omega)
      have z3 : w1.heap.size < w2.heap.size := by omega
      have z4 : w.heap.size < w2.heap.size := by omega
      go_wp2_with fail
      refine (tar_any 0 be ga p o 4607182418800017408 _).mono ?_
      rintro e w3 ⟨t1, i1, rfl, hT1, hb3⟩
      have e3 := keep_cell hb3 (b := w1.heap.size) (o := 0) (v := .float .f64 t) (by simp [go_sem, d3, z3])
      have e4 := keep_cell hb3 (b := w1.heap.size) (o := 1) (v := .float .f64 i) (by simp [go_sem, d4, z3])
      have e5 := keep_cell hb3 (b := w2.heap.size) (o := 0) (v := .float .f64 t0) (by simp [go_sem])
      have e6 := keep_cell hb3 (b := w2.heap.size) (o := 1) (v := .float .f64 i0) (by simp [go_sem])
      have z5 : w2.heap.size < w3.heap.size := by (have := hb3.size; simp at this; omega)
      have z6 : w1.heap.size < w3.heap.size := by omega
      go_wp2_with fail
      refine (same_any _ _ _ ((law (q2 := 0) hk hT hT0 hT1 (fres_FR _ _ _ _)).1 (fres_FR _ _ _ _))).mono ?_
      rintro e w' ⟨rfl, rfl⟩
      go_wp2_with fail
      refine (same_any _ _ _ ((law (q1 := 0) hk hT hT0 hT1 (fres_FR _ _ _ _)).2.1 (fres_FR _ _ _ _))).mono ?_
      rintro e w' ⟨rfl, rfl⟩
      go_wp2_with fail
      refine (same_any _ _ _ (law (q1 := 0) (q2 := 0) hk hT hT0 hT1 (fres_FR .mul k al w)).2.2.1).mono ?_
      rintro e w' ⟨rfl, rfl⟩
      go_wp2_with fail
      refine (same_any _ _ _ (law (q1 := 0) (q2 := 0) hk hT hT0 hT1 (fres_FR .mul k al w)).2.2.2).mono ?_
      rintro e w' ⟨rfl, rfl⟩
      go_wp2_with fail
      go_ret
      refine ⟨rfl, below_drewN (Below.alloc ?_ (by omega) _) _⟩
      have b1 : Below w.heap.size w w1 := ((Below.refl _ w).alloc (Nat.le_refl _) _).trans (hb1.mono (by simp))
      have b2 : Below w.heap.size w w2 := ((b1.alloc (by omega) _).alloc (by simp; omega) _).trans (hb2.mono (by simp; omega))
      exact (b2.alloc (by omega) _).trans (hb3.mono (by simp; omega))
end Go.Proofs.Qxb6616959a
