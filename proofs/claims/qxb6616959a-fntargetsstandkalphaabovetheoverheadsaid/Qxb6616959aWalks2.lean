/-
  THE WALKS, MORE: 'latency', 'Targets', 'zzSame'.
-/
import Derived.Test.Qxb6616959aWalks
namespace Go.Proofs.Qxb6616959a
open Go.RowKit Fl
attribute [local go_sem] run_store_float

/-- The latency: 'iteration + overhead', twice. -/
def LR (b g p o it t i : Nat) : Prop := ∃ t0 i0, OR b g p o t0 i0 ∧ FR .add it t0 t ∧ FR .add it i0 i

set_option maxHeartbeats 800000 in
theorem lat_any (al be ga p o it : Nat) (w : World) :
    Calls Try.prog 15 #[.agg #[.float .f64 al, .float .f64 be, .float .f64 ga], .agg #[.float .f64 p, .float .f64 o], .float .f64 it] w fun e w' => ∃ t i, e = .returned (.agg #[.float .f64 t, .float .f64 i]) ∧ LR be ga p o it t i ∧ Below w.heap.size w w' := by
  have ra := run_add
  go_enter Try.func15, Try.ntmps15
  go_wp2_with (go_at_call 18; refine (over_any al be ga p o _).mono ?_; rintro e w1 ⟨t0, i0, rfl, hO, hb⟩; have fR := keepR (n := w.heap.size) hb (by simp [Rc, go_sem]); have f6 := fR.1; have f7 := fR.2.1; have f8 := fR.2.2.1; have f9 := fR.2.2.2; have hz : w.heap.size + 1 + 1 < w1.heap.size := by (have := hb.size; simp at this; omega))
  refine bodyPost_ret (v := .agg #[.float .f64 (fres .add it t0 (w1.alloc (.cells #[.float .f64 t0, .float .f64 i0] 26))), .float .f64 (fres .add it i0 ((w1.alloc (.cells #[.float .f64 t0, .float .f64 i0] 26)).drewN (fcnt .add it t0)))]) (by simp [results, Try.results15, go_sem, f6, f7, hz]) rfl ⟨_, _, rfl, ⟨t0, i0, hO, fres_FR _ _ _ _, fres_FR _ _ _ _⟩, ?_⟩
  refine Below.setCell (Below.setCell ?_ (by simp; omega) _) (by simp; omega) _
  refine below_drewN (Below.alloc ?_ (by omega) _) _
  exact Below.trans (below_three w _ _ _) (hb.mono (by simp; omega))

/-- The targets: the latency at 'k * alpha'. -/
def TR (al b g p o k t i : Nat) : Prop := ∃ ka, FR .mul k al ka ∧ LR b g p o ka t i

set_option maxHeartbeats 800000 in
theorem tar_any (al be ga p o k : Nat) (w : World) :
    Calls Try.prog 7 #[.agg #[.float .f64 al, .float .f64 be, .float .f64 ga], .agg #[.float .f64 p, .float .f64 o], .float .f64 k] w fun e w' => ∃ t i, e = .returned (.agg #[.float .f64 t, .float .f64 i]) ∧ TR al be ga p o k t i ∧ Below w.heap.size w w' := by
  have rm := run_mul
  go_enter Try.func7, Try.ntmps7
  go_wp2_with (go_at_call 15; refine (lat_any al be ga p o _ _).mono ?_; rintro e w1 ⟨t0, i0, rfl, hO, hb⟩; have fR := keepR (n := w.heap.size) hb (by simp [Rc, go_sem]); have f6 := fR.1; have f7 := fR.2.1; have f8 := fR.2.2.1; have f9 := fR.2.2.2)
  refine bodyPost_ret (v := .agg #[.float .f64 t0, .float .f64 i0]) (by simp [results, Try.results7, go_sem, f6, f7]) rfl ⟨_, _, rfl, ⟨_, fres_FR _ _ _ _, hO⟩, ?_⟩
  refine Below.setCell (Below.setCell ?_ (by simp; omega) _) (by simp; omega) _
  refine Below.trans ?_ (hb.mono (by simp; omega))
  exact below_heap (below_three w _ _ _) rfl rfl rfl rfl

theorem ret_true {b : Bool} (h : b = true) : Ending.returned (.bool b) = .returned (.bool true) := by rw [h]

set_option maxHeartbeats 800000 in
theorem same_any (x y : Nat) (w : World) (h : sameB x y = true) : Calls Try.prog 8 #[.float .f64 x, .float .f64 y] w fun e w' => e = .returned (.bool true) ∧ w' = w := by
  have H : Hid (((FloatKind.f64.format.order x y == some .eq) || ((FloatKind.f64.format.order x x != some .eq) && (FloatKind.f64.format.order y y != some .eq))) = true) := h
  clear h
  go_enter Try.func8, Try.ntmps8
  go_wp2
  · go_ret
    exact ⟨rfl, rfl⟩
  · have h := H.out
    simp_all
  · have h := H.out
    go_ret
    refine ⟨ret_true ?_, rfl⟩
    simp_all
end Go.Proofs.Qxb6616959a
