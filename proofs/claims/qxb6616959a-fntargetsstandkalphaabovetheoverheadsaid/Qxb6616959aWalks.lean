/-
  THE WALKS: what each Go function on the road gives, in words of the plain relations of Qxb6616959aFloat.
-/
import Derived.Test.Qxb6616959aRows
import Derived.Test.Qxb6616959aFloat
import Derived.WalkKit
import Derived.WalkLawsBesides
import Derived.Below
import Derived.Deep.Draws
import Derived.Deep.RegionHeld
namespace Go.Proofs.Qxb6616959a
open Go.RowKit Fl

/-- The bits that a float operation gives in the world w. -/
def fres (op : BinOp) (x y : Nat) (w : World) : Nat :=
  match floatBits op .f64 x y with
  | some r => r
  | none => (Question.nanBits .f64 x y).cut (w.tape w.drawn (.nanBits .f64 x y))
/-- How many draws it takes. -/
def fcnt (op : BinOp) (x y : Nat) : Nat :=
  match floatBits op .f64 x y with
  | some _ => 0
  | none => 1

theorem run_add (t : TypeId) (x y : Nat) (w : World) : (binOp .add t (.float .f64 x) (.float .f64 y)).run Try.prog w = .ok (.float .f64 (fres .add x y w)) (w.drewN (fcnt .add x y)) := by
  cases h : FloatKind.f64.format.add x y with
  | some r => simp [binOp, Op.floatArith, fres, fcnt, floatBits, h]; rfl
  | none => simp [binOp, Op.floatArith, fres, fcnt, floatBits, h, Question.forced]; rfl
theorem run_mul (t : TypeId) (x y : Nat) (w : World) : (binOp .mul t (.float .f64 x) (.float .f64 y)).run Try.prog w = .ok (.float .f64 (fres .mul x y w)) (w.drewN (fcnt .mul x y)) := by
  cases h : FloatKind.f64.format.mul x y with
  | some r => simp [binOp, Op.floatArith, fres, fcnt, floatBits, h]; rfl
  | none => simp [binOp, Op.floatArith, fres, fcnt, floatBits, h, Question.forced]; rfl
theorem run_quo (t : TypeId) (x y : Nat) (w : World) : (binOp .quo t (.float .f64 x) (.float .f64 y)).run Try.prog w = .ok (.float .f64 (fres .quo x y w)) (w.drewN (fcnt .quo x y)) := by
  cases h : FloatKind.f64.format.div x y with
  | some r => simp [binOp, Op.floatArith, fres, fcnt, floatBits, h]; rfl
  | none => simp [binOp, Op.floatArith, fres, fcnt, floatBits, h, Question.forced]; rfl

theorem run_store_float (P : Program) (w : World) (a : Addr) (m : Mode) (k : FloatKind) (n : Nat) : (store a (.float k n) m).run P w = stored P w a (.float k n) m := run_store P w a _ m rfl
attribute [local go_sem] run_store_float

theorem drawn_lt (t x y : Nat) : (Question.nanBits .f64 x y).cut t < 18446744073709551616 := by
  simp only [Question.cut]
  omega
theorem drawn_nan (t x y : Nat) : nan ((Question.nanBits .f64 x y).cut t) := by
  have hb : 9218868437227405312 < (Question.nanBits .f64 x y).cut t % 9223372036854775808 := by
    have hu : t % 2 < 2 := Nat.mod_lt _ (by omega)
    have hv : t / 2 % (2 ^ 52 - 1) < 2 ^ 52 - 1 := Nat.mod_lt _ (by decide)
    simp only [Question.cut]
    generalize t % 2 = u at hu
    generalize t / 2 % (2 ^ 52 - 1) = v at hv
    omega
  generalize (Question.nanBits .f64 x y).cut t = c at hb
  unfold nan Ieee.Format.read
  rw [sw_eq, bin_eq, inf_eq, lp_eq]
  rw [if_neg (by omega), if_neg (by omega), if_neg (by omega)]
  rfl

theorem fres_FR (op : BinOp) (x y : Nat) (w : World) : FR op x y (fres op x y w) := by
  unfold FR fres
  cases h : floatBits op .f64 x y with
  | some r => exact .inl rfl
  | none => exact .inr ⟨rfl, drawn_nan _ _ _⟩
theorem fres_lt (op : BinOp) (x y : Nat) (w : World) : fres op x y w < 18446744073709551616 := by
  unfold fres
  cases h : floatBits op .f64 x y with
  | some r =>
    have := floatBits_wf h
    simpa [Lit.wf] using this
  | none => exact drawn_lt _ _ _

theorem bcell {W w1 : World} (hb : Below W.heap.size W w1) : (∀ b o, b < W.heap.size → w1.cell? ⟨b, o, none⟩ = W.cell? ⟨b, o, none⟩) ∧ (∀ b o, b < W.heap.size → w1.frozen? ⟨b, o, none⟩ = W.frozen? ⟨b, o, none⟩) :=
  ⟨fun b o h => hb.cell (p := ⟨b, o, none⟩) h, fun b o h => hb.frozen (p := ⟨b, o, none⟩) h⟩
theorem keep_cell {W w1 : World} {b o : Nat} {v : Value} (hb : Below W.heap.size W w1) (h : W.cell? ⟨b, o, none⟩ = some v) : w1.cell? ⟨b, o, none⟩ = some v :=
  (hb.cell (World.block_lt_of_cell? W _ h)).trans h
theorem keep_frozen {W w1 : World} {b o : Nat} {v : Value} (hb : Below W.heap.size W w1) (h : W.cell? ⟨b, o, none⟩ = some v) (h' : W.frozen? ⟨b, o, none⟩ = false) : w1.frozen? ⟨b, o, none⟩ = false :=
  (hb.frozen (World.block_lt_of_cell? W _ h)).trans h'
theorem below_heap {B : Nat} {a w w' : World} (h : Below B a w) (e1 : w'.os = w.os) (e2 : w'.tape = w.tape) (e3 : w'.output = w.output) (e4 : w'.heap = w.heap) : Below B a w' :=
  ⟨e1.trans h.os, e2.trans h.tape, e3.trans h.output, by rw [e4]; exact h.size, fun k hk => by rw [e4]; exact h.block k hk⟩
theorem below_three (w : World) (o1 o2 o3 : Obj) : Below w.heap.size w (((w.alloc o1).alloc o2).alloc o3) :=
  (((Below.refl _ w).alloc (Nat.le_refl _) o1).alloc (by simp) o2).alloc (by simp; omega) o3
theorem below_drewN {B : Nat} {a w : World} (h : Below B a w) (n : Nat) : Below B a (w.drewN n) := ⟨h.os, h.tape, h.output, h.size, h.block⟩

set_option maxHeartbeats 400000 in
theorem work_any (al be ga p m : Nat) (w : World) :
    Calls Try.prog 11 #[.agg #[.float .f64 al, .float .f64 be, .float .f64 ga], .float .f64 p, .float .f64 m] w fun e w' => ∃ r, e = .returned (.float .f64 r) ∧ WR be ga p m r ∧ r < 18446744073709551616 ∧ Below w.heap.size w w' := by
  have ra := run_add
  have rm := run_mul
  go_enter Try.func11, Try.ntmps11
  go_wp2
  · go_ret
    exact ⟨_, rfl, .inl ⟨‹_›, _, fres_FR _ _ _ _, fres_FR _ _ _ _⟩, fres_lt _ _ _ _, below_drewN ((Below.refl _ _).alloc (Nat.le_refl _) _) _⟩
  · go_ret
    exact ⟨_, rfl, .inr ⟨‹_›, _, _, fres_FR _ _ _ _, fres_FR _ _ _ _, fres_FR _ _ _ _⟩, fres_lt _ _ _ _, below_drewN ((Below.refl _ _).alloc (Nat.le_refl _) _) _⟩

/-- The cells that the region reads, kept by whatever makes memory only. -/
def Sc (al be ga p o n : Nat) (w' : World) : Prop := w'.cell? ⟨n, 0, none⟩ = some (.float .f64 al) ∧ w'.cell? ⟨n, 1, none⟩ = some (.float .f64 be) ∧ w'.cell? ⟨n, 2, none⟩ = some (.float .f64 ga) ∧ w'.cell? ⟨n + 1, 0, none⟩ = some (.float .f64 p) ∧ w'.cell? ⟨n + 1, 1, none⟩ = some (.float .f64 o)
theorem keepS {al be ga p o n : Nat} {W w1 : World} (hb : Below W.heap.size W w1) (h : Sc al be ga p o n W) : Sc al be ga p o n w1 :=
  ⟨keep_cell hb h.1, keep_cell hb h.2.1, keep_cell hb h.2.2.1, keep_cell hb h.2.2.2.1, keep_cell hb h.2.2.2.2⟩
/-- The result's cells, still zero. -/
def Rc (n : Nat) (w' : World) : Prop := w'.cell? ⟨n + 1 + 1, 0, none⟩ = some (.float .f64 0) ∧ w'.cell? ⟨n + 1 + 1, 1, none⟩ = some (.float .f64 0) ∧ w'.frozen? ⟨n + 1 + 1, 0, none⟩ = false ∧ w'.frozen? ⟨n + 1 + 1, 1, none⟩ = false
theorem keepR {n : Nat} {W w1 : World} (hb : Below W.heap.size W w1) (h : Rc n W) : Rc n w1 :=
  ⟨keep_cell hb h.1, keep_cell hb h.2.1, keep_frozen hb h.1 h.2.2.1, keep_frozen hb h.2.1 h.2.2.2⟩

set_option maxHeartbeats 800000 in
theorem over_any (al be ga p o : Nat) (w : World) :
    Calls Try.prog 18 #[.agg #[.float .f64 al, .float .f64 be, .float .f64 ga], .agg #[.float .f64 p, .float .f64 o]] w fun e w' => ∃ t i, e = .returned (.agg #[.float .f64 t, .float .f64 i]) ∧ OR be ga p o t i ∧ Below w.heap.size w w' := by
  have ra := run_add
  have rq := run_quo
  go_enter Try.func18, Try.ntmps18
  go_wp2_with fail
  go_region_held (fun w' => w'.cell? ⟨w.heap.size, 0, none⟩ = some (.float .f64 al) ∧ w'.cell? ⟨w.heap.size, 1, none⟩ = some (.float .f64 be) ∧ w'.cell? ⟨w.heap.size, 2, none⟩ = some (.float .f64 ga) ∧ w'.cell? ⟨w.heap.size + 1, 0, none⟩ = some (.float .f64 p) ∧ w'.cell? ⟨w.heap.size + 1, 1, none⟩ = some (.float .f64 o))
    (first | assumption | exact keepS hb (by assumption) | (simp [go_sem]; done) | (simp [go_sem, *]; done) | go_keep)
    (first | (go_at_call_of 11 (BinOp.quo); refine (work_any al be ga p _ _).mono ?_; rintro e w2 ⟨r2, rfl, hW2, hr2, hb⟩; have fR := keepR (n := w.heap.size) hb (by assumption); have f6 := fR.1; have f7 := fR.2.1; have f8 := fR.2.2.1; have f9 := fR.2.2.2) | (go_at_call 11; refine (work_any al be ga p _ _).mono ?_; rintro e w1 ⟨r1, rfl, hW1, hr1, hb⟩; have fR := keepR (n := w.heap.size) hb (by simp [Rc, go_sem]); have hb1 := hb))
  all_goals
    go_wp2
    refine bodyPost_ret (v := .agg #[.float .f64 r1, .float .f64 r2]) (by simp [results, Try.results18, go_sem, f6, f7]) rfl ⟨r1, r2, rfl, ⟨hW1, ⟨_, ⟨_, fres_FR _ _ _ _, fres_FR _ _ _ _⟩, hW2⟩, hr1, hr2⟩, ?_⟩
    refine Below.setCell (Below.setCell ?_ (by simp; omega) _) (by simp; omega) _
    have b0 : Below w.heap.size w w1 := by
      refine Below.trans ?_ (hb1.mono ?_)
      · exact below_heap (below_three w _ _ _) rfl rfl rfl rfl
      · simp; omega
    refine Below.trans ?_ (hb.mono ?_)
    · exact below_heap b0 rfl rfl rfl rfl
    · simpa using b0.size

end Go.Proofs.Qxb6616959a
