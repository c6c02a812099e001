/-
  THE WORDS OF THE TWO LAWS: a message in flight, its cells, the message that is built of it; the argument's slice in memory; closed facts of the dump.
-/
import Derived.Test.Qxb6618980aRows
import Derived.Test.Qxb6618980aGroups
import Derived.WalkKit
import Derived.KernelRfl
namespace Go.Proofs.Qxb6618980a
open Go.RowKit

structure Fly where
  At : Int
  From : Int
  To : Int
  Tag : Int

/-- A message in flight, as cells. -/
def Fly.cells (m : Fly) : List Value := [.int .i64 m.At, .int .u64 m.From, .int .u64 m.To, .int .u64 m.Tag]
/-- The message that is built of it, as cells. -/
def Fly.msg (m : Fly) : List Value := [.int .u8 0, .int .u64 m.From, .int .u64 m.To, .int .u64 0, .int .u64 0, .int .u64 m.Tag, .slice none 0 0, .int .u64 0, .bool false, .int .u64 0, .bool false, .bool false, .int .u64 0, .int .u64 0, .slice none 0 0, .slice none 0 0, .slice none 0 0]
/-- Its numbers fit their kinds. -/
def Fly.wf (m : Fly) : Prop := (Lit.int .i64 m.At).wf = true ∧ (Lit.int .u64 m.From).wf = true ∧ (Lit.int .u64 m.To).wf = true ∧ (Lit.int .u64 m.Tag).wf = true

/-- The argument: a slice of messages in flight. -/
def Flies (w : World) (a : Option Addr) (fs : List Fly) : Prop :=
  (∀ m ∈ fs, m.wf) ∧ (fs ≠ [] → ∃ b off, a = some ⟨b, off, none⟩ ∧ ∀ i m, fs[i]? = some m → w.cell? ⟨b, off + i * 4, none⟩ = some (.int .i64 m.At) ∧ w.cell? ⟨b, off + i * 4 + 1, none⟩ = some (.int .u64 m.From) ∧ w.cell? ⟨b, off + i * 4 + 2, none⟩ = some (.int .u64 m.To) ∧ w.cell? ⟨b, off + i * 4 + 3, none⟩ = some (.int .u64 m.Tag))

theorem Flies.below {w w' : World} {a : Option Addr} {fs : List Fly} (h : Flies w a fs) {B : Nat} (hB : w.heap.size ≤ B) (hb : Below B w w') : Flies w' a fs := by
  refine ⟨h.1, fun hne => ?_⟩
  obtain ⟨b, off, ha, hc⟩ := h.2 hne
  refine ⟨b, off, ha, fun i m hm => ?_⟩
  obtain ⟨c0, c1, c2, c3⟩ := hc i m hm
  have hlt : b < B := Nat.lt_of_lt_of_le (World.block_lt_of_cell? w ⟨b, off + i * 4, none⟩ c0) hB
  exact ⟨(hb.cell (p := ⟨b, _, none⟩) hlt).trans c0, (hb.cell (p := ⟨b, _, none⟩) hlt).trans c1, (hb.cell (p := ⟨b, _, none⟩) hlt).trans c2, (hb.cell (p := ⟨b, _, none⟩) hlt).trans c3⟩

theorem law3 : Maps.Keyed Try.prog 3 := Maps.int_keyed Try.underlying3
theorem zero60 (w : World) : (zeroValue 60).run Try.prog w = .ok nilS w := by kernel_rfl
theorem zero22 (w : World) : (zeroValue 22).run Try.prog w = .ok nilS w := by kernel_rfl
theorem zeroMsg : (Try.prog.info? 69).map (fun i => (i.zero, i.size, i.bytes)) = some (some (.agg #[.int .u8 0, .int .u64 0, .int .u64 0, .int .u64 0, .int .u64 0, .int .u64 0, .slice none 0 0, .int .u64 0, .bool false, .int .u64 0, .bool false, .bool false, .int .u64 0, .int .u64 0, .slice none 0 0, .slice none 0 0, .slice none 0 0]), 17, 192) := by kernel_rfl
theorem zeroFly : (Try.prog.info? 59).map (fun i => (i.zero, i.size, i.bytes)) = some (some (.agg #[.int .i64 0, .int .u64 0, .int .u64 0, .int .u64 0]), 4, 32) := by kernel_rfl
theorem zeroInt : (Try.prog.info? 3).map (fun i => (i.zero, i.size, i.bytes)) = some (some (.int .i64 0), 1, 8) := by kernel_rfl

/-- What lies in the map that 'buildDue' makes. -/
def dueOf (fs : List Fly) (t : Int) : List Fly := fs.filter (fun m => m.At == t)

theorem dueOf_snoc (fs : List Fly) (m : Fly) : dueOf (fs ++ [m]) = upd (dueOf fs) m.At (dueOf fs m.At ++ [m]) := by
  funext t
  unfold dueOf upd
  rw [List.filter_append]
  by_cases h : t = m.At
  · subst h; simp
  · have : (m.At == t) = false := by simp; omega
    simp [h, this]

theorem dueOf_le (fs : List Fly) (t : Int) : (dueOf fs t).length ≤ fs.length := List.length_filter_le _ _
end Go.Proofs.Qxb6618980a
