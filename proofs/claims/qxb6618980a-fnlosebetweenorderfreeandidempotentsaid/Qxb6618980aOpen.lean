/-
  THE ARGUMENT, OPENED: a slice of messages in flight that can be read as data.
-/
import Derived.Test.Qxb6618980aTop
import Derived.ProofKit
import Derived.OpenShut
import Derived.Deep.Slices
namespace Go.Proofs.Qxb6618980a
open Go.RowKit Go.Deep

theorem cells59 : Try.prog.cellsOf 59 = 4 := by kernel_rfl
theorem cells3 : Try.prog.cellsOf 3 = 1 := by kernel_rfl
theorem cells23 : Try.prog.cellsOf 23 = 1 := by kernel_rfl

section
variable {H : Type} {enc : TypeId × Value → H} {w : World} {base : Nat} {spare : Nat → Bool} {held : Bool}

set_option maxRecDepth 100000 in
/-- One element. -/
theorem open_fly {fuel : Nat} {cs : List Value} {x : DataW H × List MemPlace} (h : DataW.trod enc Try.prog w base spare held fuel 59 cs = some x) : ∃ m : Fly, cs = m.cells ∧ m.wf := by
  obtain ⟨xs, k, _, _, hlen, hxl, hf⟩ := DataW.trod_struct Try.underlying59 h
  rw [cells59] at hlen
  match xs, hxl, cs, hlen with
  | [y0, y1, y2, y3], _, [v0, v1, v2, v3], _ =>
    have g0 : DataW.trod enc Try.prog w base spare held k 3 (([v0, v1, v2, v3].drop 0).take (Try.prog.cellsOf 3)) = some y0 := hf 0 _ rfl
    have g1 : DataW.trod enc Try.prog w base spare held k 23 (([v0, v1, v2, v3].drop 1).take (Try.prog.cellsOf 23)) = some y1 := hf 1 _ rfl
    have g2 : DataW.trod enc Try.prog w base spare held k 23 (([v0, v1, v2, v3].drop 2).take (Try.prog.cellsOf 23)) = some y2 := hf 2 _ rfl
    have g3 : DataW.trod enc Try.prog w base spare held k 23 (([v0, v1, v2, v3].drop 3).take (Try.prog.cellsOf 23)) = some y3 := hf 3 _ rfl
    rw [cells3] at g0
    rw [cells23] at g1 g2 g3
    obtain ⟨n0, e0, _, q0⟩ := DataW.trod_int Try.underlying3 g0
    obtain ⟨n1, e1, _, q1⟩ := DataW.trod_int Try.underlying23 g1
    obtain ⟨n2, e2, _, q2⟩ := DataW.trod_int Try.underlying23 g2
    obtain ⟨n3, e3, _, q3⟩ := DataW.trod_int Try.underlying23 g3
    simp at e0 e1 e2 e3
    subst e0 e1 e2 e3
    exact ⟨⟨n0, n1, n2, n3⟩, rfl, q0, q1, q2, q3⟩

theorem open_flies {a0 : Option Addr} {len cap fuel : Nat} {x : DataW H × List MemPlace} (h : DataW.trod enc Try.prog w base spare held fuel 22 [.slice a0 len cap] = some x) : ∃ fs : List Fly, fs.length = len ∧ Flies w a0 fs := by
  rcases open_slice Try.underlying22 h with ⟨hcs, _⟩ | ⟨a, l, c, m, n, D, Pl, hcs, _, hl, _, hm, _, hx⟩
  · simp at hcs
    obtain ⟨rfl, rfl, rfl⟩ := hcs
    exact ⟨[], rfl, by simp, fun h => absurd rfl h⟩
  · simp at hcs
    obtain ⟨rfl, rfl, rfl⟩ := hcs
    have hlm : len ≤ m := by rw [hm]; split <;> omega
    have each : ∀ i, i < len → ∃ q : Fly, q.wf ∧ w.cells? base (a.add (i * 4)) 4 = some q.cells := fun i hi => by
      obtain ⟨cs', h1, h2⟩ := hx i (by omega)
      obtain ⟨q, rfl, hq⟩ := open_fly h2
      rw [cells59] at h1
      exact ⟨q, hq, h1⟩
    have : Inhabited Fly := ⟨⟨0, 0, 0, 0⟩⟩
    obtain ⟨q, hq⟩ := choose_lt each
    refine ⟨(List.range len).map q, by simp, fun y hy => ?_, fun hne => ?_⟩
    · obtain ⟨i, hi, rfl⟩ := List.mem_map.1 hy
      exact (hq i (List.mem_range.1 hi)).1
    · have hp : 0 < len := by
        rcases Nat.eq_zero_or_pos len with h0 | h0
        · exact absurd (by rw [h0]; rfl) hne
        · exact h0
      have hcell : ∀ i, i < len → ∀ c, c < 4 → w.cell? ((a.add (i * 4)).add c) = (q i).cells[c]? := fun i hi c hc => (World.cells?_some (hq i hi).2).2.2 c hc
      have h00 : w.cell? ((a.add (0 * 4)).add 0) = some (.int .i64 (q 0).At) := hcell 0 hp 0 (by omega)
      obtain ⟨b, off, sp⟩ := a
      have hsp : sp = none := by simpa [Addr.add] using World.cell?_spot h00
      subst hsp
      refine ⟨b, off, rfl, fun i y hy => ?_⟩
      have hi : i < len := by
        have := (List.getElem?_eq_some_iff.1 hy).1
        simpa using this
      have hyq : y = q i := by
        rw [List.getElem?_map, List.getElem?_range hi] at hy
        exact (Option.some.inj hy).symm
      subst hyq
      have k0 := hcell i hi 0 (by omega)
      have k1 := hcell i hi 1 (by omega)
      have k2 := hcell i hi 2 (by omega)
      have k3 := hcell i hi 3 (by omega)
      simp only [Addr.add_mid] at k0 k1 k2 k3
      exact ⟨k0, k1, k2, k3⟩
end
end Go.Proofs.Qxb6618980a
