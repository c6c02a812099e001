/-
  MORE WORDS FOR 'dueMatches': a map of plain values read as tokens ('TokMap'); rows of two types lie apart; one message more in a map of slices of messages in flight ('push').
-/
import Derived.Test.Qxb6618980aPlain
import Derived.Deep.AppendLies
namespace Go.Proofs.Qxb6618980a
open Go.RowKit
open Go.Maps (Keyed)

structure TokMap (P : Program) (kt b n : Nat) (z : Value) (h : Int → Value) (D : DataW Value) (w : World) : Prop where
  own : w.ownsMap P kt tokR b n D
  look : ∀ k, D.atKey (.int .i64 k) (.held z) = .held (h k)

section
variable {P : Program} {kt b n : Nat} {z : Value} {h : Int → Value} {D : DataW Value} {w : World}

theorem TokMap.made (w : World) (P : Program) (kt : Nat) (z : Value) : TokMap P kt w.heap.size 0 z (fun _ => z) (.map []) (w.alloc (.map #[] 0)) := ⟨World.ownsMap_made w P kt tokR, fun _ => rfl⟩
theorem TokMap.kept (hT : TokMap P kt b n z h D w) {w' : World} {row : Option Nat} (hg : w.grownBy w' row) (hb : some b ≠ row) : TokMap P kt b n z h D w' := ⟨hT.own.kept hg hb, hT.look⟩
theorem TokMap.run_look (hT : TokMap P kt b n z h D w) (K : Keyed P kt) (hkt : P.underlying kt = some (.int .i64)) {t E : TypeId} (ht : P.underlying t = some (.map kt E)) (hz : (zeroValue E).run P w = .ok z w) {k : Int} (hk : (Lit.int .i64 k).wf = true) :
    (Instr.lookup t (.map (some b)) (.int .i64 k) false).run P w = .ok (h k) w := by
  obtain ⟨v, ps, hrun, hv⟩ := hT.own.lookup K ht hz (zd := .held z) (zp := []) rfl (Maps.keyOf_int_mk hkt hk)
  rw [hT.look k] at hv
  have : v = h k := by
    simp only [tokR, Option.some.injEq, Prod.mk.injEq, DataW.held.injEq] at hv
    exact hv.1
  rw [hrun, this]
theorem TokMap.store (hT : TokMap P kt b n z h D w) (K : Keyed P kt) (hkt : P.underlying kt = some (.int .i64)) {t E : TypeId} (ht : P.underlying t = some (.map kt E)) (hn : n < maxLen) {k : Int} (hk : (Lit.int .i64 k).wf = true) (v : Value) :
    ∃ w2, (Instr.mapUpdate t (.map (some b)) (.int .i64 k) v).run P w = .ok () w2 ∧ TokMap P kt b (n + 1) z (upd h k v) (D.put (.int .i64 k) (.held v)) w2 ∧ w.grownBy w2 (some b) := by
  obtain ⟨w2, hrun, hown2, hg2⟩ := hT.own.update K ht hn (Maps.keyOf_int_mk hkt hk) (val := v) (d := .held v) (ps := []) rfl
  refine ⟨w2, hrun, ⟨hown2, fun k' => ?_⟩, hg2⟩
  by_cases hk' : k' = k
  · subst hk'
    rw [upd_same, Maps.atKey_put_same (k := .int .i64 k') hT.own.isMap trivial]
  · rw [upd_other _ _ hk', Maps.atKey_put_other (by simpa using hk')]
    exact hT.look k'
end

/-- Rows of two element types lie apart. -/
theorem rows_apart {w : World} {base base' e e' size size' n n' : Nat} {v v' : Value} {xs xs' : List Value} (h : w.ownsRow base e size v n xs) (h' : w.ownsRow base' e' size' v' n' xs') (hne : e ≠ e') : v.ownBlock = none ∨ v.ownBlock ≠ v'.ownBlock := by
  rcases h.2 with ⟨rfl, _⟩ | ⟨G, cap, cur, rfl, _, hG, _⟩
  · exact .inl rfl
  · refine .inr fun e1 => ?_
    rcases h'.2 with ⟨rfl, _⟩ | ⟨G', cap', cur', rfl, _, hG', _⟩
    · cases e1
    · have : G = G' := by simpa [Value.ownBlock] using e1
      subst this
      rw [hG] at hG'
      simp at hG'
      exact hne hG'.2

theorem Groups.made' {α : Type} (w : World) (P : Program) (kt base e size : Nat) (enc : α → List Value) (hb : w.heap.size < base) : Groups P kt base e size w.heap.size 0 enc (fun _ => []) (fun _ => nilS) (.map []) (w.alloc (.map #[] 0)) where
  own := World.ownsMap_made w P kt tokR
  lt := hb
  look := fun _ => rfl
  has := fun _ => rfl
  row := fun _ => World.ownsRow_nil _ _ _ _
  apart := fun _ _ _ => .inl rfl

/-- 'want[m.At] = append(want[m.At], m)': what the region wants, ahead of it. -/
theorem push {base b n : Nat} {f : Int → List Fly} {g : Int → Value} {D : DataW Value} {wd : World} (hG : Groups Try.prog 3 base 59 4 b n Fly.cells f g D wd) (m : Fly) (hwf : m.wf) (hn : n < maxLen) :
    ((Instr.lookup 71 (.map (some b)) (.int .i64 m.At) false).run Try.prog wd.drew = .ok (g m.At) wd.drew) ∧
    ((Instr.lookup 71 (.map (some b)) (.int .i64 m.At) false).run Try.prog (wd.alloc (.cells #[.int .i64 m.At, .int .u64 m.From, .int .u64 m.To, .int .u64 m.Tag] 59)).drew = .ok (g m.At) (wd.alloc (.cells #[.int .i64 m.At, .int .u64 m.From, .int .u64 m.To, .int .u64 m.Tag] 59)).drew) ∧
    ((wd.alloc (.cells #[.int .i64 m.At, .int .u64 m.From, .int .u64 m.To, .int .u64 m.Tag] 59)).drew.ownsRow base 59 4 (g m.At) (f m.At).length ((f m.At).flatMap Fly.cells)) ∧
    ((wd.alloc (.cells #[.int .i64 m.At, .int .u64 m.From, .int .u64 m.To, .int .u64 m.Tag] 59)).drew.heap[wd.heap.size]? = some (.cells #[.int .i64 m.At, .int .u64 m.From, .int .u64 m.To, .int .u64 m.Tag] 59 (0, 0))) ∧
    (∀ (gg cp : Nat) (w1 : World), w1.ownsRow base 59 4 (.slice (some ⟨gg, 0, none⟩) ((f m.At).length + 1) cp) ((f m.At).length + 1) ((f m.At).flatMap Fly.cells ++ [.int .i64 m.At, .int .u64 m.From, .int .u64 m.To, .int .u64 m.Tag]) →
      (wd.alloc (.cells #[.int .i64 m.At, .int .u64 m.From, .int .u64 m.To, .int .u64 m.Tag] 59)).drew.grownBy w1 (g m.At).ownBlock → ((g m.At).ownBlock = some gg ∨ gg = wd.heap.size + 1) →
      ∃ w2, (Instr.mapUpdate 71 (.map (some b)) (.int .i64 m.At) (.slice (some ⟨gg, 0, none⟩) ((f m.At).length + 1) cp)).run Try.prog w1 = .ok () w2 ∧
        (∃ g' D', Groups Try.prog 3 base 59 4 b (n + 1) Fly.cells (upd f m.At (f m.At ++ [m])) g' D' w2) ∧ w1.grownBy w2 (some b)) := by
  have hGd : Groups Try.prog 3 base 59 4 b n Fly.cells f g D wd.drew := hG.grown ⟨rfl, rfl, rfl, Nat.le_refl _, fun _ _ _ => rfl⟩
  have hGa := hG.alloc (.cells #[.int .i64 m.At, .int .u64 m.From, .int .u64 m.To, .int .u64 m.Tag] 59)
  have hGad : Groups Try.prog 3 base 59 4 b n Fly.cells f g D (wd.alloc (.cells #[.int .i64 m.At, .int .u64 m.From, .int .u64 m.To, .int .u64 m.Tag] 59)).drew := hGa.grown ⟨rfl, rfl, rfl, Nat.le_refl _, fun _ _ _ => rfl⟩
  refine ⟨hGd.run_look law3 Try.underlying3 Try.underlying71 (zero22 _) hwf.1, hGad.run_look law3 Try.underlying3 Try.underlying71 (zero22 _) hwf.1, hGad.row m.At, heap_alloc_new wd _, ?_⟩
  intro gg cp w1 ho hgr hat
  obtain ⟨w2, hrun, hG2, hg2⟩ := hGad.store law3 Try.underlying3 Try.underlying71 hn hwf.1 (w1 := w1) (v' := .slice (some ⟨gg, 0, none⟩) ((f m.At).length + 1) cp) (xs' := f m.At ++ [m]) hgr
    (by simpa [List.flatMap_append, Fly.cells] using ho) (by simp) (by
      rcases hat with h1 | h1
      · exact .inl h1.symm
      · exact .inr ⟨gg, rfl, by rw [h1]; simp⟩)
  exact ⟨w2, hrun, ⟨_, _, hG2⟩, hg2⟩
end Go.Proofs.Qxb6618980a
