/-
  THE LAWS AT THE OPERATIONS, FOR THE WALK: an append in place, a clear, a store into and a deletion from a map of slices.
-/
import Derived.Test.Qxb6618980aRow
import Derived.WalkSpells
import Derived.Deep.MidRow
namespace Go.Proofs.Qxb6618980a
open Go.RowKit

section
variable (w : World) {ops : Array Oper} {rest : List Oper} {o : Oper} {a : Act} {Q : Exit → Act → World → Prop}

theorem wpList_append_row (hgd : o.guard = none) (s x : Operand) (ho : o.op = .call { callee := .builtin .append, args := #[s, x], argTypes := #[60, 60] })
    (G cap j : Nat) (kept xs : List Fly) (hR : RowIs w G cap kept j xs) (hk : kept.length ≤ j) (hj : j < cap) (m : Fly) (ad : Addr) (cp : Nat) (hs : a.eval s = .slice (some ⟨G, 0, none⟩) kept.length cap) (hx : a.eval x = .slice (some ad) 1 cp)
    (hnews : ∀ c u, m.msg[c]? = some u → w.cell? (ad.add c) = some u)
    (h : ∀ w', RowIs w' G cap (kept ++ [m]) (j + 1) xs → w.grownBy w' (some G) → wpList Try.prog ops Q rest (a.put o.dst (.slice (some ⟨G, 0, none⟩) (kept.length + 1) cap)) w') :
    wpList Try.prog ops Q (o :: rest) a w := by
  refine wpList_plain hgd fun K hK => ?_
  obtain ⟨w', hr, h2, h3⟩ := hR.append hk hj m ad cp hnews o.type
  unfold Oper.wp execOp
  simp only [ho, resolve, invoke, builtin, Sem.run_bind, Sem.run_pure, Result.andThen_ok, List.map_toArray, List.map_cons, List.map_nil, hs, hx, hr]
  exact hK _ _ (h w' h2 h3)

theorem wpList_clear_row (hgd : o.guard = none) (s : Operand) (ho : o.op = .call { callee := .builtin .clear, args := #[s], argTypes := #[60] })
    (G cap j n c : Nat) (p : Addr) (kept xs : List Fly) (hR : RowIs w G cap kept j xs) (hj : xs.length ≤ j) (hs : a.eval s = .slice (some p) n c) (hn : n = 0 ∨ (p = ⟨G, kept.length * 17, none⟩ ∧ kept.length + n ≤ cap))
    (h : ∀ w', RowIs w' G cap kept j xs → w.grownBy w' (some G) → wpList Try.prog ops Q rest (a.put o.dst (.tuple #[])) w') :
    wpList Try.prog ops Q (o :: rest) a w := by
  refine wpList_plain hgd fun K hK => ?_
  obtain ⟨w', hr, h2, h3⟩ : ∃ w', (Builtin.clear_ #[60] o.type #[.slice (some p) n c]).run Try.prog w = .ok (.tuple #[]) w' ∧ RowIs w' G cap kept j xs ∧ w.grownBy w' (some G) := by
    rcases hn with rfl | ⟨rfl, hn⟩
    · exact ⟨w, by simp [Builtin.clear_, run_underlying Try.underlying60], hR, ⟨rfl, rfl, rfl, Nat.le_refl _, fun _ _ _ => rfl⟩⟩
    · obtain ⟨w', hr, h2, h3⟩ := hR.clear n c hn o.type
      refine ⟨w', hr, ?_, h3⟩
      obtain ⟨cu, q1, q2, q3, q4⟩ := h2
      exact ⟨cu, q1, q2, q3, fun i m hi => q4 i m (by omega)⟩
  unfold Oper.wp execOp
  simp only [ho, resolve, invoke, builtin, Sem.run_bind, Sem.run_pure, Result.andThen_ok, List.map_toArray, List.map_cons, List.map_nil, hs, hr]
  exact hK _ _ (h w' h2 h3)

theorem wpList_delete_groups (hgd : o.guard = none) (m x : Operand) (ho : o.op = Op.call { callee := Callee.builtin Builtin.delete, args := #[m, x], argTypes := #[27, 3] })
    {base b n : Nat} {f : Int → List Fly} {g : Int → Value} {D : DataW Value} {w0 : World} (hG : Groups Try.prog 3 base 69 17 b n Fly.msg f g D w0) {k : Int} (hk : (Lit.int .i64 k).wf = true) (hg : w0.grownBy w (g k).ownBlock)
    (hm : a.eval m = .map (some b)) (hx : a.eval x = .int .i64 k)
    (h : ∀ w', Groups Try.prog 3 base 69 17 b n Fly.msg (upd f k []) (upd g k nilS) (D.del (.int .i64 k)) w' → w.grownBy w' (some b) → wpList Try.prog ops Q rest (a.put o.dst (.tuple #[])) w') :
    wpList Try.prog ops Q (o :: rest) a w := by
  refine wpList_plain hgd fun K hK => ?_
  obtain ⟨w', hr, h2, h3⟩ := hG.drop law3 Try.underlying3 Try.underlying27 hk hg o.type
  unfold Oper.wp execOp
  simp only [ho, resolve, invoke, builtin, Sem.run_bind, Sem.run_pure, Result.andThen_ok, List.map_toArray, List.map_cons, List.map_nil, hm, hx, hr]
  exact hK _ _ (h w' h2 h3)

theorem wpList_store_groups (hgd : o.guard = none) (m x v : Operand) (ho : o.op = Op.mapUpdate 27 m x v)
    {base b n : Nat} {f : Int → List Fly} {g : Int → Value} {D : DataW Value} {w0 : World} (hG : Groups Try.prog 3 base 69 17 b n Fly.msg f g D w0) (hn : n < maxLen) {k : Int} (hk : (Lit.int .i64 k).wf = true) (hg : w0.grownBy w (g k).ownBlock)
    {v' : Value} {xs' : List Fly} (hrow : w.ownsRow base 69 17 v' xs'.length (xs'.flatMap Fly.msg)) (hne : xs' ≠ []) (hloc : v'.ownBlock = (g k).ownBlock)
    (hm : a.eval m = .map (some b)) (hx : a.eval x = .int .i64 k) (hv : a.eval v = v')
    (h : ∀ w', Groups Try.prog 3 base 69 17 b (n + 1) Fly.msg (upd f k xs') (upd g k v') (D.put (.int .i64 k) (.held v')) w' → w.grownBy w' (some b) → wpList Try.prog ops Q rest (a.put o.dst undef) w') :
    wpList Try.prog ops Q (o :: rest) a w := by
  refine wpList_plain hgd fun K hK => ?_
  obtain ⟨w', hr, h2, h3⟩ := hG.store law3 Try.underlying3 Try.underlying27 hn hk hg hrow hne (.inl hloc)
  unfold Oper.wp
  simp [execOp, ho, hm, hx, hv, hr, Result.andThen]
  exact hK _ _ (h w' h2 h3)

/-- A message, read whole. -/
theorem wpList_load_msg (hgd : o.guard = none) (x : Operand) (ho : o.op = .load 69 x) (b off : Nat) (hx : a.eval x = .pointer (some ⟨b, off, none⟩)) (m : Fly) (hc : w.rangeAt b off m.msg)
    (h : wpList Try.prog ops Q rest (a.put o.dst (.agg m.msg.toArray)) w) : wpList Try.prog ops Q (o :: rest) a w :=
  wpList_load_mid hgd 69 x ho b off hx m.msg _ hc Try.underlying69 rfl (by kernel_rfl) h

theorem setCells_new (w0 : World) (Z : Array Value) (m : Fly) (hZ : Z.size = 17) : (w0.alloc (.cells Z 69)).setCells w0.heap.size 0 m.msg = w0.alloc (.cells m.msg.toArray 69) := by
  have hs := run_storeCells_cells (P := Try.prog) w0.heap.size 0 m.msg 0 (w0.alloc (.cells Z 69))
    (fun j hj => by
      have hj' : j < 17 := hj
      simp only [Nat.zero_add, World.cell?, heap_alloc_new]
      simp [hZ, hj'])
    (fun j _ => by
      simp only [World.frozen?, heap_alloc_new]
      simp)
    (by simp [Fly.msg, Value.oneCell'])
  have hr := run_storeCells_at Try.prog w0.heap.size 0 69 m.msg 0 Z (w0.alloc (.cells Z 69)) (heap_alloc_new w0 _) (by rw [hZ, msg_length]; omega) (by simp [Fly.msg, Value.oneCell'])
  rw [hs] at hr
  have e := (Result.ok.inj hr).2
  simp only [Nat.add_zero] at e
  rw [e, msg_length]
  have hd : Z.toList.drop (0 + 17) = [] := by
    apply List.drop_eq_nil_of_le
    simp [hZ]
  rw [hd]
  simp only [List.take_zero, List.nil_append, List.append_nil]
  unfold World.setRow World.alloc
  congr 1
  apply Array.ext_getElem?
  intro i
  rw [Array.getElem?_modify]
  by_cases hi : w0.heap.size = i
  · subst hi
    simp
  · rw [if_neg hi]
    rw [Array.getElem?_push, Array.getElem?_push, if_neg (fun e => hi e.symm), if_neg (fun e => hi e.symm)]

/-- A message, laid into a new block. -/
theorem wpList_store_new (hgd : o.guard = none) (x y : Operand) (ho : o.op = .store 69 x y) (w0 : World) (Z : Array Value) (hw : w = w0.alloc (.cells Z 69)) (hZ : Z.size = 17) (m : Fly) (hx : a.eval x = .pointer (some ⟨w0.heap.size, 0, none⟩)) (hy : a.eval y = .agg m.msg.toArray)
    (h : wpList Try.prog ops Q rest (a.put o.dst undef) (w0.alloc (.cells m.msg.toArray 69))) : wpList Try.prog ops Q (o :: rest) a w := by
  subst hw
  refine wpList_store_mid hgd 69 x y ho w0.heap.size 0 m.msg.toArray hx hy (fun j hj => ?_) (by kernel_rfl) (by simp [Fly.msg, Value.oneCell']) ?_
  · have hj' : j < 17 := hj
    simp only [Nat.zero_add, World.cell?, World.frozen?, heap_alloc_new]
    simp [hZ, hj']
  · have e := setCells_new w0 Z m hZ
    rw [show m.msg.toArray.toList = m.msg from rfl, e]
    exact h

/-- A slice of one message. -/
theorem wpList_slice_msg (hgd : o.guard = none) (x : Operand) (ho : o.op = .buildSlice 60 1 #[(0, x)]) (m : Fly) (hx : a.eval x = .agg m.msg.toArray) (N : Nat) (hN : w.heap.size = N)
    (h : wpList Try.prog ops Q rest (a.put o.dst (.slice (some ⟨N, 0, none⟩) 1 1)) (w.alloc (.cells m.msg.toArray 69))) : wpList Try.prog ops Q (o :: rest) a w := by
  subst hN
  refine wpList_plain hgd fun K hK => ?_
  have hr : (Instr.buildSlice 60 1 #[(0, .agg m.msg.toArray)]).run Try.prog w = .ok (.slice (some ⟨w.heap.size, 0, none⟩) 1 1) (w.alloc (.cells m.msg.toArray 69)) := by kernel_rfl
  unfold Oper.wp
  simp [execOp, ho, hx, hr, Result.andThen]
  exact hK _ _ h
end
end Go.Proofs.Qxb6618980a
