/-
  THE WALK OF 'buildDue': the map that it makes holds, at each tick, the messages of that tick, in their order.
-/
import Derived.Test.Qxb6618980aBase
import Derived.WalkSpells
import Derived.Deep.RegionHeld3
import Derived.Deep.AppendLies
namespace Go.Proofs.Qxb6618980a
open Go.RowKit

/-- The loop's own variable 'm', in the block N. -/
def Var4 (N : Nat) (m : Fly) (x : World) : Prop := x.cell? ⟨N, 0, none⟩ = some (.int .i64 m.At) ∧ x.cell? ⟨N, 1, none⟩ = some (.int .u64 m.From) ∧ x.cell? ⟨N, 2, none⟩ = some (.int .u64 m.To) ∧ x.cell? ⟨N, 3, none⟩ = some (.int .u64 m.Tag)
theorem Var4.grown {N : Nat} {m : Fly} {x y : World} {row : Option Nat} (h : Var4 N m x) (hg : x.grownBy y row) (hne : some N ≠ row) : Var4 N m y :=
  ⟨hg.cell h.1 hne, hg.cell h.2.1 hne, hg.cell h.2.2.1 hne, hg.cell h.2.2.2 hne⟩

theorem Groups.farNew {α : Type} {P : Program} {kt base e size b n : Nat} {enc : α → List Value} {f : Int → List α} {g : Int → Value} {D : DataW Value} {w : World} (h : Groups P kt base e size b n enc f g D w) (k : Int) {N : Nat} (hN : w.heap.size ≤ N) : some N ≠ (g k).ownBlock := by
  intro e1
  have := ((h.row k).lt N e1.symm).2
  omega

set_option maxRecDepth 100000 in
set_option maxHeartbeats 2000000 in
theorem build_any (a : Option Addr) (len cap : Nat) (fs : List Fly) (hl : fs.length = len) (hlen : len ≤ 32768) (w : World) (hF : Flies w a fs) :
    Calls Try.prog 9 #[.slice a len cap] w fun e w' => e = .returned (.map (some w.heap.size)) ∧ (∃ g D, Groups Try.prog 3 (w.heap.size + 1) 69 17 w.heap.size len Fly.msg (dueOf fs) g D w') ∧ Below w.heap.size w w' := by
  obtain ⟨i0, hi0, hz0, hz1, hz2⟩ := info_parts zeroMsg
  have hmm := @run_makeMap Try.prog
  go_enter Try.func9, Try.ntmps9
  go_wp2
  go_loopw [4] (fun i wr => ∃ k : Nat, k ≤ len ∧ i = .int .i64 k ∧ (∃ g D, Groups Try.prog 3 (w.heap.size + 1) 69 17 w.heap.size k Fly.msg (dueOf (fs.take k)) g D wr) ∧ Below w.heap.size w wr)
    (fun i _ => len - (RowKit.intOf i).toNat)
  case atStart => exact ⟨0, Nat.zero_le _, rfl, ⟨_, _, Groups.made w Try.prog 3 69 17 Fly.msg⟩, (Below.refl _ _).alloc (Nat.le_refl _) _⟩
  case round =>
    obtain ⟨k, hk, rfl, ⟨g, D, hG⟩, hB⟩ := hrel
    by_cases hlt : k < len
    · obtain ⟨m, hm⟩ : ∃ m, fs[k]? = some m := ⟨fs[k], by simp⟩
      have hwf : m.wf := hF.1 m (List.mem_of_getElem? hm)
      obtain ⟨b, off, rfl, hc⟩ := hF.2 (fun e => by rw [e] at hm; simp at hm)
      obtain ⟨c0, c1, c2, c3⟩ := hc k m hm
      have hbw : b < w.heap.size := World.block_lt_of_cell? w ⟨b, off + k * 4, none⟩ c0
      have d0 : wr.cell? ⟨b, off + k * 4, none⟩ = some (.int .i64 m.At) := (hB.cell (p := ⟨b, _, none⟩) hbw).trans c0
      have d1 : wr.cell? ⟨b, off + k * 4 + 1, none⟩ = some (.int .u64 m.From) := (hB.cell (p := ⟨b, _, none⟩) hbw).trans c1
      have d2 : wr.cell? ⟨b, off + k * 4 + 2, none⟩ = some (.int .u64 m.To) := (hB.cell (p := ⟨b, _, none⟩) hbw).trans c2
      have d3 : wr.cell? ⟨b, off + k * 4 + 3, none⟩ = some (.int .u64 m.Tag) := (hB.cell (p := ⟨b, _, none⟩) hbw).trans c3
      clear c0 c1 c2 c3 hc
      have hBs := hB.size
      have hle := dueOf_le (fs.take k) m.At
      have htk : (fs.take k).length ≤ k := List.length_take_le _ _
      have hnm := hG.neMap m.At
      -- the look-up, in the two worlds in which it may come up
      have hG1 := hG.alloc (.cells #[.int .i64 m.At, .int .u64 m.From, .int .u64 m.To, .int .u64 m.Tag] 59)
      have hL1 := (hG1.grown (w' := (wr.alloc (.cells #[.int .i64 m.At, .int .u64 m.From, .int .u64 m.To, .int .u64 m.Tag] 59)).drew) ⟨rfl, rfl, rfl, Nat.le_refl _, fun _ _ _ => rfl⟩).run_look law3 Try.underlying3 Try.underlying27 (zero60 _) hwf.1
      have hG2 := hG1.alloc (.cells #[.int .u8 0, .int .u64 m.From, .int .u64 m.To, .int .u64 0, .int .u64 0, .int .u64 m.Tag, .slice none 0 0, .int .u64 0, .bool false, .int .u64 0, .bool false, .bool false, .int .u64 0, .int .u64 0, .slice none 0 0, .slice none 0 0, .slice none 0 0] 69)
      have hG2d := hG2.grown (w' := ((wr.alloc (.cells #[.int .i64 m.At, .int .u64 m.From, .int .u64 m.To, .int .u64 m.Tag] 59)).alloc (.cells #[.int .u8 0, .int .u64 m.From, .int .u64 m.To, .int .u64 0, .int .u64 0, .int .u64 m.Tag, .slice none 0 0, .int .u64 0, .bool false, .int .u64 0, .bool false, .bool false, .int .u64 0, .int .u64 0, .slice none 0 0, .slice none 0 0, .slice none 0 0] 69)).drew) ⟨rfl, rfl, rfl, Nat.le_refl _, fun _ _ _ => rfl⟩
      have hL2 := hG2d.run_look law3 Try.underlying3 Try.underlying27 (zero60 _) hwf.1
      have HB : Hid ((((wr.alloc (.cells #[.int .i64 m.At, .int .u64 m.From, .int .u64 m.To, .int .u64 m.Tag] 59)).alloc (.cells #[.int .u8 0, .int .u64 m.From, .int .u64 m.To, .int .u64 0, .int .u64 0, .int .u64 m.Tag, .slice none 0 0, .int .u64 0, .bool false, .int .u64 0, .bool false, .bool false, .int .u64 0, .int .u64 0, .slice none 0 0, .slice none 0 0, .slice none 0 0] 69)).drew).heap[wr.heap.size + 1]? = some (.cells #[.int .u8 0, .int .u64 m.From, .int .u64 m.To, .int .u64 0, .int .u64 0, .int .u64 m.Tag, .slice none 0 0, .int .u64 0, .bool false, .int .u64 0, .bool false, .bool false, .int .u64 0, .int .u64 0, .slice none 0 0, .slice none 0 0, .slice none 0 0] 69 (0, 0))) := by
        have h1 := heap_alloc_new (wr.alloc (.cells #[.int .i64 m.At, .int .u64 m.From, .int .u64 m.To, .int .u64 m.Tag] 59)) (.cells #[.int .u8 0, .int .u64 m.From, .int .u64 m.To, .int .u64 0, .int .u64 0, .int .u64 m.Tag, .slice none 0 0, .int .u64 0, .bool false, .int .u64 0, .bool false, .bool false, .int .u64 0, .int .u64 0, .slice none 0 0, .slice none 0 0, .slice none 0 0] 69)
        rw [World.size_alloc] at h1
        exact h1
      have hfar := hG.farNew m.At (Nat.le_refl _)
      have hfar2 : some wr.heap.size ≠ some w.heap.size := by
        intro e1
        have h1 := hG.own.lt
        have h2 := Option.some.inj e1
        omega
      have hrow0 := hG2d.row m.At
      have hsz2 : (dueOf (fs.take k) m.At).length + 1 ≤ 32768 := by omega
      have HM : Hid (∀ (gg cp : Nat) (w1 : World), w1.ownsRow (w.heap.size + 1) 69 17 (.slice (some ⟨gg, 0, none⟩) ((dueOf (fs.take k) m.At).length + 1) cp) ((dueOf (fs.take k) m.At).length + 1) ((dueOf (fs.take k) m.At).flatMap Fly.msg ++ [.int .u8 0, .int .u64 m.From, .int .u64 m.To, .int .u64 0, .int .u64 0, .int .u64 m.Tag, .slice none 0 0, .int .u64 0, .bool false, .int .u64 0, .bool false, .bool false, .int .u64 0, .int .u64 0, .slice none 0 0, .slice none 0 0, .slice none 0 0]) →
          (((wr.alloc (.cells #[.int .i64 m.At, .int .u64 m.From, .int .u64 m.To, .int .u64 m.Tag] 59)).alloc (.cells #[.int .u8 0, .int .u64 m.From, .int .u64 m.To, .int .u64 0, .int .u64 0, .int .u64 m.Tag, .slice none 0 0, .int .u64 0, .bool false, .int .u64 0, .bool false, .bool false, .int .u64 0, .int .u64 0, .slice none 0 0, .slice none 0 0, .slice none 0 0] 69)).drew).grownBy w1 (g m.At).ownBlock → ((g m.At).ownBlock = some gg ∨ gg = wr.heap.size + 1 + 1) →
          ∃ w2, (Instr.mapUpdate 27 (.map (some w.heap.size)) (.int .i64 m.At) (.slice (some ⟨gg, 0, none⟩) ((dueOf (fs.take k) m.At).length + 1) cp)).run Try.prog w1 = .ok () w2 ∧
            Groups Try.prog 3 (w.heap.size + 1) 69 17 w.heap.size (k + 1) Fly.msg (dueOf (fs.take (k + 1))) (upd g m.At (.slice (some ⟨gg, 0, none⟩) ((dueOf (fs.take k) m.At).length + 1) cp)) (D.put (.int .i64 m.At) (.held (.slice (some ⟨gg, 0, none⟩) ((dueOf (fs.take k) m.At).length + 1) cp))) w2 ∧ w1.grownBy w2 (some w.heap.size)) := by
        intro gg cp w1 ho hgr hat
        have := hG2d.store law3 Try.underlying3 Try.underlying27 (by unfold maxLen; omega) hwf.1 (w1 := w1) (v' := .slice (some ⟨gg, 0, none⟩) ((dueOf (fs.take k) m.At).length + 1) cp) (xs' := dueOf (fs.take k) m.At ++ [m]) hgr
          (by simpa [List.flatMap_append, Fly.msg] using ho) (by simp) (by
            rcases hat with h1 | h1
            · exact .inl h1.symm
            · exact .inr ⟨gg, rfl, by rw [h1]; simp⟩)
        rw [show dueOf (fs.take (k + 1)) = upd (dueOf (fs.take k)) m.At (dueOf (fs.take k) m.At ++ [m]) by
          rw [List.take_add_one, hm]; exact dueOf_snoc _ _]
        exact this
      go_wp2_with fail
      go_region_held3 (fun w' => w'.cell? ⟨wr.heap.size, 0, none⟩ = some (.int .i64 m.At) ∧ w'.cell? ⟨wr.heap.size, 1, none⟩ = some (.int .u64 m.From) ∧ w'.cell? ⟨wr.heap.size, 2, none⟩ = some (.int .u64 m.To) ∧ w'.cell? ⟨wr.heap.size, 3, none⟩ = some (.int .u64 m.Tag))
        (first | (simp [go_sem]; done) | exact Var4.grown (by assumption) hgrow hfar | exact Var4.grown (by assumption) hgr2 hfar2)
        ((refine step_append_lies _ (by rfl) _ _ _ (by rfl) (w.heap.size + 1) 69 i0 _ 17 192 Try.underlying60 hi0 hz0 hz1 hz2 rfl (by omega) (g m.At) _ _ (by rfl) hrow0 ⟨wr.heap.size + 1, 0, none⟩ 1 1 [.int .u8 0, .int .u64 m.From, .int .u64 m.To, .int .u64 0, .int .u64 0, .int .u64 m.Tag, .slice none 0 0, .int .u64 0, .bool false, .int .u64 0, .bool false, .bool false, .int .u64 0, .int .u64 0, .slice none 0 0, .slice none 0 0, .slice none 0 0] (by rfl) (by rfl) (World.news_of_block (cs := #[.int .u8 0, .int .u64 m.From, .int .u64 m.To, .int .u64 0, .int .u64 0, .int .u64 m.Tag, .slice none 0 0, .int .u64 0, .bool false, .int .u64 0, .bool false, .bool false, .int .u64 0, .int .u64 0, .slice none 0 0, .slice none 0 0, .slice none 0 0]) (t := 69) (fr := (0, 0)) HB.out) (by simp [Value.oneCell']) (by omega) (by unfold maxLen; omega) (by omega) (by simp; omega) (wr.heap.size + 1 + 1) (by simp) ?_; intro gg cp w1 hown1 hgrow hat hlt1; obtain ⟨w2, hupd, hG3, hgr2⟩ := HM.out gg cp w1 hown1 hgrow hat))
      all_goals
        have hBe : Below w.heap.size w w2 :=
          ((((hB.alloc hBs _).alloc (by simp; omega) _).drew.grown hgrow (by simp; omega) (fun j hj => by have := (hrow0.lt j hj).1; omega)).grown hgr2 (by have := hgrow.size; simp at this; omega) (fun j hj => by cases hj; exact Nat.le_refl _))
        clear hown1 hgrow hat hlt1 hupd hgr2 hrow0 hG2d hG2 hG1 hL1 hL2 HM HB d0 d1 d2 d3
        go_wp2
        go_roundw
        case rel => exact ⟨k + 1, by omega, by go_num, ⟨_, _, hG3⟩, hBe⟩
        case measure => simp [RowKit.intOf]; omega
    · have hke : k = len := by omega
      go_wp2
      go_ret
      refine ⟨rfl, ⟨g, D, ?_⟩, hB⟩
      rw [hke, List.take_of_length_le (by omega)] at hG
      exact hG
end Go.Proofs.Qxb6618980a
