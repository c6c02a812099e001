/-
  'slices.Sorted(maps.Keys(m))' AT THIS DUMP, by the shelf's contracts (Qxb6618980aShelf: laid in plain words).
-/
import Derived.Test.Qxb6618980aShelf
import Derived.Test.Qxb6618980aBase
import Derived.OwnWalkIn
namespace Go.Proofs.Qxb6618980a
open Go.RowKit Go.Maps Go.Sort Go.Shelf

theorem sortsA (m : Nat) : AnyZI.SortsIn Try.prog Try.sortedA_ren Fence.wide m :=
  ⟨fun blk off cap ss W hH hblk hsz => callsIn_wide.2 (AnyM.slices_Sort_int Try.sortA blk off cap ss W hH hblk hsz),
   fun p cap W => callsIn_wide.2 (AnyM.slices_Sort_int_none Try.sortA p cap W)⟩

theorem keys_any (mb : Option Nat) (W : World) : Calls Try.prog 27 #[.map mb] W fun e w' => e = .returned (.func (.func 35) #[] #[.pointer (some ⟨W.heap.size, 0, none⟩)]) ∧ w' = W.alloc (.cells #[.map mb] 27) :=
  (callsIn_wide (n := 5)).1 (AnyZI.keys_in Try.keysA Fence.wide 5 trivial rfl mb W)

theorem sorted_any (b nn : Nat) (D : DataW Value) (R : Value → Option (DataW Value × List MemPlace)) (w : World) (hown : w.ownsMap Try.prog 3 R b nn D) (hmax : Maps.size D ≤ maxLen) (hbytes : Maps.size D * 8 ≤ 140737488355328) :
    Calls Try.prog 26 #[.func (.func 35) #[] #[.pointer (some ⟨w.heap.size, 0, none⟩)]] (w.alloc (.cells #[.map (some b)] 27)) fun e w' => ∃ (v : Value) (ss : List Int), e = .returned v ∧ ss.Perm (intKeys D) ∧
      w'.ownsRow (w.heap.size + 1) 3 1 v ss.length ((ss.mergeSort (fun x y => decide (x ≤ y))).map encZ) ∧ (v = .slice none 0 0 ↔ ss = []) ∧ Below (w.heap.size + 1) (w.alloc (.cells #[.map (some b)] 27)) w' := by
  have hbl := hown.lt
  have hseq : SeqGives Fence.wide 2 Try.prog 35 #[.pointer (some ⟨w.heap.size, 0, none⟩)] encZ (fun ss => ss.Perm (intKeys D)) (Maps.size D) (w.alloc (.cells #[.map (some b)] 27)) :=
    AnyZI.keys_gives (ρ := Try.keysA_ren) { Try.keysA with } Fence.wide _ trivial rfl (by omega) w.heap.size b nn D _ (by simp) (by simp) (by
      obtain ⟨es, clock, hb, Ft, hs, hD⟩ := hown
      exact ⟨es, clock, (Below.heap_alloc _ _ b hbl).trans hb, Ft, hs, hD⟩)
  have cS := AnyZI.sorted_in Try.sortedA Fence.wide 5 trivial trivial trivial trivial rfl (by omega) (sortsA _) (enters_of Try.func34 (by kernel_rfl) rfl) 35 #[.pointer (some ⟨w.heap.size, 0, none⟩)] trivial (enters_of Try.func35 (by kernel_rfl) rfl) _ _ hmax hbytes _ hseq
  change CallsIn _ _ Try.prog 26 _ _ _ at cS
  refine ((callsIn_wide (n := 5)).1 cS).mono ?_
  rintro e w' ⟨v, ss, rfl, hp, hrow, hnil, hb⟩
  rw [World.size_alloc] at hrow hb
  exact ⟨v, ss, rfl, hp, hrow, hnil, hb⟩
end Go.Proofs.Qxb6618980a
