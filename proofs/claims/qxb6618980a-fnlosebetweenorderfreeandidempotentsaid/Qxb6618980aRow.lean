/-
  A ROW OF MESSAGES THAT IS FILTERED IN PLACE: 'RowIs w G cap kept j xs': block G begins with the messages kept, and from the j-th on still holds those of xs. What an append in place, and a clear behind the kept ones, do to it.
-/
import Derived.Test.Qxb6618980aBase
import Derived.Laws.AppendOwn
namespace Go.Proofs.Qxb6618980a
open Go.RowKit

def RowIs (w : World) (G cap : Nat) (kept : List Fly) (j : Nat) (xs : List Fly) : Prop :=
  ∃ cu, w.heap[G]? = some (.cells cu 69 (0, 0)) ∧ cu.size = cap * 17 ∧ cu.toList.take (kept.length * 17) = kept.flatMap Fly.msg ∧ ∀ i m, j ≤ i → xs[i]? = some m → ∀ c, c < 17 → cu[i * 17 + c]? = m.msg[c]?

theorem msg_length (m : Fly) : m.msg.length = 17 := rfl
theorem flat_length : ∀ xs : List Fly, (xs.flatMap Fly.msg).length = xs.length * 17
  | [] => rfl
  | x :: r => by rw [List.flatMap_cons, List.length_append, flat_length r, msg_length, List.length_cons]; omega

/-- The j-th message of a row's cells. -/
theorem flat_at : ∀ (xs : List Fly) (i : Nat) (m : Fly), xs[i]? = some m → ∀ c, c < 17 → (xs.flatMap Fly.msg)[i * 17 + c]? = m.msg[c]?
  | x :: r, 0, m, h, c, hc => by
    simp only [List.getElem?_cons_zero, Option.some.injEq] at h
    subst h
    rw [List.flatMap_cons, List.getElem?_append_left (by rw [msg_length]; omega)]
    congr 1
    omega
  | x :: r, i + 1, m, h, c, hc => by
    simp only [List.getElem?_cons_succ] at h
    rw [List.flatMap_cons, List.getElem?_append_right (by rw [msg_length]; omega), msg_length]
    have := flat_at r i m h c hc
    rw [← this]
    congr 1
    omega

theorem RowIs.start {w : World} {G cap : Nat} {cur : Array Value} {xs : List Fly} (hg : w.heap[G]? = some (.cells cur 69 (0, 0))) (hs : cur.size = cap * 17) (ht : cur.toList.take (xs.length * 17) = xs.flatMap Fly.msg) : RowIs w G cap [] 0 xs := by
  refine ⟨cur, hg, hs, by simp, fun i m _ hm c hc => ?_⟩
  have h1 := flat_at xs i m hm c hc
  rw [← ht, List.getElem?_take] at h1
  have hi : i < xs.length := (List.getElem?_eq_some_iff.1 hm).1
  rw [if_pos (by omega)] at h1
  rw [← h1, Array.getElem?_toList]

theorem RowIs.grown {w w' : World} {G cap j : Nat} {kept xs : List Fly} (h : RowIs w G cap kept j xs) {row : Option Nat} (hg : w.grownBy w' row) (hne : some G ≠ row) : RowIs w' G cap kept j xs := by
  obtain ⟨cu, h1, h2⟩ := h
  exact ⟨cu, (hg.block G (Array.getElem?_eq_some_iff.1 h1).1 hne).trans h1, h2⟩

theorem RowIs.skip {w : World} {G cap j : Nat} {kept xs : List Fly} (h : RowIs w G cap kept j xs) : RowIs w G cap kept (j + 1) xs := by
  obtain ⟨cu, h1, h2, h3, h4⟩ := h
  exact ⟨cu, h1, h2, h3, fun i m hi => h4 i m (by omega)⟩

theorem RowIs.cell {w : World} {G cap j : Nat} {kept xs : List Fly} (h : RowIs w G cap kept j xs) {m : Fly} (hm : xs[j]? = some m) (c : Nat) (hc : c < 17) : w.cell? ⟨G, j * 17 + c, none⟩ = m.msg[c]? := by
  obtain ⟨cu, h1, _, _, h4⟩ := h
  rw [← h4 j m (Nat.le_refl _) hm c hc]
  simp [World.cell?, h1]

theorem RowIs.lt {w : World} {G cap j : Nat} {kept xs : List Fly} (h : RowIs w G cap kept j xs) : G < w.heap.size := by
  obtain ⟨cu, h1, _⟩ := h
  exact (Array.getElem?_eq_some_iff.1 h1).1

/-- 'kept = append(kept, m)', in place. -/
theorem RowIs.append {w : World} {G cap j : Nat} {kept xs : List Fly} (h : RowIs w G cap kept j xs) (hk : kept.length ≤ j) (hj : j < cap) (m : Fly) (ad : Addr) (cp : Nat) (hnews : ∀ c u, m.msg[c]? = some u → w.cell? (ad.add c) = some u) (ty : TypeId) :
    ∃ w', (Builtin.append_ #[60, 60] ty #[.slice (some ⟨G, 0, none⟩) kept.length cap, .slice (some ad) 1 cp]).run Try.prog w = .ok (.slice (some ⟨G, 0, none⟩) (kept.length + 1) cap) w' ∧ RowIs w' G cap (kept ++ [m]) (j + 1) xs ∧ w.grownBy w' (some G) := by
  obtain ⟨i0, hi0, _, hz1, _⟩ := info_parts zeroMsg
  obtain ⟨cu, h1, h2, h3, h4⟩ := h
  have hlen : kept.length * 17 + 17 ≤ cu.size := by rw [h2]; omega
  have hr := run_append_room (P := Try.prog) w 60 ty 69 i0 Try.underlying60 hi0 G kept.length cap cu h1 ad 1 cp m.msg (by rw [hz1]; rfl) hnews (by simp [Fly.msg, Value.oneCell']) (by omega) (by rw [hz1, msg_length]; omega)
  rw [hz1, msg_length] at hr
  have hL : cu.toList.length = cap * 17 := by rw [← h2]; simp
  refine ⟨_, hr, ⟨_, setRow_heap w G cu _ 69 _ h1, ?_, ?_, ?_⟩, ⟨rfl, rfl, rfl, by simp [World.setRow], fun k _ hk => setRow_other w G k _ (fun e => hk (by rw [e]))⟩⟩
  · simp only [List.size_toArray, List.length_append, List.length_take, List.length_drop, hL, msg_length]
    omega
  · have hl : (cu.toList.take (kept.length * 17) ++ m.msg).length = (kept ++ [m]).length * 17 := by
      rw [List.length_append, List.length_take, hL, msg_length, List.length_append, List.length_singleton]
      omega
    rw [← hl]
    simp only [List.take_left']
    rw [h3, List.flatMap_append]
    simp
  · intro i m' hi hm' c hc
    have hq := h4 i m' (by omega) hm' c hc
    rw [← Array.getElem?_toList] at hq
    rw [← hq]
    have hp : (cu.toList.take (kept.length * 17) ++ m.msg).length = kept.length * 17 + 17 := by
      rw [List.length_append, List.length_take, hL, msg_length]
      omega
    simp only [List.getElem?_toArray]
    rw [List.getElem?_append_right (by rw [hp]; omega), hp, List.getElem?_drop, show kept.length * 17 + 17 + (i * 17 + c - (kept.length * 17 + 17)) = i * 17 + c by omega]

/-- What 'clear' lays: the cells of the zero value, again and again. -/
theorem zeroCells_mem {z : Array Value} {n : Nat} {u : Value} (h : u ∈ (Builtin.zeroCells z n).toList) : u ∈ z.toList := by
  unfold Builtin.zeroCells at h
  simp only [Array.toList_map, List.mem_map, Array.toList_range, List.mem_range] at h
  obtain ⟨i, hi, rfl⟩ := h
  have hp : 0 < z.size := by
    rcases Nat.eq_zero_or_pos z.size with h0 | h0
    · rw [h0] at hi; simp at hi
    · exact h0
  have hm := Nat.mod_lt i hp
  rw [getElem!_pos z (i % z.size) hm]
  simp

theorem zero_one (u : Value) (h : u ∈ (#[.int .u8 0, .int .u64 0, .int .u64 0, .int .u64 0, .int .u64 0, .int .u64 0, .slice none 0 0, .int .u64 0, .bool false, .int .u64 0, .bool false, .bool false, .int .u64 0, .int .u64 0, .slice none 0 0, .slice none 0 0, .slice none 0 0] : Array Value).toList) : u.oneCell' = true := by
  have hall : ∀ u ∈ (#[.int .u8 0, .int .u64 0, .int .u64 0, .int .u64 0, .int .u64 0, .int .u64 0, .slice none 0 0, .int .u64 0, .bool false, .int .u64 0, .bool false, .bool false, .int .u64 0, .int .u64 0, .slice none 0 0, .slice none 0 0, .slice none 0 0] : Array Value).toList, u.oneCell' = true := by simp [Value.oneCell']
  exact hall u h

/-- 'clear(msgs[len(kept):])'. -/
theorem RowIs.clear {w : World} {G cap j : Nat} {kept xs : List Fly} (h : RowIs w G cap kept j xs) (n c : Nat) (hn : kept.length + n ≤ cap) (ty : TypeId) :
    ∃ w', (Builtin.clear_ #[60] ty #[.slice (some ⟨G, kept.length * 17, none⟩) n c]).run Try.prog w = .ok (.tuple #[]) w' ∧ RowIs w' G cap kept xs.length xs ∧ w.grownBy w' (some G) := by
  have hlast : ∀ {w' : World}, (∃ cu, w'.heap[G]? = some (.cells cu 69 (0, 0)) ∧ cu.size = cap * 17 ∧ cu.toList.take (kept.length * 17) = kept.flatMap Fly.msg) → RowIs w' G cap kept xs.length xs := by
    rintro w' ⟨cu, h1, h2, h3⟩
    refine ⟨cu, h1, h2, h3, fun i m hi hm => ?_⟩
    have := (List.getElem?_eq_some_iff.1 hm).1
    omega
  obtain ⟨cu, h1, h2, h3, _⟩ := h
  cases n with
  | zero =>
    refine ⟨w, ?_, hlast ⟨cu, h1, h2, h3⟩, ⟨rfl, rfl, rfl, Nat.le_refl _, fun _ _ _ => rfl⟩⟩
    simp [Builtin.clear_, run_underlying Try.underlying60]
  | succ n =>
    have hz : (zeroValue 69).run Try.prog w = .ok (.agg #[.int .u8 0, .int .u64 0, .int .u64 0, .int .u64 0, .int .u64 0, .int .u64 0, .slice none 0 0, .int .u64 0, .bool false, .int .u64 0, .bool false, .bool false, .int .u64 0, .int .u64 0, .slice none 0 0, .slice none 0 0, .slice none 0 0]) w := by kernel_rfl
    have hzl : (Builtin.zeroCells (#[.int .u8 0, .int .u64 0, .int .u64 0, .int .u64 0, .int .u64 0, .int .u64 0, .slice none 0 0, .int .u64 0, .bool false, .int .u64 0, .bool false, .bool false, .int .u64 0, .int .u64 0, .slice none 0 0, .slice none 0 0, .slice none 0 0] : Array Value) (n + 1)).toList.length = (n + 1) * 17 := by
      rw [Array.length_toList, size_zeroCells]
      rfl
    have hL : cu.toList.length = cap * 17 := by rw [← h2]; simp
    have hst := run_storeCells_at Try.prog G (kept.length * 17) 69 (Builtin.zeroCells (#[.int .u8 0, .int .u64 0, .int .u64 0, .int .u64 0, .int .u64 0, .int .u64 0, .slice none 0 0, .int .u64 0, .bool false, .int .u64 0, .bool false, .bool false, .int .u64 0, .int .u64 0, .slice none 0 0, .slice none 0 0, .slice none 0 0] : Array Value) (n + 1)).toList 0 cu w h1 (by rw [hzl, h2]; omega)
      (fun u hu => zero_one u (zeroCells_mem hu))
    generalize hZ : (Builtin.zeroCells (#[.int .u8 0, .int .u64 0, .int .u64 0, .int .u64 0, .int .u64 0, .int .u64 0, .slice none 0 0, .int .u64 0, .bool false, .int .u64 0, .bool false, .bool false, .int .u64 0, .int .u64 0, .slice none 0 0, .slice none 0 0, .slice none 0 0] : Array Value) (n + 1)).toList = Z at hzl hst
    simp only [Nat.add_zero] at hst
    refine ⟨w.setRow G (cu.toList.take (kept.length * 17) ++ Z ++ cu.toList.drop (kept.length * 17 + Z.length)).toArray, ?_, hlast ⟨_, setRow_heap w G cu _ 69 _ h1, ?_, ?_⟩, ⟨rfl, rfl, rfl, by simp [World.setRow], fun k _ hk => setRow_other w G k _ (fun e => hk (by rw [e]))⟩⟩
    · simp [Builtin.clear_, run_underlying Try.underlying60, hz, Value.cells, hZ, hst]
    · simp only [List.size_toArray, List.length_append, List.length_take, List.length_drop, hL, hzl]
      omega
    · rw [List.append_assoc, List.take_append_of_le_length (by rw [List.length_take, hL]; omega), List.take_take, Nat.min_self, h3]

/-- The kept ones, as the slice that is laid back. -/
theorem RowIs.owns {w : World} {G cap j base : Nat} {kept xs : List Fly} (h : RowIs w G cap kept j xs) (hb : base ≤ G) (hk : kept.length ≤ cap) (hc : cap ≤ maxLen) : w.ownsRow base 69 17 (.slice (some ⟨G, 0, none⟩) kept.length cap) kept.length (kept.flatMap Fly.msg) := by
  obtain ⟨cu, h1, h2, h3, _⟩ := h
  exact ⟨flat_length kept, .inr ⟨G, cap, cu, rfl, hb, h1, hk, hc, h2, h3⟩⟩
end Go.Proofs.Qxb6618980a
