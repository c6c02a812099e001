/-
  THE WALK OF 'dueMatches'.
-/
import Derived.Test.Qxb6618980aLink
import Derived.Test.Qxb6618980aTok
import Derived.Test.Qxb6618980aBuild
import Derived.Test.Qxb6618980aRow
import Derived.WalkSpells
import Derived.Deep.RegionHeld3
import Derived.Deep.AppendLies
import Derived.Deep.QuietTactic
import Derived.BigQuiet
namespace Go.Proofs.Qxb6618980a
open Go.RowKit

theorem hid {p : Prop} (h : p) : Hid p := h
theorem low_ne {w : World} {base e size n b : Nat} {v : Value} {xs : List Value} (h : w.ownsRow base e size v n xs) (hb : b < base) : v.ownBlock ≠ some b := fun e1 => by
  have := (h.lt b e1).1
  omega
theorem row_ne {w : World} {base e size n b : Nat} {v : Value} {xs : List Value} (h : w.ownsRow base e size v n xs) (hb : b < base) : v.ownBlock = none ∨ v.ownBlock ≠ some b := .inr (low_ne h hb)
theorem far_ne {w : World} {base e size n b : Nat} {v : Value} {xs : List Value} (h : w.ownsRow base e size v n xs) (hb : w.heap.size ≤ b) : some b ≠ v.ownBlock := fun e1 => by
  have := (h.lt b e1.symm).2
  omega
theorem cell17 {w : World} {G i : Nat} {cur : Array Value} {xs : List Fly} {m : Fly} (hh : w.heap[G]? = some (.cells cur 69 (0, 0))) (ht : cur.toList.take (xs.length * 17) = xs.flatMap Fly.msg) (hm : xs[i]? = some m) (c : Nat) (hc : c < 17) : w.cell? ⟨G, i * 17 + c, none⟩ = m.msg[c]? := by
  have h1 := flat_at xs i m hm c hc
  rw [← ht, List.getElem?_take] at h1
  have hi : i < xs.length := (List.getElem?_eq_some_iff.1 hm).1
  rw [if_pos (by omega), Array.getElem?_toList] at h1
  simp [World.cell?, hh, h1]
theorem flat4_at : ∀ (xs : List Fly) (i : Nat) (m : Fly), xs[i]? = some m → ∀ c, c < 4 → (xs.flatMap Fly.cells)[i * 4 + c]? = m.cells[c]?
  | x :: r, 0, m, h, c, hc => by
    simp only [List.getElem?_cons_zero, Option.some.injEq] at h
    subst h
    rw [List.flatMap_cons, List.getElem?_append_left (by show _ < 4; omega)]
    congr 1
    omega
  | x :: r, i + 1, m, h, c, hc => by
    simp only [List.getElem?_cons_succ] at h
    have hl : x.cells.length = 4 := rfl
    rw [List.flatMap_cons, List.getElem?_append_right (by rw [hl]; omega), hl]
    have := flat4_at r i m h c hc
    rw [← this]
    congr 1
    omega
theorem cell4 {w : World} {G i : Nat} {cur : Array Value} {xs : List Fly} {m : Fly} (hh : w.heap[G]? = some (.cells cur 59 (0, 0))) (ht : cur.toList.take (xs.length * 4) = xs.flatMap Fly.cells) (hm : xs[i]? = some m) (c : Nat) (hc : c < 4) : w.cell? ⟨G, i * 4 + c, none⟩ = m.cells[c]? := by
  have h1 := flat4_at xs i m hm c hc
  rw [← ht, List.getElem?_take] at h1
  have hi : i < xs.length := (List.getElem?_eq_some_iff.1 hm).1
  rw [if_pos (by omega), Array.getElem?_toList] at h1
  simp [World.cell?, hh, h1]
theorem zero4 (w : World) : (zeroValue 4).run Try.prog w = .ok (.bool false) w := by kernel_rfl

set_option maxRecDepth 100000 in
set_option maxHeartbeats 8000000 in
theorem matches_any (gb base n : Nat) (f : Int → List Fly) (g : Int → Value) (D : DataW Value) (fs : List Fly) (la : Option Addr) (len cap : Nat) (a b c d : Int) (w : World)
    (hG : Groups Try.prog 3 base 69 17 gb n Fly.msg f g D w) (hF : Flies w la fs) (hl : fs.length = len) (hlen : len ≤ 32768) (hf : f = wantOf a b c d fs) :
    Calls Try.prog 11 #[.map (some gb), .slice la len cap, .int .u64 a, .int .u64 b, .int .u64 c, .int .u64 d] w fun e w' => e = .returned (.bool true) ∧ Below w.heap.size w w' := by
  obtain ⟨i0, hi0, hz0, hz1, hz2⟩ := info_parts zeroInt
  obtain ⟨i4, hi4, hy0, hy1, hy2⟩ := info_parts zeroFly
  have hmm := @run_makeMap Try.prog
  have HFF : Hid (f = wantOf a b c d fs) := hf
  have HLen : Hid (fs.length = len) := hl
  clear hf hl
  go_enter Try.func11, Try.ntmps11
  go_wp2
  go_loopw [15, 16] (fun tv i wr => ∃ k : Nat, k ≤ len ∧ i = .int .i64 k ∧ (∃ gw Dw, Groups Try.prog 3 (w.heap.size + 2) 59 4 w.heap.size k Fly.cells (wantOf a b c d (fs.take k)) gw Dw wr) ∧ (∃ Ds, TokMap Try.prog 3 (w.heap.size + 1) k (.bool false) (fun t => .bool ((ticksOf (fs.take k)).contains t)) Ds wr) ∧
      wr.ownsRow (w.heap.size + 2) 3 1 tv (ticksOf (fs.take k)).length ((ticksOf (fs.take k)).map (Value.int .i64)) ∧ Below w.heap.size w wr ∧ w.heap.size + 2 ≤ wr.heap.size)
    (fun _ i _ => len - (RowKit.intOf i).toNat)
  case atStart =>
    have G0 := (Groups.made' w Try.prog 3 (w.heap.size + 2) 59 4 Fly.cells (by omega)).alloc (.map #[] 0)
    have T0 := TokMap.made (w.alloc (.map #[] 0)) Try.prog 3 (.bool false)
    rw [World.size_alloc] at T0
    exact ⟨0, Nat.zero_le _, rfl, ⟨_, _, G0⟩, ⟨_, T0⟩, World.ownsRow_nil _ _ _ _, ((Below.refl _ w).alloc (Nat.le_refl _) _).alloc (by simp) _, by simp⟩
  case round =>
    obtain ⟨k, hk, rfl, ⟨gw, Dw, GWr⟩, ⟨Ds, SNr⟩, TKr, hB, hS2⟩ := hrel
    by_cases hlt : k < len
    · obtain ⟨m, hm⟩ : ∃ m, fs[k]? = some m := ⟨fs[k]'(by rw [HLen.out]; exact hlt), by simp⟩
      have hwf : m.wf := hF.1 m (List.mem_of_getElem? hm)
      obtain ⟨ab, off, rfl, hc⟩ := hF.2 (fun e => by rw [e] at hm; simp at hm)
      obtain ⟨c0, c1, c2, c3⟩ := hc k m hm
      have hbw : ab < w.heap.size := World.block_lt_of_cell? w ⟨ab, off + k * 4, none⟩ c0
      have d0 : wr.cell? ⟨ab, off + k * 4, none⟩ = some (.int .i64 m.At) := (hB.cell (p := ⟨ab, _, none⟩) hbw).trans c0
      have d1 : wr.cell? ⟨ab, off + k * 4 + 1, none⟩ = some (.int .u64 m.From) := (hB.cell (p := ⟨ab, _, none⟩) hbw).trans c1
      have d2 : wr.cell? ⟨ab, off + k * 4 + 2, none⟩ = some (.int .u64 m.To) := (hB.cell (p := ⟨ab, _, none⟩) hbw).trans c2
      have d3 : wr.cell? ⟨ab, off + k * 4 + 3, none⟩ = some (.int .u64 m.Tag) := (hB.cell (p := ⟨ab, _, none⟩) hbw).trans c3
      clear c0 c1 c2 c3 hc
      have HS : Hid (fs.take (k + 1) = fs.take k ++ [m]) := by show _ = _; rw [List.take_add_one, hm]; rfl
      have htk : (fs.take k).length ≤ k := List.length_take_le _ _
      have htl := ticksOf_le (fs.take k)
      have hGwFar : some wr.heap.size ≠ (gw m.At).ownBlock := GWr.farNew m.At (Nat.le_refl _)
      have hfar2 : some wr.heap.size ≠ some w.heap.size := by
        intro e1
        have h2 := Option.some.inj e1
        omega
      have SN1 := SNr.kept (World.grownBy_alloc wr (.cells #[.int .i64 m.At, .int .u64 m.From, .int .u64 m.To, .int .u64 m.Tag] 59) none) (by simp)
      have hL0 := SN1.run_look law3 Try.underlying3 Try.underlying72 (zero4 _) hwf.1
      cases hs : (ticksOf (fs.take k)).contains m.At with
      | true =>
        rw [hs] at hL0
        have HT : Hid (ticksOf (fs.take (k + 1)) = ticksOf (fs.take k)) := by show _ = _; rw [HS.out, ticksOf_snoc]; unfold addTick; rw [if_pos hs]
        clear hs
        go_wp2_with fail
        obtain ⟨wc, hwc⟩ : ∃ wc, wc = wr.alloc (.cells #[.int .i64 m.At, .int .u64 m.From, .int .u64 m.To, .int .u64 m.Tag] 59) := ⟨_, rfl⟩
        rw [← hwc]
        have GW : Groups Try.prog 3 (w.heap.size + 2) 59 4 w.heap.size k Fly.cells (wantOf a b c d (fs.take k)) gw Dw wc := by rw [hwc]; exact GWr.alloc _
        have SN : TokMap Try.prog 3 (w.heap.size + 1) (k + 1) (.bool false) (fun t => .bool ((ticksOf (fs.take (k + 1))).contains t)) Ds wc := by rw [hwc, HT.out]; exact ⟨SN1.own.mono (by omega), SN1.look⟩
        have TK : wc.ownsRow (w.heap.size + 2) 3 1 u15 (ticksOf (fs.take (k + 1))).length ((ticksOf (fs.take (k + 1))).map (Value.int .i64)) := by rw [hwc, HT.out]; exact TKr.alloc _
        have VM : Var4 wr.heap.size m wc := by rw [hwc]; exact ⟨by simp, by simp, by simp, by simp⟩
        have BL : Below w.heap.size w wc := by rw [hwc]; exact hB.alloc (by omega) _
        have hNc : wr.heap.size < wc.heap.size := by rw [hwc]; simp
        clear hwc hL0 SN1 d0 d1 d2 d3

        -- THE REST OF THE ROUND, in the world wc
        have v0 := VM.1
        have v1 := VM.2.1
        have v2 := VM.2.2.1
        have v3 := VM.2.2.2
        have hBc := BL.size
        cases e1 : lnk a b m with
        | true =>
          have HWt : Hid (wanted a b c d m = false) := by show wanted a b c d m = false; simp [wanted, e1]
          go_wp2_with (go_at_call 23; refine (link_any m _ _ _).mono ?_; rintro e w' ⟨rfl, rfl⟩)
          go_roundw
          case rel => exact ⟨k + 1, by omega, by go_num, ⟨gw, Dw, by rw [HS.out, wantOf_lost _ _ _ _ _ _ HWt.out]; exact (GW.alloc _).mono (by omega)⟩, ⟨_, SN.kept (World.grownBy_alloc _ _ none) (by simp)⟩, TK.alloc _, BL.alloc (by omega) _, by simp; omega⟩
          case measure => simp [RowKit.intOf]; omega
        | false =>
          cases e2 : lnk c d m with
          | true =>
            have HWt : Hid (wanted a b c d m = false) := by show wanted a b c d m = false; simp [wanted, e2]
            go_wp2_with (go_at_call 23; refine (link_any m _ _ _).mono ?_; rintro e w' ⟨rfl, rfl⟩)
            go_roundw
            case rel => exact ⟨k + 1, by omega, by go_num, ⟨gw, Dw, by rw [HS.out, wantOf_lost _ _ _ _ _ _ HWt.out]; exact ((GW.alloc _).alloc _).mono (by omega)⟩, ⟨_, (SN.kept (World.grownBy_alloc _ _ none) (by simp)).kept (World.grownBy_alloc _ _ none) (by simp)⟩, (TK.alloc _).alloc _, (BL.alloc (by omega) _).alloc (by simp; omega) _, by simp; omega⟩
            case measure => simp [RowKit.intOf]; omega
          | false =>
            have HWt : Hid (wanted a b c d m = true) := by show wanted a b c d m = true; simp [wanted, e1, e2]
            go_wp2_with (go_at_call 23; refine (link_any m _ _ _).mono ?_; rintro e w' ⟨rfl, rfl⟩)
            obtain ⟨wd, hwd⟩ : ∃ wd, wd = (wc.alloc (.cells #[.int .i64 m.At, .int .u64 m.From, .int .u64 m.To, .int .u64 m.Tag] 59)).alloc (.cells #[.int .i64 m.At, .int .u64 m.From, .int .u64 m.To, .int .u64 m.Tag] 59) := ⟨_, rfl⟩
            rw [← hwd]
            have GWd : Groups Try.prog 3 (w.heap.size + 2) 59 4 w.heap.size k Fly.cells (wantOf a b c d (fs.take k)) gw Dw wd := by rw [hwd]; exact (GW.alloc _).alloc _
            have SNd : TokMap Try.prog 3 (w.heap.size + 1) (k + 1) (.bool false) (fun t => .bool ((ticksOf (fs.take (k + 1))).contains t)) Ds wd := by rw [hwd]; exact (SN.kept (World.grownBy_alloc _ _ none) (by simp)).kept (World.grownBy_alloc _ _ none) (by simp)
            have TKd : wd.ownsRow (w.heap.size + 2) 3 1 u15 (ticksOf (fs.take (k + 1))).length ((ticksOf (fs.take (k + 1))).map (Value.int .i64)) := by rw [hwd]; exact (TK.alloc _).alloc _
            have VMd : Var4 wr.heap.size m wd := by rw [hwd]; exact (VM.grown (World.grownBy_alloc _ _ none) (by simp)).grown (World.grownBy_alloc _ _ none) (by simp)
            have BLd : Below w.heap.size w wd := by rw [hwd]; exact (BL.alloc (by omega) _).alloc (by simp; omega) _
            have hNd : wr.heap.size < wd.heap.size := by rw [hwd]; simp; omega
            clear hwd v0 v1 v2 v3 VM
            have v0 := VMd.1
            have v1 := VMd.2.1
            have v2 := VMd.2.2.1
            have v3 := VMd.2.2.2
            obtain ⟨hL1, hL2, hrow0, hblk, hpush⟩ := push GWd m hwf (by unfold maxLen; omega)
            have HP := hid hpush
            have HB := hid hblk
            have hle := wantOf_le a b c d (fs.take k) m.At
            have hfar : some wr.heap.size ≠ (gw m.At).ownBlock := hGwFar
            clear hpush hblk
            go_region_held3 (fun w' => w'.cell? ⟨wr.heap.size, 0, none⟩ = some (.int .i64 m.At) ∧ w'.cell? ⟨wr.heap.size, 1, none⟩ = some (.int .u64 m.From) ∧ w'.cell? ⟨wr.heap.size, 2, none⟩ = some (.int .u64 m.To) ∧ w'.cell? ⟨wr.heap.size, 3, none⟩ = some (.int .u64 m.Tag))
              (first | exact VMd | exact Var4.grown VMd (World.grownBy_alloc _ _ none) (by simp) | exact Var4.grown (by assumption) hgrow hfar | exact Var4.grown (by assumption) hgr2 hfar2 | (simp [go_sem]; done) | go_keep)
              ((refine step_append_lies _ (by rfl) _ _ _ (by rfl) (w.heap.size + 2) 59 i4 _ 4 32 Try.underlying22 hi4 hy0 hy1 hy2 rfl (by omega) (gw m.At) _ _ (by rfl) hrow0 ⟨wd.heap.size, 0, none⟩ 1 1 [.int .i64 m.At, .int .u64 m.From, .int .u64 m.To, .int .u64 m.Tag] (by rfl) (by rfl) (World.news_of_block (cs := #[.int .i64 m.At, .int .u64 m.From, .int .u64 m.To, .int .u64 m.Tag]) (t := 59) (fr := (0, 0)) HB.out) (by simp [Value.oneCell']) (by omega) (by unfold maxLen; omega) (by omega) (by simp; omega) (wd.heap.size + 1) (by simp) ?_; intro gg cp w4 hown4 hgrow hat hlt4; obtain ⟨w5, hupd5, hG5, hgr2⟩ := HP.out gg cp w4 hown4 hgrow hat))
            all_goals
              obtain ⟨gw5, Dw5, hG5⟩ := hG5
              have hBe : Below w.heap.size w w5 := (((BLd.alloc (by omega) _).drew.grown hgrow (by simp; omega) (fun j hj => by have := (hrow0.lt j hj).1; omega)).grown hgr2 (by have := hgrow.size; simp at this; omega) (fun j hj => by cases hj; exact Nat.le_refl _))
              have TKe : w5.ownsRow (w.heap.size + 2) 3 1 u15 (ticksOf (fs.take (k + 1))).length ((ticksOf (fs.take (k + 1))).map (Value.int .i64)) := by
                have q1 : (wd.alloc (.cells #[.int .i64 m.At, .int .u64 m.From, .int .u64 m.To, .int .u64 m.Tag] 59)).drew.ownsRow (w.heap.size + 2) 3 1 u15 (ticksOf (fs.take (k + 1))).length ((ticksOf (fs.take (k + 1))).map (Value.int .i64)) := TKd.alloc _
                have q2 := q1.kept hgrow (rows_apart q1 hrow0 (by decide))
                exact q2.kept hgr2 (row_ne q2 (by omega))
              have SNe : TokMap Try.prog 3 (w.heap.size + 1) (k + 1) (.bool false) (fun t => .bool ((ticksOf (fs.take (k + 1))).contains t)) Ds w5 := by
                have q1 : TokMap Try.prog 3 (w.heap.size + 1) (k + 1) (.bool false) (fun t => .bool ((ticksOf (fs.take (k + 1))).contains t)) Ds (wd.alloc (.cells #[.int .i64 m.At, .int .u64 m.From, .int .u64 m.To, .int .u64 m.Tag] 59)).drew := SNd.kept (w' := (wd.alloc (.cells #[.int .i64 m.At, .int .u64 m.From, .int .u64 m.To, .int .u64 m.Tag] 59)).drew) (row := none) ⟨rfl, rfl, rfl, by simp, fun i hi _ => heap_alloc_old wd _ hi⟩ (by simp)
                exact (q1.kept hgrow (Ne.symm (low_ne hrow0 (by omega)))).kept hgr2 (by simp)
              have hSe : w.heap.size + 2 ≤ w5.heap.size := by have := hgrow.size; have := hgr2.size; simp at *; omega
              clear hown4 hgrow hat hlt4 hupd5 hgr2 hrow0 hL1 hL2 HP HB v0 v1 v2 v3
              go_wp2
              go_roundw
              case rel => exact ⟨k + 1, by omega, by go_num, ⟨gw5, Dw5, by rw [HS.out, wantOf_kept _ _ _ _ _ _ HWt.out]; exact hG5⟩, ⟨_, SNe⟩, TKe, hBe, hSe⟩
              case measure => simp [RowKit.intOf]; omega

      | false =>
        rw [hs] at hL0
        have HT : Hid (ticksOf (fs.take (k + 1)) = ticksOf (fs.take k) ++ [m.At]) := by show _ = _; rw [HS.out, ticksOf_snoc]; unfold addTick; rw [if_neg (by rw [hs]; simp)]
        have HCn : Hid (upd (fun t => Value.bool ((ticksOf (fs.take k)).contains t)) m.At (.bool true) = fun t => Value.bool ((ticksOf (fs.take (k + 1))).contains t)) := by
          show _ = _
          rw [HT.out]
          funext t
          unfold upd
          by_cases ht : t = m.At
          · subst ht; simp
          · simp [ht]
        clear hs
        obtain ⟨w2, hupd, SN2, hg2⟩ := SN1.store law3 Try.underlying3 Try.underlying72 (by unfold maxLen; omega) hwf.1 (.bool true)
        rw [HCn.out] at SN2
        have TK1 := TKr.alloc (.cells #[.int .i64 m.At, .int .u64 m.From, .int .u64 m.To, .int .u64 m.Tag] 59)
        have TK2 := TK1.kept hg2 (row_ne TK1 (by omega))
        have GW1 := GWr.alloc (.cells #[.int .i64 m.At, .int .u64 m.From, .int .u64 m.To, .int .u64 m.Tag] 59)
        have GW2 := GW1.kept hg2 (by simp) (fun t => row_ne (GW1.row t) (by omega))
        have VM1 : Var4 wr.heap.size m (wr.alloc (.cells #[.int .i64 m.At, .int .u64 m.From, .int .u64 m.To, .int .u64 m.Tag] 59)) := ⟨by simp, by simp, by simp, by simp⟩
        have VM2 := VM1.grown hg2 (by intro e1; have := Option.some.inj e1; omega)
        have v0 := VM2.1
        have hz2' : wr.heap.size < w2.heap.size := by have := hg2.size; simp at this; omega
        have hfarT : some wr.heap.size ≠ u15.ownBlock := far_ne TKr (Nat.le_refl _)
        have BL2 : Below w.heap.size w w2 := (hB.alloc (by omega) _).grown hg2 (by simp; omega) (fun j hj => by cases hj; omega)
        obtain ⟨Ds2, hDs2⟩ : ∃ Ds2, Ds2 = Ds.put (.int .i64 m.At) (.held (.bool true)) := ⟨_, rfl⟩
        rw [← hDs2] at SN2
        clear hDs2
        go_wp2_with (at_builtin; refine wpList_append_own_at _ rfl _ _ 73 rfl (w.heap.size + 2) 3 i0 (.int .i64 0) 1 8 Try.underlying73 hi0 hz0 hz1 hz2 rfl (by decide) _ _ _ rfl (TK2.alloc _) ⟨w2.heap.size, 0, none⟩ 1 1 [.int .i64 m.At] rfl rfl (cell_one_new _ _ _) (ints_oneCell .i64 [m.At]) (by unfold maxLen; omega) (by omega) (by simp; omega) ?_; intro tv3 wc hown3 hgrow3 hnil3 hat3; have VMq := (VM2.grown (World.grownBy_alloc _ _ none) (by simp)).grown hgrow3 hfarT; have w0 := VMq.1; have w1 := VMq.2.1; have w2' := VMq.2.2.1; have w3' := VMq.2.2.2)
        have GW3 := GW2.alloc (.cells #[.int .i64 m.At] 3)
        have TK3 := TK2.alloc (.cells #[.int .i64 m.At] 3)
        have GW : Groups Try.prog 3 (w.heap.size + 2) 59 4 w.heap.size k Fly.cells (wantOf a b c d (fs.take k)) gw Dw wc := GW3.kept hgrow3 (Ne.symm (low_ne TK3 (by omega))) (fun t => rows_apart (GW3.row t) TK3 (by decide))
        have SN : TokMap Try.prog 3 (w.heap.size + 1) (k + 1) (.bool false) (fun t => .bool ((ticksOf (fs.take (k + 1))).contains t)) Ds2 wc := (SN2.kept (World.grownBy_alloc _ _ none) (by simp)).kept hgrow3 (Ne.symm (low_ne TK3 (by omega)))
        have TK : wc.ownsRow (w.heap.size + 2) 3 1 tv3 (ticksOf (fs.take (k + 1))).length ((ticksOf (fs.take (k + 1))).map (Value.int .i64)) := by rw [HT.out]; simpa using hown3
        have VM : Var4 wr.heap.size m wc := VMq
        have BL : Below w.heap.size w wc := (BL2.alloc (by omega) _).grown hgrow3 (by simp; omega) (fun j hj => by have := (TK3.lt j hj).1; omega)
        have hNc : wr.heap.size < wc.heap.size := by have := hgrow3.size; simp at this; omega
        clear hL0 SN1 SN2 TK1 TK2 TK3 GW1 GW2 GW3 VM1 VM2 VMq v0 BL2 hown3 hgrow3 hnil3 hat3 hupd hg2 d0 d1 d2 d3 w0 w1 w2' w3'

        -- THE REST OF THE ROUND, in the world wc
        have v0 := VM.1
        have v1 := VM.2.1
        have v2 := VM.2.2.1
        have v3 := VM.2.2.2
        have hBc := BL.size
        cases e1 : lnk a b m with
        | true =>
          have HWt : Hid (wanted a b c d m = false) := by show wanted a b c d m = false; simp [wanted, e1]
          go_wp2_with (go_at_call 23; refine (link_any m _ _ _).mono ?_; rintro e w' ⟨rfl, rfl⟩)
          go_roundw
          case rel => exact ⟨k + 1, by omega, by go_num, ⟨gw, Dw, by rw [HS.out, wantOf_lost _ _ _ _ _ _ HWt.out]; exact (GW.alloc _).mono (by omega)⟩, ⟨_, SN.kept (World.grownBy_alloc _ _ none) (by simp)⟩, TK.alloc _, BL.alloc (by omega) _, by simp; omega⟩
          case measure => simp [RowKit.intOf]; omega
        | false =>
          cases e2 : lnk c d m with
          | true =>
            have HWt : Hid (wanted a b c d m = false) := by show wanted a b c d m = false; simp [wanted, e2]
            go_wp2_with (go_at_call 23; refine (link_any m _ _ _).mono ?_; rintro e w' ⟨rfl, rfl⟩)
            go_roundw
            case rel => exact ⟨k + 1, by omega, by go_num, ⟨gw, Dw, by rw [HS.out, wantOf_lost _ _ _ _ _ _ HWt.out]; exact ((GW.alloc _).alloc _).mono (by omega)⟩, ⟨_, (SN.kept (World.grownBy_alloc _ _ none) (by simp)).kept (World.grownBy_alloc _ _ none) (by simp)⟩, (TK.alloc _).alloc _, (BL.alloc (by omega) _).alloc (by simp; omega) _, by simp; omega⟩
            case measure => simp [RowKit.intOf]; omega
          | false =>
            have HWt : Hid (wanted a b c d m = true) := by show wanted a b c d m = true; simp [wanted, e1, e2]
            go_wp2_with (go_at_call 23; refine (link_any m _ _ _).mono ?_; rintro e w' ⟨rfl, rfl⟩)
            obtain ⟨wd, hwd⟩ : ∃ wd, wd = (wc.alloc (.cells #[.int .i64 m.At, .int .u64 m.From, .int .u64 m.To, .int .u64 m.Tag] 59)).alloc (.cells #[.int .i64 m.At, .int .u64 m.From, .int .u64 m.To, .int .u64 m.Tag] 59) := ⟨_, rfl⟩
            rw [← hwd]
            have GWd : Groups Try.prog 3 (w.heap.size + 2) 59 4 w.heap.size k Fly.cells (wantOf a b c d (fs.take k)) gw Dw wd := by rw [hwd]; exact (GW.alloc _).alloc _
            have SNd : TokMap Try.prog 3 (w.heap.size + 1) (k + 1) (.bool false) (fun t => .bool ((ticksOf (fs.take (k + 1))).contains t)) Ds2 wd := by rw [hwd]; exact (SN.kept (World.grownBy_alloc _ _ none) (by simp)).kept (World.grownBy_alloc _ _ none) (by simp)
            have TKd : wd.ownsRow (w.heap.size + 2) 3 1 tv3 (ticksOf (fs.take (k + 1))).length ((ticksOf (fs.take (k + 1))).map (Value.int .i64)) := by rw [hwd]; exact (TK.alloc _).alloc _
            have VMd : Var4 wr.heap.size m wd := by rw [hwd]; exact (VM.grown (World.grownBy_alloc _ _ none) (by simp)).grown (World.grownBy_alloc _ _ none) (by simp)
            have BLd : Below w.heap.size w wd := by rw [hwd]; exact (BL.alloc (by omega) _).alloc (by simp; omega) _
            have hNd : wr.heap.size < wd.heap.size := by rw [hwd]; simp; omega
            clear hwd v0 v1 v2 v3 VM
            have v0 := VMd.1
            have v1 := VMd.2.1
            have v2 := VMd.2.2.1
            have v3 := VMd.2.2.2
            obtain ⟨hL1, hL2, hrow0, hblk, hpush⟩ := push GWd m hwf (by unfold maxLen; omega)
            have HP := hid hpush
            have HB := hid hblk
            have hle := wantOf_le a b c d (fs.take k) m.At
            have hfar : some wr.heap.size ≠ (gw m.At).ownBlock := hGwFar
            clear hpush hblk
            go_region_held3 (fun w' => w'.cell? ⟨wr.heap.size, 0, none⟩ = some (.int .i64 m.At) ∧ w'.cell? ⟨wr.heap.size, 1, none⟩ = some (.int .u64 m.From) ∧ w'.cell? ⟨wr.heap.size, 2, none⟩ = some (.int .u64 m.To) ∧ w'.cell? ⟨wr.heap.size, 3, none⟩ = some (.int .u64 m.Tag))
              (first | exact VMd | exact Var4.grown VMd (World.grownBy_alloc _ _ none) (by simp) | exact Var4.grown (by assumption) hgrow hfar | exact Var4.grown (by assumption) hgr2 hfar2 | (simp [go_sem]; done) | go_keep)
              ((refine step_append_lies _ (by rfl) _ _ _ (by rfl) (w.heap.size + 2) 59 i4 _ 4 32 Try.underlying22 hi4 hy0 hy1 hy2 rfl (by omega) (gw m.At) _ _ (by rfl) hrow0 ⟨wd.heap.size, 0, none⟩ 1 1 [.int .i64 m.At, .int .u64 m.From, .int .u64 m.To, .int .u64 m.Tag] (by rfl) (by rfl) (World.news_of_block (cs := #[.int .i64 m.At, .int .u64 m.From, .int .u64 m.To, .int .u64 m.Tag]) (t := 59) (fr := (0, 0)) HB.out) (by simp [Value.oneCell']) (by omega) (by unfold maxLen; omega) (by omega) (by simp; omega) (wd.heap.size + 1) (by simp) ?_; intro gg cp w4 hown4 hgrow hat hlt4; obtain ⟨w5, hupd5, hG5, hgr2⟩ := HP.out gg cp w4 hown4 hgrow hat))
            all_goals
              obtain ⟨gw5, Dw5, hG5⟩ := hG5
              have hBe : Below w.heap.size w w5 := (((BLd.alloc (by omega) _).drew.grown hgrow (by simp; omega) (fun j hj => by have := (hrow0.lt j hj).1; omega)).grown hgr2 (by have := hgrow.size; simp at this; omega) (fun j hj => by cases hj; exact Nat.le_refl _))
              have TKe : w5.ownsRow (w.heap.size + 2) 3 1 tv3 (ticksOf (fs.take (k + 1))).length ((ticksOf (fs.take (k + 1))).map (Value.int .i64)) := by
                have q1 : (wd.alloc (.cells #[.int .i64 m.At, .int .u64 m.From, .int .u64 m.To, .int .u64 m.Tag] 59)).drew.ownsRow (w.heap.size + 2) 3 1 tv3 (ticksOf (fs.take (k + 1))).length ((ticksOf (fs.take (k + 1))).map (Value.int .i64)) := TKd.alloc _
                have q2 := q1.kept hgrow (rows_apart q1 hrow0 (by decide))
                exact q2.kept hgr2 (row_ne q2 (by omega))
              have SNe : TokMap Try.prog 3 (w.heap.size + 1) (k + 1) (.bool false) (fun t => .bool ((ticksOf (fs.take (k + 1))).contains t)) Ds2 w5 := by
                have q1 : TokMap Try.prog 3 (w.heap.size + 1) (k + 1) (.bool false) (fun t => .bool ((ticksOf (fs.take (k + 1))).contains t)) Ds2 (wd.alloc (.cells #[.int .i64 m.At, .int .u64 m.From, .int .u64 m.To, .int .u64 m.Tag] 59)).drew := SNd.kept (w' := (wd.alloc (.cells #[.int .i64 m.At, .int .u64 m.From, .int .u64 m.To, .int .u64 m.Tag] 59)).drew) (row := none) ⟨rfl, rfl, rfl, by simp, fun i hi _ => heap_alloc_old wd _ hi⟩ (by simp)
                exact (q1.kept hgrow (Ne.symm (low_ne hrow0 (by omega)))).kept hgr2 (by simp)
              have hSe : w.heap.size + 2 ≤ w5.heap.size := by have := hgrow.size; have := hgr2.size; simp at *; omega
              clear hown4 hgrow hat hlt4 hupd5 hgr2 hrow0 hL1 hL2 HP HB v0 v1 v2 v3
              go_wp2
              go_roundw
              case rel => exact ⟨k + 1, by omega, by go_num, ⟨gw5, Dw5, by rw [HS.out, wantOf_kept _ _ _ _ _ _ HWt.out]; exact hG5⟩, ⟨_, SNe⟩, TKe, hBe, hSe⟩
              case measure => simp [RowKit.intOf]; omega

    · have hke : k = len := by omega
      have hfe : fs.take k = fs := by rw [hke]; exact List.take_of_length_le (by rw [HLen.out]; exact Nat.le_refl _)
      rw [hfe, ← HFF.out] at GWr
      rw [hfe] at TKr
      have hTl : (ticksOf fs).length ≤ 32768 := by have := ticksOf_le fs; rw [HLen.out] at this; omega
      have hTnd := nodup_ticksOf fs
      have hsize : Maps.size D = (heldOf f (ticksOf fs)).length := hG.size_eq law3 Try.underlying3 (heldOf_nodup f hTnd) (fun x => by rw [HFF.out]; exact heldOf_keys x)
      have HSz : Hid (Maps.size D = (heldOf f (ticksOf fs)).length) := hsize
      have HFwf : Hid (∀ t, ∀ m ∈ f t, m.wf) := by show ∀ t, ∀ m ∈ f t, m.wf; rw [HFF.out]; exact wantOf_wf hF.1
      have HTwf : Hid (∀ t ∈ ticksOf fs, (Lit.int .i64 t).wf = true) := by
        intro t ht
        obtain ⟨m, hm, rfl⟩ := (mem_ticksOf fs t).1 ht
        exact (hF.1 m hm).1
      obtain ⟨T, hT⟩ : ∃ T, T = ticksOf fs := ⟨_, rfl⟩
      rw [← hT] at TKr hTl HSz HTwf
      have HTT : Hid (T = ticksOf fs) := hT
      have hGx : Groups Try.prog 3 base 69 17 gb n Fly.msg f g D wr := hG.grown (grown_of_below hB)
      have hl22 : ∀ w, (Builtin.len_ #[22] 3 #[.slice none 0 0]).run Try.prog w = .ok (.int .i64 0) w := fun _ => by kernel_rfl
      have hl73 : ∀ w, (Builtin.len_ #[73] 3 #[.slice none 0 0]).run Try.prog w = .ok (.int .i64 0) w := fun _ => by kernel_rfl
      clear hsize hTnd hT hfe hke SNr hG hF hS2
      obtain ⟨wx, hwx⟩ : ∃ wx, wx = wr := ⟨_, rfl⟩
      subst hwx
      rcases TKr.2 with ⟨rfl, h0⟩ | ⟨TB, tcap, tcur, rfl, hTB, hTh, htl, htc, hts, htt⟩
      · have hlenG := hGx.own.len Try.underlying27 3
        have hT0 : T = [] := List.eq_nil_of_length_eq_zero h0
        rw [HSz.out, hT0] at hlenG
        clear hT0 h0
        go_wp2_with fail
        refine wp_loop_rounds 1 ?_
        rw [rounds_succ]
        go_wp2
        go_ret
        exact ⟨by simp [heldOf], hB⟩
      · have hTcell : ∀ (i : Nat) (t : Int), T[i]? = some t → tcur[i]? = some (Value.int .i64 t) := fun i t hit => by
          have h1 : (tcur.toList.take (T.length * 1))[i]? = some (Value.int .i64 t) := by
            rw [htt]
            simp [hit]
          have hi := (List.getElem?_eq_some_iff.1 hit).1
          rw [List.getElem?_take, if_pos (by omega), Array.getElem?_toList] at h1
          exact h1
        clear TKr htt hts
        go_wp2_with fail
        go_loopw [18, 19] (fun hv i wr => ∃ k : Nat, k ≤ T.length ∧ i = .int .i64 k ∧ hv = .int .i64 (heldOf f (T.take k)).length ∧ wx.grownBy wr none)
          (fun _ i _ => T.length - (RowKit.intOf i).toNat)
        case atStart => exact ⟨0, Nat.zero_le _, rfl, by simp [heldOf], ⟨rfl, rfl, rfl, Nat.le_refl _, fun _ _ _ => rfl⟩⟩
        case round =>
          obtain ⟨k2, hk2, rfl, rfl, hgx⟩ := hrel
          have hGr := hGx.grown hgx
          have hGW := GWr.grown hgx
          by_cases hlt2 : k2 < T.length
          · obtain ⟨t, ht⟩ : ∃ t, T[k2]? = some t := ⟨T[k2], by simp⟩
            have hwft : (Lit.int .i64 t).wf = true := HTwf.out t (List.mem_of_getElem? ht)
            have hThr : wr.heap[TB]? = some (.cells tcur 3 (0, 0)) := (hgx.block TB (Array.getElem?_eq_some_iff.1 hTh).1 (by simp)).trans hTh
            have hcell : wr.cell? ⟨TB, k2, none⟩ = some (.int .i64 t) := by simp [World.cell?, hThr, hTcell k2 t ht]
            have hLw := hGW.run_look law3 Try.underlying3 Try.underlying71 (zero22 _) hwft
            have hLg := hGr.run_look_ok law3 Try.underlying3 Try.underlying27 (zero60 _) hwft
            have hhl := heldOf_le f T k2
            by_cases hft : f t = []
            · rw [hGW.nilAt hft] at hLw
              rw [hGr.nilAt hft, hft] at hLg
              have HN : Hid ((heldOf f (T.take (k2 + 1))).length = (heldOf f (T.take k2)).length) := heldOf_no ht hft
              have hLw' : (Instr.lookup 71 (.map (some w.heap.size)) (.int .i64 t) false).run Try.prog wr = .ok (.slice none 0 0) wr := hLw
              have hLg' : (Instr.lookup 27 (.map (some gb)) (.int .i64 t) true).run Try.prog wr = .ok (.tuple #[.slice none 0 0, .bool false]) wr := hLg
              clear hLw hLg hft
              go_wp2
              go_roundw
              case rel => exact ⟨k2 + 1, by omega, by go_num, by rw [HN.out], hgx⟩
              case measure => simp [RowKit.intOf]; omega
            · obtain ⟨G1, cap1, cur1, hg1, _, hh1, hlc1, hcm1, hcs1, hct1⟩ := hGr.rowAt hft
              obtain ⟨G2, cap2, cur2, hg2, _, hh2, hlc2, hcm2, hcs2, hct2⟩ := hGW.rowAt hft
              have HN : Hid ((heldOf f (T.take (k2 + 1))).length = (heldOf f (T.take k2)).length + 1) := heldOf_yes ht hft
              rw [hg2] at hLw
              rw [hg1, show (!(f t).isEmpty) = true by cases hq : f t <;> simp_all] at hLg
              have K17 := fun (i : Nat) (m : Fly) (hm : (f t)[i]? = some m) (c : Nat) (hc : c < 17) => cell17 hh1 hct1 hm c hc
              have K4 := fun (i : Nat) (m : Fly) (hm : (f t)[i]? = some m) (c : Nat) (hc : c < 4) => cell4 hh2 hct2 hm c hc
              have hxp : 0 < (f t).length := List.length_pos_iff.2 hft
              obtain ⟨xs, hxs⟩ : ∃ xs, xs = f t := ⟨_, rfl⟩
              rw [← hxs] at hLw hLg hlc1 hlc2 K17 K4 hxp
              have HC1 : Hid (cap1 ≤ maxLen) := hcm1
              have hmx1 : xs.length ≤ 9223372036854775807 := by have := HC1.out; simp [maxLen] at this; omega
              have hT1 : ((xs.length : Int) == 0) = false := beq_eq_false_iff_ne.2 (by omega)
              clear hxs hg1 hg2 hh1 hh2 hcs1 hcs2 hct1 hct2 hcm1 hcm2 hft
              obtain ⟨wo, hwo⟩ : ∃ wo, wo = wr := ⟨_, rfl⟩
              subst hwo
              go_wp2_with fail
              go_loopw [23] (fun i wr => ∃ j : Nat, j ≤ xs.length ∧ i = .int .i64 j ∧ wo.grownBy wr none)
                (fun i _ => xs.length - (RowKit.intOf i).toNat)
              case atStart => exact ⟨0, Nat.zero_le _, rfl, ⟨rfl, rfl, rfl, Nat.le_refl _, fun _ _ _ => rfl⟩⟩
              case round =>
                obtain ⟨j, hj, rfl, hgo⟩ := hrel
                by_cases hjl : j < xs.length
                · obtain ⟨m, hm⟩ : ∃ m, xs[j]? = some m := ⟨xs[j], by simp⟩
                  have p1 : wr.cell? ⟨G1, j * 17 + 1, none⟩ = some (.int .u64 m.From) := hgo.cell (K17 j m hm 1 (by omega)) (by simp)
                  have p2 : wr.cell? ⟨G1, j * 17 + 2, none⟩ = some (.int .u64 m.To) := hgo.cell (K17 j m hm 2 (by omega)) (by simp)
                  have p5 : wr.cell? ⟨G1, j * 17 + 5, none⟩ = some (.int .u64 m.Tag) := hgo.cell (K17 j m hm 5 (by omega)) (by simp)
                  have s1 : wr.cell? ⟨G2, j * 4 + 1, none⟩ = some (.int .u64 m.From) := hgo.cell (K4 j m hm 1 (by omega)) (by simp)
                  have s2 : wr.cell? ⟨G2, j * 4 + 2, none⟩ = some (.int .u64 m.To) := hgo.cell (K4 j m hm 2 (by omega)) (by simp)
                  have s3 : wr.cell? ⟨G2, j * 4 + 3, none⟩ = some (.int .u64 m.Tag) := hgo.cell (K4 j m hm 3 (by omega)) (by simp)
                  have b1 : (0 : Int) ≤ (j : Int) := Int.natCast_nonneg _
                  have b2 : (j : Int) < (xs.length : Int) := by omega
                  go_wp2_with fail
                  go_quiet (fail)
                  go_wp2
                  go_roundw
                  case rel => exact ⟨j + 1, by omega, by go_num, hgo.trans ⟨rfl, rfl, rfl, Nat.le_refl _, fun _ _ _ => rfl⟩⟩
                  case measure => simp [RowKit.intOf]; omega
                · go_wp2
                  go_roundw
                  case rel => exact ⟨k2 + 1, by omega, by go_num, by rw [HN.out]; go_num, hgx.trans hgo⟩
                  case measure => simp [RowKit.intOf]; omega
          · have hke2 : k2 = T.length := by omega
            have hlenG := hGr.own.len Try.underlying27 3
            rw [HSz.out] at hlenG
            have hte : T.take k2 = T := by rw [hke2]; exact List.take_length
            rw [hte]
            clear hte
            go_wp2
            go_ret
            exact ⟨by simp, hB.grown hgx hB.size (fun j hj => by cases hj)⟩
end Go.Proofs.Qxb6618980a
