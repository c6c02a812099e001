/-
  THE WALK OF 'loseBetween'.
-/
import Derived.Test.Qxb6618980aLose
import Derived.Test.Qxb6618980aOps
import Derived.Test.Qxb6618980aSorted
import Derived.Test.Qxb6618980aPlain
import Derived.WalkSpells
import Derived.Deep.AppendLies
import Derived.Deep.LoopGhost
import Derived.Deep.DeepCutAuto
namespace Go.Proofs.Qxb6618980a
open Go.RowKit Go.Maps

/-- The exchange's own block. -/
def XBlock (w : World) (X b : Nat) : Prop := w.heap[X]? = some (.cells #[.map (some b), .map none, .pointer none, .nilFunc] 57 (0, 0))
theorem XBlock.due {w : World} {X b : Nat} (h : XBlock w X b) : w.cell? ⟨X, 0, none⟩ = some (.map (some b)) := by simp [World.cell?, show w.heap[X]? = _ from h]
theorem XBlock.lost {w : World} {X b : Nat} (h : XBlock w X b) : w.cell? ⟨X, 3, none⟩ = some .nilFunc := by simp [World.cell?, show w.heap[X]? = _ from h]
theorem XBlock.lt {w : World} {X b : Nat} (h : XBlock w X b) : X < w.heap.size := (Array.getElem?_eq_some_iff.1 h).1
theorem XBlock.grown {w w' : World} {X b : Nat} (h : XBlock w X b) {row : Option Nat} (hg : w.grownBy w' row) (hne : some X ≠ row) : XBlock w' X b := (hg.block X h.lt hne).trans h

/-- Behind i of the keys. -/
def fAt (f : Int → List Fly) (a c : Int) (ts : List Int) (i : Nat) : Int → List Fly := fun k => if k ∈ ts.take i then (f k).filter (keepL a c) else f k

/-- The tests as the walk takes them: three ways in which a message is on the link, four in which it is not. -/
theorem lnk_cases (a c : Int) (m : Fly) :
    (keepL a c m = false ∧ (((m.From == a) = true ∧ (m.To == c) = true) ∨ ((m.From == a) = true ∧ (m.To == c) = false ∧ (m.From == c) = true ∧ (m.To == a) = true) ∨ ((m.From == a) = false ∧ (m.From == c) = true ∧ (m.To == a) = true))) ∨
    (keepL a c m = true ∧ (((m.From == a) = true ∧ (m.To == c) = false ∧ (m.From == c) = true ∧ (m.To == a) = false) ∨ ((m.From == a) = true ∧ (m.To == c) = false ∧ (m.From == c) = false) ∨ ((m.From == a) = false ∧ (m.From == c) = true ∧ (m.To == a) = false) ∨ ((m.From == a) = false ∧ (m.From == c) = false))) := by
  unfold keepL lnk
  cases (m.From == a) <;> cases (m.To == c) <;> cases (m.From == c) <;> cases (m.To == a) <;> simp

theorem take_lost {xs : List Fly} {j : Nat} {m : Fly} {p : Fly → Bool} (hm : xs[j]? = some m) (hp : p m = false) : (xs.take (j + 1)).filter p = (xs.take j).filter p := by
  rw [List.take_add_one, hm, List.filter_append]
  simp [hp]
theorem take_kept {xs : List Fly} {j : Nat} {m : Fly} {p : Fly → Bool} (hm : xs[j]? = some m) (hp : p m = true) : (xs.take (j + 1)).filter p = (xs.take j).filter p ++ [m] := by
  rw [List.take_add_one, hm, List.filter_append]
  simp [hp]
theorem take_le (xs : List Fly) (j : Nat) (p : Fly → Bool) : ((xs.take j).filter p).length ≤ j := by
  have h1 := List.length_filter_le p (xs.take j)
  have h2 := List.length_take_le j xs
  omega

theorem fAt_succ {f : Int → List Fly} {a c : Int} {ts : List Int} {k : Nat} {t : Int} (ht : ts[k]? = some t) : fAt f a c ts (k + 1) = upd (fAt f a c ts k) t ((f t).filter (keepL a c)) := by
  funext x
  unfold fAt upd
  rw [List.take_add_one, ht]
  by_cases hx : x = t
  · subst hx; simp
  · simp [hx]
theorem fAt_here {f : Int → List Fly} {a c : Int} {ts : List Int} {k : Nat} {t : Int} (hnd : ts.Nodup) (ht : ts[k]? = some t) : fAt f a c ts k t = f t := by
  unfold fAt
  rw [if_neg]
  intro hm
  obtain ⟨i, hi⟩ := List.mem_iff_getElem?.1 hm
  rw [List.getElem?_take] at hi
  split at hi
  · rename_i hlt
    obtain ⟨h1, h2⟩ := List.getElem?_eq_some_iff.1 hi
    obtain ⟨h3, h4⟩ := List.getElem?_eq_some_iff.1 ht
    exact (List.pairwise_iff_getElem.1 hnd) i k h1 h3 hlt (h2.trans h4.symm)
  · cases hi
theorem fAt_all {f : Int → List Fly} {a c : Int} {ts : List Int} (hm : ∀ k, k ∈ ts ↔ f k ≠ []) : fAt f a c ts ts.length = fun k => (f k).filter (keepL a c) := by
  funext x
  unfold fAt
  rw [List.take_length]
  by_cases hx : x ∈ ts
  · rw [if_pos hx]
  · rw [if_neg hx]
    have : f x = [] := by
      cases hf : f x with
      | nil => rfl
      | cons _ _ => exact absurd ((hm x).2 (by rw [hf]; simp)) hx
    rw [this]
    rfl
theorem fAt_none (f : Int → List Fly) (a c : Int) (ts : List Int) : fAt f a c ts 0 = f := by
  funext x
  simp [fAt]

set_option maxRecDepth 100000 in
set_option maxHeartbeats 8000000 in
theorem between_any (X b base n : Nat) (f : Int → List Fly) (g : Int → Value) (D : DataW Value) (a c : Int) (w : World) (hX : XBlock w X b) (hG : Groups Try.prog 3 base 69 17 b n Fly.msg f g D w) (hn : n ≤ 1000000) :
    Calls Try.prog 22 #[.pointer (some ⟨X, 0, none⟩), .int .u64 a, .int .u64 c] w fun e w' => e = .returned (.tuple #[]) ∧
      (∃ n' g' D', n' ≤ n + n ∧ Groups Try.prog 3 base 69 17 b n' Fly.msg (fun k => (f k).filter (keepL a c)) g' D' w') ∧ XBlock w' X b ∧ Below b w w' := by
  have hx0 := hX.due
  have hsz : Maps.size D ≤ n := hG.own.size_le
  have hbw := hG.own.lt
  go_enter Try.func22, Try.ntmps22
  go_wp2_with (go_at_call 27; refine (keys_any _ _).mono ?_; rintro e w' ⟨rfl, rfl⟩)
  refine (sorted_any b n D tokR w hG.own (by unfold maxLen; omega) (by omega)).mono ?_
  rintro e w1 ⟨v, ss, rfl, hp, hrow, hnil, hb1⟩
  obtain ⟨hnd, hmem, hwf, hlen⟩ := hG.keys law3 Try.underlying3 hp
  have hsl : ss.length ≤ 1000000 := by omega
  have HL : Hid (ss.length = Maps.size D) := hlen
  clear hlen
  obtain ⟨ts, hts⟩ : ∃ ts, ts = ss.mergeSort (fun x y => decide (x ≤ y)) := ⟨_, rfl⟩
  have hperm : ts.Perm ss := by rw [hts]; exact List.mergeSort_perm _ _
  rw [← hts] at hrow
  clear hts
  have hmemt : ∀ k, k ∈ ts ↔ f k ≠ [] := fun k => (hperm.mem_iff).trans (hmem k)
  have hndt : ts.Nodup := hperm.symm.nodup hnd
  have hlt' : ts.length = ss.length := hperm.length_eq
  have HT : Hid (ts.length = ss.length) := hlt'
  clear hlt'
  have hgk : w.grownBy (w.alloc (.cells #[.map (some b)] 27)) none := World.grownBy_alloc _ _ _
  have hb1' : Below (w.alloc (.cells #[.map (some b)] 27)).heap.size (w.alloc (.cells #[.map (some b)] 27)) w1 := by rw [World.size_alloc]; exact hb1
  have hG1 : Groups Try.prog 3 base 69 17 b n Fly.msg f g D w1 := (hG.grown hgk).below hb1'
  have hX1 : XBlock w1 X b := (hX.grown hgk (by simp)).grown (grown_of_below hb1') (by simp)
  have hB1 : Below b w w1 := ((Below.refl b w).grown hgk (by omega) (fun j hj => by cases hj)).trans (hb1.mono (by omega))
  clear hb1' hgk
  rcases hrow.2 with ⟨rfl, h0⟩ | ⟨TB, tcap, tcur, rfl, hTB, hTh, htl, htc, hts, htt⟩
  · have hss : ss = [] := List.eq_nil_of_length_eq_zero h0
    have hf0 : ∀ k, f k = [] := fun k => by
      cases hf : f k with
      | nil => rfl
      | cons _ _ => exact absurd ((hmem k).2 (by rw [hf]; simp)) (by rw [hss]; simp)
    have HF : Hid (f = fun k => (f k).filter (keepL a c)) := by
      funext k
      rw [hf0 k]
      rfl
    have hl0 : ∀ w, (Builtin.len_ #[73] 3 #[.slice none 0 0]).run Try.prog w = .ok (.int .i64 0) w := fun _ => by kernel_rfl
    clear hf0 h0 hrow hmem hmemt hss
    go_wp2_with fail
    refine wp_loop_rounds 1 ?_
    rw [rounds_succ]
    go_wp2
    go_end0
    refine ⟨rfl, ⟨n, g, D, by omega, ?_⟩, hX1, hB1⟩
    rw [← HF.out]
    exact hG1
  · have htcells : ∀ (i : Nat) (t : Int), ts[i]? = some t → tcur[i]? = some (Value.int .i64 t) := fun i t hit => by
      have h1 : (tcur.toList.take (ss.length * 1))[i]? = some (Value.int .i64 t) := by
        rw [htt]
        simp [hit]
      have hi := (List.getElem?_eq_some_iff.1 hit).1
      have := HT.out
      rw [List.getElem?_take, if_pos (by omega), Array.getElem?_toList] at h1
      exact h1
    have hXT : X ≠ TB := fun e1 => by
      have h1 : w1.heap[X]? = _ := hX1
      rw [e1, hTh] at h1
      simp at h1
    have hbT : b ≠ TB := by have := hTB; omega
    have hXb : X ≠ b := fun e1 => by
      obtain ⟨es, clock, h1, _⟩ := hG.own
      have h2 : w.heap[X]? = _ := hX
      rw [e1, h1] at h2
      simp at h2
    clear hrow hmem htt hts hnil
    go_wp2_with fail
    go_loopw [19] (fun i wr => ∃ k : Nat, k ≤ ss.length ∧ i = .int .i64 k ∧ (∃ n' g' D', n' ≤ n + k ∧ Groups Try.prog 3 base 69 17 b n' Fly.msg (fAt f a c ts k) g' D' wr) ∧ XBlock wr X b ∧ wr.heap[TB]? = some (.cells tcur 3 (0, 0)) ∧ Below b w wr)
      (fun i _ => ss.length - (RowKit.intOf i).toNat)
    case atStart => exact ⟨0, Nat.zero_le _, rfl, ⟨n, g, D, by omega, by rw [fAt_none]; exact hG1⟩, hX1, hTh, hB1⟩
    case round =>
      obtain ⟨k, hk, rfl, ⟨n', g', D', hn', hGr⟩, hXr, hThr, hBr⟩ := hrel
      by_cases hlt : k < ss.length
      · obtain ⟨t, ht⟩ : ∃ t, ts[k]? = some t := ⟨ts[k]'(by rw [HT.out]; exact hlt), by simp⟩
        have htm : t ∈ ts := List.mem_of_getElem? ht
        have hcell : wr.cell? ⟨TB, k, none⟩ = some (.int .i64 t) := by simp [World.cell?, hThr, htcells k t ht]
        have hft : fAt f a c ts k t = f t := fAt_here hndt ht
        have hne : f t ≠ [] := (hmemt t).1 htm
        have hwft : (Lit.int .i64 t).wf = true := hwf t (hperm.mem_iff.1 htm)
        obtain ⟨G, cap, cur, hgt, hbG, hGh, hlc, hcm, hcs, hct⟩ := hGr.rowAt (k := t) (by rw [hft]; exact hne)
        rw [hft] at hgt hlc hct
        have hGX : G ≠ X := fun e1 => by
          have h1 : wr.heap[X]? = _ := hXr
          rw [← e1, hGh] at h1
          simp at h1
        have hGT : G ≠ TB := fun e1 => by
          rw [e1, hThr] at hGh
          simp at hGh
        have hGb : b < G := Nat.lt_of_lt_of_le hGr.lt hbG
        have hL := hGr.run_look law3 Try.underlying3 Try.underlying27 (zero60 _) (k := t) hwft
        rw [hgt] at hL
        have hxr0 := hXr.due
        have hRs : RowIs wr G cap [] 0 (f t) := RowIs.start hGh hcs hct
        obtain ⟨xs, hxs⟩ : ∃ xs, xs = f t := ⟨_, rfl⟩
        rw [← hxs] at hgt hlc hct hL hRs hne
        have HX : Hid (xs = f t) := hxs
        clear hxs hcs hct hGh
        obtain ⟨wo, hwo⟩ : ∃ wo, wo = wr := ⟨_, rfl⟩
        subst hwo
        go_wp2_with fail
        go_loopg [9, 33] xs.length (fun gk kv ji wi => ∃ j : Nat, j ≤ xs.length ∧ gk = xs.length - j ∧ ji = .int .i64 j ∧ kv = .slice (some ⟨G, 0, none⟩) ((xs.take j).filter (keepL a c)).length cap ∧ RowIs wi G cap ((xs.take j).filter (keepL a c)) j xs ∧ wo.grownBy wi (some G))
        case atStart => exact ⟨0, Nat.zero_le _, by omega, rfl, by simp, by simpa using hRs, ⟨rfl, rfl, rfl, Nat.le_refl _, fun _ _ _ => rfl⟩⟩
        case round =>
          obtain ⟨j, hj, rfl, rfl, rfl, hR, hgw⟩ := hrel
          have hXi : XBlock wr X b := hXr.grown hgw (by simpa using Ne.symm hGX)
          have hxl := hXi.lost
          have hxd := hXi.due
          have hXlt := hXi.lt
          have hGlt := hR.lt
          by_cases hjl : j < xs.length
          · obtain ⟨m, hm⟩ : ∃ m, xs[j]? = some m := ⟨xs[j], by simp⟩
            have hra : wr.rangeAt G (j * 17) m.msg := fun i v hv => by
              have hi : i < 17 := (List.getElem?_eq_some_iff.1 hv).1
              rw [hR.cell hm i hi, hv]
            have hrn : (wr.alloc (.cells m.msg.toArray 69)).rangeAt wr.heap.size 0 m.msg := fun i v hv => by
              simp only [Nat.zero_add, World.cell?, heap_alloc_new]
              simpa using hv
            have hF1 : (wr.alloc (.cells m.msg.toArray 69)).cell? ⟨wr.heap.size, 1, none⟩ = some (.int .u64 m.From) := hrn 1 _ rfl
            have hF2 : (wr.alloc (.cells m.msg.toArray 69)).cell? ⟨wr.heap.size, 2, none⟩ = some (.int .u64 m.To) := hrn 2 _ rfl
            have hG1' : m.msg[1]? = some (.int .u64 m.From) := rfl
            have hG2' : m.msg[2]? = some (.int .u64 m.To) := rfl
            have hmx : cap ≤ 9223372036854775807 := by simpa [maxLen] using hcm
            have hxl' : ∀ o, (wr.alloc o).cell? ⟨X, 3, none⟩ = some .nilFunc := fun o => Lib.cell?_alloc_some o hxl
            have hlej := take_le xs j (keepL a c)
            have hR2 : RowIs ((wr.alloc (.cells m.msg.toArray 69)).alloc (.cells m.msg.toArray 69)) G cap ((xs.take j).filter (keepL a c)) j xs :=
              (hR.grown (World.grownBy_alloc wr _ none) (by simp)).grown (World.grownBy_alloc _ _ none) (by simp)
            have hgw2 : wo.grownBy ((wr.alloc (.cells m.msg.toArray 69)).alloc (.cells m.msg.toArray 69)) (some G) := (hgw.trans (World.grownBy_alloc wr _ _)).trans (World.grownBy_alloc _ _ _)
            have HB : Hid (((wr.alloc (.cells m.msg.toArray 69)).alloc (.cells m.msg.toArray 69)).heap[wr.heap.size + 1]? = some (.cells m.msg.toArray 69 (0, 0))) := by
              have h1 := heap_alloc_new (wr.alloc (.cells m.msg.toArray 69)) (.cells m.msg.toArray 69)
              rw [World.size_alloc] at h1
              exact h1
            go_upto_region 8 with (first | (refine wpList_load_msg _ rfl _ rfl _ _ rfl m (by first | exact hra | exact hrn) ?_) | (refine wpList_store_new _ rfl _ _ rfl wr _ rfl rfl m rfl rfl ?_))
            go_frame
            go_cut [58] (fun tt wx => tt = .bool (lnk a c m) ∧ wr.alloc (.cells m.msg.toArray 69) = wx)
            case first =>
              rcases lnk_cases a c m with ⟨hl, h⟩ | ⟨hl, h⟩
              · have HK : Hid (lnk a c m = true) := by show _ = _; unfold keepL at hl; simpa using hl
                clear hl
                rcases h with ⟨e1, e2⟩ | ⟨e1, e2, e3, e4⟩ | ⟨e1, e3, e4⟩
                all_goals
                  go_wp2_with fail
                  go_meet
                  case rel => exact ⟨by rw [HK.out], rfl⟩
              · have HK : Hid (lnk a c m = false) := by show _ = _; unfold keepL at hl; simpa using hl
                clear hl
                rcases h with ⟨e1, e2, e3, e4⟩ | ⟨e1, e2, e3⟩ | ⟨e1, e3, e4⟩ | ⟨e1, e3⟩
                all_goals
                  go_wp2_with fail
                  go_meet
                  case rel => exact ⟨by rw [HK.out], rfl⟩
            case rest =>
              obtain ⟨rfl, rfl⟩ := hcut
              cases hlk : lnk a c m with
              | true =>
                have HK : Hid (keepL a c m = false) := by show _ = _; unfold keepL; rw [hlk]; rfl
                go_wp2_with (first | (go_at_call 28; refine (lose_any X m _ (hxl' _)).mono ?_; rintro e w' ⟨rfl, rfl⟩) | (refine wpList_load_msg _ rfl _ rfl _ _ rfl m (by first | exact hra | exact hrn) ?_))
                go_roundg (xs.length - (j + 1))
                case rel => exact ⟨j + 1, by omega, rfl, by go_num, by rw [take_lost hm HK.out], by rw [take_lost hm HK.out]; exact hR2.skip, hgw2⟩
                case measure => omega
              | false =>
                have HK : Hid (keepL a c m = true) := by show _ = _; unfold keepL; rw [hlk]; rfl
                go_wp2_with (first | (at_builtin; refine wpList_append_row _ rfl _ _ rfl G cap j _ xs hR2 hlej (by omega) m ⟨wr.heap.size + 1, 0, none⟩ 1 rfl rfl (World.news_of_block (cs := m.msg.toArray) (t := 69) (fr := (0, 0)) HB.out) ?_; intro w' hR3 hg3) | (refine wpList_load_msg _ rfl _ rfl _ _ rfl m (by first | exact hra | exact hrn) ?_) | (refine wpList_slice_msg _ rfl _ rfl m rfl (wr.heap.size + 1) (by simp) ?_))
                go_roundg (xs.length - (j + 1))
                case rel => exact ⟨j + 1, by omega, rfl, by go_num, by rw [take_kept hm HK.out]; simp, by rw [take_kept hm HK.out]; exact hR3, hgw2.trans hg3⟩
                case measure => omega
          · have hje : j = xs.length := by omega
            subst hje
            rw [List.take_length] at hR
            obtain ⟨ys, hys⟩ : ∃ ys, ys = xs.filter (keepL a c) := ⟨_, rfl⟩
            have hyl : ys.length ≤ xs.length := by rw [hys]; exact List.length_filter_le _ _
            have HY : Hid (ys = xs.filter (keepL a c)) := hys
            have hek : (xs.take xs.length).filter (keepL a c) = ys := by rw [List.take_length, hys]
            rw [← hys] at hR
            clear hys
            rw [hek]
            clear hek
            have hGo : (g' t).ownBlock = some G := by rw [hgt]; rfl
            have HF : Hid (fAt f a c ts (k + 1) = upd (fAt f a c ts k) t ys) := by
              have := fAt_succ (f := f) (a := a) (c := c) ht
              rw [← HX.out, ← HY.out] at this
              exact this
            have hmx : cap ≤ 9223372036854775807 := by simpa [maxLen] using hcm
            have hXG : some X ≠ some G := by simpa using Ne.symm hGX
            have hBi : Below b w wr := hBr.grown hgw (by have := hBr.size; omega) (fun i hi => by cases hi; omega)
            have hxp : 0 < xs.length := List.length_pos_iff.2 hne
            by_cases hy : ys = []
            · have hT : ((ys.length : Int) == 0) = true := by rw [hy]; rfl
              have hce : ¬ cap = ys.length := by rw [hy]; simp; omega
              have HY0 : Hid (ys = []) := hy
              clear hy
              go_wp2_with (first | (at_delete; refine wpList_delete_groups _ rfl _ _ rfl hGr hwft (by rw [hGo]; exact hgw.trans hg3) rfl rfl ?_; intro w4 hG4 hg4) | (refine wpList_clear_row _ rfl _ rfl G _ xs.length _ _ _ ys xs hR (Nat.le_refl _) rfl ?_ ?_; (first | exact .inr ⟨rfl, by omega⟩ | exact .inl (by omega)); intro w3 hR3 hg3; have hX3 := hXi.grown hg3 hXG; have hxd3 := hX3.due))
              have hBe : Below b w w4 := (hBi.grown hg3 (by have := hBi.size; omega) (fun i hi => by cases hi; omega)).grown hg4 (by have := hBi.size; have := hg3.size; omega) (fun i hi => by cases hi; exact Nat.le_refl _)
              have hXe : XBlock w4 X b := hX3.grown hg4 (by simpa using hXb)
              have hTe : w4.heap[TB]? = some (.cells tcur 3 (0, 0)) := by
                have q0 : TB < wo.heap.size := (Array.getElem?_eq_some_iff.1 hThr).1
                have q1 := (hgw.trans hg3).block TB q0 (by simpa using Ne.symm hGT)
                have q2 := hg4.block TB (Nat.lt_of_lt_of_le q0 (hgw.trans hg3).size) (by simpa using Ne.symm hbT)
                exact q2.trans (q1.trans hThr)
              go_roundw
              case rel => exact ⟨k + 1, by omega, by go_num, ⟨n', _, _, by omega, by rw [HF.out]; rw [HY0.out]; exact hG4⟩, hXe, hTe, hBe⟩
              case measure => simp [RowKit.intOf]; omega
            · have hT : ((ys.length : Int) == 0) = false := by
                cases ys with
                | nil => exact absurd rfl hy
                | cons y r => simp; omega
              by_cases hce : cap = ys.length
              · subst hce
                go_wp2_with (first | (at_mapUpdate; refine wpList_store_groups _ rfl _ _ _ rfl hGr (by unfold maxLen; omega) hwft (by rw [hGo]; exact hgw.trans hg3) (hR3.owns hbG (by omega) hcm) hy (by rw [hGo]; rfl) rfl rfl rfl ?_; intro w4 hG4 hg4) | (refine wpList_clear_row _ rfl _ rfl G _ xs.length _ _ _ ys xs hR (Nat.le_refl _) rfl ?_ ?_; (first | exact .inr ⟨rfl, by omega⟩ | exact .inl (by omega)); intro w3 hR3 hg3; have hX3 := hXi.grown hg3 hXG; have hxd3 := hX3.due))
                have hBe : Below b w w4 := (hBi.grown hg3 (by have := hBi.size; omega) (fun i hi => by cases hi; omega)).grown hg4 (by have := hBi.size; have := hg3.size; omega) (fun i hi => by cases hi; exact Nat.le_refl _)
                have hXe : XBlock w4 X b := hX3.grown hg4 (by simpa using hXb)
                have hTe : w4.heap[TB]? = some (.cells tcur 3 (0, 0)) := by
                  have q0 : TB < wo.heap.size := (Array.getElem?_eq_some_iff.1 hThr).1
                  have q1 := (hgw.trans hg3).block TB q0 (by simpa using Ne.symm hGT)
                  have q2 := hg4.block TB (Nat.lt_of_lt_of_le q0 (hgw.trans hg3).size) (by simpa using Ne.symm hbT)
                  exact q2.trans (q1.trans hThr)
                go_roundw
                case rel => exact ⟨k + 1, by omega, by go_num, ⟨n' + 1, _, _, by omega, by rw [HF.out]; exact hG4⟩, hXe, hTe, hBe⟩
                case measure => simp [RowKit.intOf]; omega
              · go_wp2_with (first | (at_mapUpdate; refine wpList_store_groups _ rfl _ _ _ rfl hGr (by unfold maxLen; omega) hwft (by rw [hGo]; exact hgw.trans hg3) (hR3.owns hbG (by omega) hcm) hy (by rw [hGo]; rfl) rfl rfl rfl ?_; intro w4 hG4 hg4) | (refine wpList_clear_row _ rfl _ rfl G _ xs.length _ _ _ ys xs hR (Nat.le_refl _) rfl ?_ ?_; (first | exact .inr ⟨rfl, by omega⟩ | exact .inl (by omega)); intro w3 hR3 hg3; have hX3 := hXi.grown hg3 hXG; have hxd3 := hX3.due))
                have hBe : Below b w w4 := (hBi.grown hg3 (by have := hBi.size; omega) (fun i hi => by cases hi; omega)).grown hg4 (by have := hBi.size; have := hg3.size; omega) (fun i hi => by cases hi; exact Nat.le_refl _)
                have hXe : XBlock w4 X b := hX3.grown hg4 (by simpa using hXb)
                have hTe : w4.heap[TB]? = some (.cells tcur 3 (0, 0)) := by
                  have q0 : TB < wo.heap.size := (Array.getElem?_eq_some_iff.1 hThr).1
                  have q1 := (hgw.trans hg3).block TB q0 (by simpa using Ne.symm hGT)
                  have q2 := hg4.block TB (Nat.lt_of_lt_of_le q0 (hgw.trans hg3).size) (by simpa using Ne.symm hbT)
                  exact q2.trans (q1.trans hThr)
                go_roundw
                case rel => exact ⟨k + 1, by omega, by go_num, ⟨n' + 1, _, _, by omega, by rw [HF.out]; exact hG4⟩, hXe, hTe, hBe⟩
                case measure => simp [RowKit.intOf]; omega
      · have hke : k = ss.length := by omega
        go_wp2
        go_end0
        refine ⟨rfl, ⟨n', g', D', by have := HL.out; omega, ?_⟩, hXr, hBr⟩
        rw [← fAt_all hmemt, HT.out, ← hke]
        exact hGr
end Go.Proofs.Qxb6618980a
