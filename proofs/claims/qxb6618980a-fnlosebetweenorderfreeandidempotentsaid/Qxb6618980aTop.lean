/-
  THE WALKS OF THE TWO LAWS THEMSELVES.
-/
import Derived.Test.Qxb6618980aSmall
import Derived.Test.Qxb6618980aMatch
namespace Go.Proofs.Qxb6618980a
open Go.RowKit

theorem new_block (w : World) (b : Nat) : XBlock (w.alloc (.cells #[.map (some b), .map none, .pointer none, .nilFunc] 57)) w.heap.size b := heap_alloc_new w _

set_option maxRecDepth 100000 in
set_option maxHeartbeats 4000000 in
theorem top1 (la : Option Addr) (len cap : Nat) (fs : List Fly) (a b : Int) (w : World) (hl : fs.length = len) (hF : Flies w la fs) :
    Calls Try.prog 3 #[.slice la len cap, .int .u64 a, .int .u64 b] w fun e w' => e = .returned (.bool true) ∧ Below w.heap.size w w' := by
  have HLen : Hid (fs.length = len) := hl
  clear hl
  by_cases h1 : 1048576 < len
  · go_enter Try.func3, Try.ntmps3
    go_wp2
    go_ret
    exact ⟨rfl, Below.refl _ _⟩
  · by_cases h2 : 32768 < len
    · go_enter Try.func3, Try.ntmps3
      go_wp2
      go_ret
      exact ⟨rfl, Below.refl _ _⟩
    · have h3 : len ≤ 32768 := by omega
      clear h1 h2
      go_enter Try.func3, Try.ntmps3
      go_wp2_with (go_at_call 7; refine (bytes7 la len cap a b _ h3).mono ?_; rintro e w' ⟨rfl, rfl⟩)
      refine (build_any la len cap fs HLen.out h3 w hF).mono ?_
      rintro e w1 ⟨rfl, ⟨g1, D1, G1⟩, B1⟩
      go_wp2_with fail
      refine (new_any _ _).mono ?_
      rintro e w' ⟨rfl, rfl⟩
      have hs1 := B1.size
      have X1 := new_block w1 w.heap.size
      have G1' := G1.alloc (.cells #[.map (some w.heap.size), .map none, .pointer none, .nilFunc] 57)
      go_wp2_with fail
      refine (lose_all _ _ _ _ _ _ _ a b _ X1 G1' (by omega)).mono ?_
      rintro e w2 ⟨rfl, ⟨n2, g2, D2, hn2, G2⟩, X2, B2⟩
      have B02 : Below w.heap.size w w2 := (B1.alloc hs1 _).trans B2
      go_wp2_with fail
      refine (due_any _ _ _ X2).mono ?_
      rintro e w' ⟨rfl, rfl⟩
      go_wp2_with fail
      refine (matches_any _ _ _ _ _ _ fs la len cap a b a b _ G2 (hF.below (Nat.le_refl _) B02) HLen.out h3 (funext fun t => one_link a b fs t)).mono ?_
      rintro e w3 ⟨rfl, B3⟩
      go_wp2_with fail
      go_ret
      exact ⟨rfl, B02.trans (B3.mono B02.size)⟩

set_option maxRecDepth 100000 in
set_option maxHeartbeats 4000000 in
theorem top2 (la : Option Addr) (len cap : Nat) (fs : List Fly) (a b c d : Int) (w : World) (hl : fs.length = len) (hF : Flies w la fs) :
    Calls Try.prog 4 #[.slice la len cap, .int .u64 a, .int .u64 b, .int .u64 c, .int .u64 d] w fun e w' => e = .returned (.bool true) ∧ Below w.heap.size w w' := by
  have HLen : Hid (fs.length = len) := hl
  clear hl
  by_cases h1 : 1048576 < len
  · go_enter Try.func4, Try.ntmps4
    go_wp2
    go_ret
    exact ⟨rfl, Below.refl _ _⟩
  · by_cases h2 : 32768 < len
    · go_enter Try.func4, Try.ntmps4
      go_wp2
      go_ret
      exact ⟨rfl, Below.refl _ _⟩
    · have h3 : len ≤ 32768 := by omega
      clear h1 h2
      go_enter Try.func4, Try.ntmps4
      go_wp2_with (go_at_call 13; refine (bytes13 la len cap a b c d _ h3).mono ?_; rintro e w' ⟨rfl, rfl⟩)
      -- the exchange x
      refine (build_any la len cap fs HLen.out h3 w hF).mono ?_
      rintro e w1 ⟨rfl, ⟨g1, D1, G1⟩, B1⟩
      go_wp2_with fail
      refine (new_any _ _).mono ?_
      rintro e w' ⟨rfl, rfl⟩
      have hs1 := B1.size
      have X1 := new_block w1 w.heap.size
      have G1' := G1.alloc (.cells #[.map (some w.heap.size), .map none, .pointer none, .nilFunc] 57)
      go_wp2_with fail
      refine (lose_all _ _ _ _ _ _ _ a b _ X1 G1' (by omega)).mono ?_
      rintro e w2 ⟨rfl, ⟨n2, g2, D2, hn2, G2⟩, X2, B2⟩
      have B02 : Below w.heap.size w w2 := (B1.alloc hs1 _).trans B2
      go_wp2_with fail
      refine (lose_all _ _ _ _ _ _ _ c d _ X2 G2 (by omega)).mono ?_
      rintro e w3 ⟨rfl, ⟨n3, g3, D3, hn3, G3⟩, X3, B3⟩
      have B03 : Below w.heap.size w w3 := B02.trans B3
      go_wp2_with fail
      -- the exchange y
      refine (build_any la len cap fs HLen.out h3 w3 (hF.below (Nat.le_refl _) B03)).mono ?_
      rintro e w4 ⟨rfl, ⟨g4, D4, G4⟩, B4⟩
      go_wp2_with fail
      refine (new_any _ _).mono ?_
      rintro e w' ⟨rfl, rfl⟩
      have hs4 := B4.size
      have Y4 := new_block w4 w3.heap.size
      have G4' := G4.alloc (.cells #[.map (some w3.heap.size), .map none, .pointer none, .nilFunc] 57)
      go_wp2_with fail
      refine (lose_all _ _ _ _ _ _ _ c d _ Y4 G4' (by omega)).mono ?_
      rintro e w5 ⟨rfl, ⟨n5, g5, D5, hn5, G5⟩, Y5, B5⟩
      go_wp2_with fail
      refine (lose_all _ _ _ _ _ _ _ b a _ Y5 G5 (by omega)).mono ?_
      rintro e w6 ⟨rfl, ⟨n6, g6, D6, hn6, G6⟩, Y6, B6⟩
      go_wp2_with fail
      refine (lose_all _ _ _ _ _ _ _ a b _ Y6 G6 (by omega)).mono ?_
      rintro e w7 ⟨rfl, ⟨n7, g7, D7, hn7, G7⟩, Y7, B7⟩
      have B37 : Below w3.heap.size w3 w7 := (((B4.alloc hs4 _).trans B5).trans B6).trans B7
      have B07 : Below w.heap.size w w7 := B03.trans (B37.mono B03.size)
      have X7 : XBlock w7 w1.heap.size w.heap.size := X3.grown (grown_of_below B37) (by simp)
      have G37 := G3.below B37
      go_wp2_with fail
      -- the two looks
      refine (due_any _ _ _ X7).mono ?_
      rintro e w' ⟨rfl, rfl⟩
      go_wp2_with fail
      refine (matches_any _ _ _ _ _ _ fs la len cap a b c d _ G37 (hF.below (Nat.le_refl _) B07) HLen.out h3 (funext fun t => two_links a b c d fs t)).mono ?_
      rintro e w8 ⟨rfl, B8⟩
      have Y8 : XBlock w8 w4.heap.size w3.heap.size := Y7.grown (grown_of_below B8) (by simp)
      have G8 := G7.below B8
      have B08 : Below w.heap.size w w8 := B07.trans (B8.mono B07.size)
      go_wp2_with fail
      refine (due_any _ _ _ Y8).mono ?_
      rintro e w' ⟨rfl, rfl⟩
      go_wp2_with fail
      refine (matches_any _ _ _ _ _ _ fs la len cap a b c d _ G8 (hF.below (Nat.le_refl _) B08) HLen.out h3 (funext fun t => three_links a b c d fs t)).mono ?_
      rintro e w9 ⟨rfl, B9⟩
      go_wp2_with fail
      go_ret
      exact ⟨rfl, B08.trans (B9.mono B08.size)⟩
end Go.Proofs.Qxb6618980a
