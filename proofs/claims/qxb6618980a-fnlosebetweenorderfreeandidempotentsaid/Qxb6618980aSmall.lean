/-
  THE SMALL WALKS: 'ZZnewExchange', 'ZZdue', 'ZZloseBetween', the two bounds on lengths.
-/
import Derived.Test.Qxb6618980aBetween
namespace Go.Proofs.Qxb6618980a
open Go.RowKit

theorem bytes7 (la : Option Addr) (len cap : Nat) (a b : Int) (w : World) (hl : len ≤ 32768) : Calls Try.prog 7 #[.slice la len cap, .int .u64 a, .int .u64 b] w fun e w' => e = .returned (.bool true) ∧ w = w' := by
  go_enter Try.func7, Try.ntmps7
  go_wp2
  go_ret
  exact ⟨rfl, rfl⟩

theorem bytes13 (la : Option Addr) (len cap : Nat) (a b c d : Int) (w : World) (hl : len ≤ 32768) : Calls Try.prog 13 #[.slice la len cap, .int .u64 a, .int .u64 b, .int .u64 c, .int .u64 d] w fun e w' => e = .returned (.bool true) ∧ w = w' := by
  go_enter Try.func13, Try.ntmps13
  go_wp2
  go_ret
  exact ⟨rfl, rfl⟩

theorem new_any (b : Nat) (w : World) : Calls Try.prog 8 #[.map (some b)] w fun e w' => e = .returned (.pointer (some ⟨w.heap.size, 0, none⟩)) ∧ w' = w.alloc (.cells #[.map (some b), .map none, .pointer none, .nilFunc] 57) := by
  go_enter Try.func8, Try.ntmps8
  go_wp2
  go_ret
  exact ⟨rfl, rfl⟩

theorem due_any (X b : Nat) (w : World) (hX : XBlock w X b) : Calls Try.prog 12 #[.pointer (some ⟨X, 0, none⟩)] w fun e w' => e = .returned (.map (some b)) ∧ w = w' := by
  have h0 := hX.due
  go_enter Try.func12, Try.ntmps12
  go_wp2
  go_ret
  exact ⟨rfl, rfl⟩

theorem lose_all (X b base n : Nat) (f : Int → List Fly) (g : Int → Value) (D : DataW Value) (a c : Int) (w : World) (hX : XBlock w X b) (hG : Groups Try.prog 3 base 69 17 b n Fly.msg f g D w) (hn : n ≤ 1000000) :
    Calls Try.prog 10 #[.pointer (some ⟨X, 0, none⟩), .int .u64 a, .int .u64 c] w fun e w' => e = .returned (.tuple #[]) ∧
      (∃ n' g' D', n' ≤ n + n ∧ Groups Try.prog 3 base 69 17 b n' Fly.msg (fun k => (f k).filter (keepL a c)) g' D' w') ∧ XBlock w' X b ∧ Below b w w' := by
  go_enter Try.func10, Try.ntmps10
  go_wp2_with (go_at_call 22; refine (between_any X b base n f g D a c _ hX hG hn).mono ?_; rintro e w' ⟨rfl, h1, h2, h3⟩)
  go_end0
  exact ⟨rfl, h1, h2, h3⟩
end Go.Proofs.Qxb6618980a
