/-
  THE WALK OF 'lose' (nobody listens: 'lost' is nil).
-/
import Derived.Test.Qxb6618980aRow
import Derived.WalkSpells
namespace Go.Proofs.Qxb6618980a
open Go.RowKit

theorem neq_nil (w : World) : (binOp .neq 55 .nilFunc .nilFunc).run Try.prog w = .ok (.bool false) w := by kernel_rfl

set_option maxRecDepth 100000 in
set_option maxHeartbeats 1000000 in
theorem lose_lit (X : Nat) (m : Fly) (w : World) (hx : w.cell? ⟨X, 3, none⟩ = some .nilFunc) :
    Calls Try.prog 28 #[.pointer (some ⟨X, 0, none⟩), .agg #[.int .u8 0, .int .u64 m.From, .int .u64 m.To, .int .u64 0, .int .u64 0, .int .u64 m.Tag, .slice none 0 0, .int .u64 0, .bool false, .int .u64 0, .bool false, .bool false, .int .u64 0, .int .u64 0, .slice none 0 0, .slice none 0 0, .slice none 0 0], .bool true] w fun e w' => e = .returned (.tuple #[]) ∧ w' = w.alloc (.cells #[.int .u8 0, .int .u64 m.From, .int .u64 m.To, .int .u64 0, .int .u64 0, .int .u64 m.Tag, .slice none 0 0, .int .u64 0, .bool false, .int .u64 0, .bool false, .bool false, .int .u64 0, .int .u64 0, .slice none 0 0, .slice none 0 0, .slice none 0 0] 69) := by
  have hlt := World.block_lt_of_cell? w _ hx
  have hn := neq_nil
  go_enter Try.func28, Try.ntmps28
  go_wp2
  go_end0
  exact ⟨rfl, rfl⟩

theorem lose_any (X : Nat) (m : Fly) (w : World) (hx : w.cell? ⟨X, 3, none⟩ = some .nilFunc) :
    Calls Try.prog 28 #[.pointer (some ⟨X, 0, none⟩), .agg m.msg.toArray, .bool true] w fun e w' => e = .returned (.tuple #[]) ∧ w' = w.alloc (.cells m.msg.toArray 69) := lose_lit X m w hx
end Go.Proofs.Qxb6618980a
