/-
  THE WALK OF 'onLink'.
-/
import Derived.Test.Qxb6618980aPlain
import Derived.WalkSpells
namespace Go.Proofs.Qxb6618980a
open Go.RowKit

set_option maxRecDepth 100000 in
set_option maxHeartbeats 1000000 in
theorem link_any (m : Fly) (a b : Int) (w : World) :
    Calls Try.prog 23 #[.agg #[.int .i64 m.At, .int .u64 m.From, .int .u64 m.To, .int .u64 m.Tag], .int .u64 a, .int .u64 b] w fun e w' => e = .returned (.bool (lnk a b m)) ∧ w' = w.alloc (.cells #[.int .i64 m.At, .int .u64 m.From, .int .u64 m.To, .int .u64 m.Tag] 59) := by
  have hr : ∀ {x y : Bool}, x = y → Ending.returned (.bool x) = .returned (.bool y) := fun h => by rw [h]
  cases e1 : (m.From == a) <;> cases e2 : (m.To == b) <;> cases e3 : (m.From == b) <;> cases e4 : (m.To == a)
  all_goals
    go_enter Try.func23, Try.ntmps23
    go_wp2
    go_ret
    exact ⟨hr (by simp [lnk, e1, e2, e3, e4]), rfl⟩
end Go.Proofs.Qxb6618980a
