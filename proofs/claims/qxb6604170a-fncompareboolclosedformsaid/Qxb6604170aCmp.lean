/- The contracts of compareBool, of its shim and of zzB2i. -/
import Derived.Test.Qxb6604170aRows
import Derived.WalkKit
import Derived.ProofKit
namespace Go.Proofs.Qxb6604170a.Cmp
open Go.RowKit

/-- What compareBool computes. -/
def cmpB (a b : Bool) : Int := if a = b then 0 else if a = true then 1 else -1

theorem compareBool_any (a b : Bool) (w : World) :
    Calls Try.prog 19 #[.bool a, .bool b] w fun e w' => e = .returned (.int .i64 (cmpB a b)) ∧ w' = w := by
  cases a <;> cases b <;>
  · go_enter Try.func19, Try.ntmps19
    go_wp2
    go_ret
    exact ⟨rfl, rfl⟩

theorem zzCompareBool_any (a b : Bool) (w : World) :
    Calls Try.prog 15 #[.bool a, .bool b] w fun e w' => e = .returned (.int .i64 (cmpB a b)) ∧ w' = w := by
  go_enter Try.func15, Try.ntmps15
  go_wp2_with (go_at_call 19; refine (compareBool_any _ _ _).mono ?_; rintro e w' ⟨rfl, rfl⟩)
  go_ret
  exact ⟨rfl, rfl⟩

theorem b2i_any (a : Bool) (w : World) :
    Calls Try.prog 16 #[.bool a] w fun e w' => e = .returned (.int .i64 (if a = true then 1 else 0)) ∧ w' = w := by
  cases a <;>
  · go_enter Try.func16, Try.ntmps16
    go_wp2
    go_ret
    exact ⟨rfl, rfl⟩
end Go.Proofs.Qxb6604170a.Cmp
