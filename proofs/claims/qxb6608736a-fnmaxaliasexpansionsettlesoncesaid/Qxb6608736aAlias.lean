/-
  The walk of FnMaxAliasExpansionSettlesOnce.
-/
import Derived.Test.Qxb6608736aProg
import Derived.WalkKit
import Derived.WalkSpells
import Derived.WalkLawsBesides
import Derived.RowKit3
namespace Go.Proofs.Qxb6608736a.alias
open Go.RowKit
set_option maxHeartbeats 400000 in
theorem alias_walk (a0 a1 a2 : Int) (w : World) :
    Calls Try.prog 5 #[.int .i64 a0, .int .i64 a1, .int .i64 a2] w fun e w' => e = .returned (.bool true) ∧ Grown w w' := by
  by_cases c1 : 0 < a1
  · go_enter Try.func5, Try.ntmps5
    go_wp2
    go_ret
    exact ⟨rfl, by repeat (first | exact Grown.refl _ | apply Grown.drew | apply Grown.alloc)⟩
  · go_enter Try.func5, Try.ntmps5
    go_wp2
    go_ret
    exact ⟨rfl, by repeat (first | exact Grown.refl _ | apply Grown.drew | apply Grown.alloc)⟩
end Go.Proofs.Qxb6608736a.alias
