/-
  The walks of nextChunk and of the two laws over it.
-/
import Derived.Test.Qxb6608736aProg
import Derived.WalkKit
import Derived.WalkSpells
import Derived.WalkLawsBesides
import Derived.RowKit3
namespace Go.Proofs.Qxb6608736a.chunk
open Go.RowKit

/-- the next chunk's length, plainly -/
def nx (a : Int) : Int := if a < 4 then 8 else if 64 < a then 128 else 2 * a
theorem nx_lo {a : Int} (h : 2 * a < 8) : nx a = 8 := by unfold nx; rw [if_pos (by omega)]
theorem nx_hi {a : Int} (h : 128 < 2 * a) : nx a = 128 := by unfold nx; rw [if_neg (by omega), if_pos (by omega)]
theorem nx_mid {a : Int} (h : 8 ≤ 2 * a) (h' : 2 * a ≤ 128) : nx a = 2 * a := by unfold nx; rw [if_neg (by omega), if_neg (by omega)]
theorem nx_bd (a : Int) : 8 ≤ nx a ∧ nx a ≤ 128 := by unfold nx; split <;> (try split) <;> omega
theorem nx_even (a : Int) : nx a % 2 = 0 := by unfold nx; split <;> (try split) <;> omega
theorem nx_step (a : Int) : nx (a + 1) - nx a = if 4 ≤ a ∧ a ≤ 63 then 2 else 0 := by unfold nx; repeat' split
                                                                                      all_goals omega
theorem ret_int {k : IntKind} {a b : Int} (h : a = b) : Ending.returned (.int k a) = .returned (.int k b) := by rw [h]

theorem next_any (a : Int) (w : World) (h1 : -4611686018427387000 ≤ a) (h2 : a ≤ 4611686018427387000) :
    Calls Try.prog 28 #[.int .i64 a] w fun e w' => e = .returned (.int .i64 (nx a)) ∧ w' = w := by
  by_cases c1 : 2 * a < 8
  · go_enter Try.func28, Try.ntmps28
    go_wp2
    go_ret
    exact ⟨ret_int (nx_lo c1).symm, rfl⟩
  · by_cases c2 : 128 < 2 * a
    · go_enter Try.func28, Try.ntmps28
      go_wp2
      go_ret
      exact ⟨ret_int (nx_hi c2).symm, rfl⟩
    · go_enter Try.func28, Try.ntmps28
      go_wp2
      go_ret
      exact ⟨ret_int (nx_mid (by omega) (by omega)).symm, rfl⟩

theorem znext_any (a : Int) (w : World) (h1 : -4611686018427387000 ≤ a) (h2 : a ≤ 4611686018427387000) :
    Calls Try.prog 9 #[.int .i64 a] w fun e w' => e = .returned (.int .i64 (nx a)) ∧ w' = w := by
  go_enter Try.func9, Try.ntmps9
  go_wp2_with (go_at_call 28; refine (next_any _ _ h1 h2).mono ?_; rintro e w' ⟨rfl, rfl⟩)
  go_ret
  exact ⟨rfl, rfl⟩

theorem steps_walk (a0 : Int) (w : World) :
    Calls Try.prog 3 #[.int .i64 a0] w fun e w' => e = .returned (.bool true) ∧ Grown w w' := by
  by_cases c1 : a0 < -2305843009213693951
  · go_enter Try.func3, Try.ntmps3
    go_wp2
    go_ret
    exact ⟨rfl, Grown.refl _⟩
  · by_cases c2 : 2305843009213693951 < a0
    · go_enter Try.func3, Try.ntmps3
      go_wp2
      go_ret
      exact ⟨rfl, Grown.refl _⟩
    · have hb := nx_bd a0
      have hb1 := nx_bd (a0 + 1)
      have he := nx_even a0
      have hs := nx_step a0
      by_cases c3 : 4 ≤ a0
      · by_cases c4 : a0 ≤ 63
        · rw [if_pos ⟨c3, c4⟩] at hs
          go_enter Try.func3, Try.ntmps3
          go_wp2_with (go_at_call 9; refine (znext_any _ _ (by omega) (by omega)).mono ?_; rintro e w' ⟨rfl, rfl⟩)
          go_ret
          exact ⟨rfl, Grown.refl _⟩
        · rw [if_neg (by omega)] at hs
          go_enter Try.func3, Try.ntmps3
          go_wp2_with (go_at_call 9; refine (znext_any _ _ (by omega) (by omega)).mono ?_; rintro e w' ⟨rfl, rfl⟩)
          go_ret
          exact ⟨rfl, Grown.refl _⟩
      · rw [if_neg (by omega)] at hs
        go_enter Try.func3, Try.ntmps3
        go_wp2_with (go_at_call 9; refine (znext_any _ _ (by omega) (by omega)).mono ?_; rintro e w' ⟨rfl, rfl⟩)
        go_ret
        exact ⟨rfl, Grown.refl _⟩
end Go.Proofs.Qxb6608736a.chunk
