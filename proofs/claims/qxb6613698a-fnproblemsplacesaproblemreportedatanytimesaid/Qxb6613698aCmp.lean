/-
  The walks of the comparison: cmp.Compare, cmp.Or, Problems's closure.
-/
import Derived.Test.Qxb6613698aProg
import Derived.WalkKit
import Derived.WalkSpells
import Derived.WalkLawsBesides
import Derived.RowKit3
import Derived.Below
import Derived.Outline
import Derived.Deep.RegionHeld3
namespace Go.Proofs.Qxb6613698a.srt
open Go.RowKit

def cm (x y : Int) : Int := if x < y then -1 else if y < x then 1 else 0
def or2 (x y : Int) : Int := if x = 0 then y else x
theorem or2_neg (a b c d : Int) : or2 (cm a b) (cm c d) < 0 ↔ a < b ∨ (a = b ∧ c < d) := by
  unfold or2 cm
  repeat' split
  all_goals omega
theorem cm_bd (a b : Int) : -1 ≤ cm a b ∧ cm a b ≤ 1 := by
  unfold cm
  repeat' split
  all_goals omega
theorem ret_int {k : IntKind} {a b : Int} (h : a = b) : Ending.returned (.int k a) = .returned (.int k b) := by rw [h]

theorem compare_any (x y : Int) (w : World) : Calls Try.prog 19 #[.int .i64 x, .int .i64 y] w fun e w' => e = .returned (.int .i64 (cm x y)) ∧ w' = w := by
  by_cases h1 : x < y
  · go_enter Try.func19, Try.ntmps19
    go_wp2
    go_ret
    exact ⟨ret_int (by unfold cm; rw [if_pos h1]), rfl⟩
  · by_cases h2 : y < x
    · go_enter Try.func19, Try.ntmps19
      go_wp2
      go_ret
      exact ⟨ret_int (by unfold cm; rw [if_neg (by omega), if_pos h2]), rfl⟩
    · go_enter Try.func19, Try.ntmps19
      go_wp2
      go_ret
      exact ⟨ret_int (by unfold cm; rw [if_neg (by omega), if_neg (by omega)]), rfl⟩

theorem or_any (x y : Int) (q : Nat) (w : World) (c0 : w.cell? ⟨q, 0, none⟩ = some (.int .i64 x)) (c1 : w.cell? ⟨q, 1, none⟩ = some (.int .i64 y)) :
    Calls Try.prog 18 #[.slice (some ⟨q, 0, none⟩) 2 2] w fun e w' => e = .returned (.int .i64 (or2 x y)) ∧ w' = w := by
  go_enter Try.func18, Try.ntmps18
  go_wp2
  go_loop [8] (fun i => ∃ k : Nat, i = .int .i64 k ∧ (k = 0 ∨ (k = 1 ∧ x = 0) ∨ (k = 2 ∧ x = 0 ∧ y = 0))) (fun i => 2 - (intOf i).toNat)
  case atStart => exact ⟨0, rfl, .inl rfl⟩
  case round =>
    obtain ⟨k, rfl, hk⟩ := hrel
    rcases hk with rfl | ⟨rfl, hx⟩ | ⟨rfl, hx, hy⟩
    · by_cases h : x = 0
      · subst h
        go_wp2
        go_round
        case rel => exact ⟨1, rfl, by simp⟩
        case measure => simp [intOf]
      · have hb : (x != 0) = true := by simpa using h
        go_wp2
        go_ret
        exact ⟨ret_int (by unfold or2; rw [if_neg h]), rfl⟩
    · subst hx
      by_cases h : y = 0
      · subst h
        go_wp2
        go_round
        case rel => exact ⟨2, rfl, by simp⟩
        case measure => simp [intOf]
      · have hb : (y != 0) = true := by simpa using h
        go_wp2
        go_ret
        exact ⟨ret_int (by unfold or2; rw [if_pos rfl]), rfl⟩
    · subst hx hy
      go_wp2
      go_ret
      exact ⟨ret_int (by unfold or2; rw [if_pos rfl]), rfl⟩

set_option maxHeartbeats 400000 in
theorem less_any (f0 e0 r0 m0 f1 e1 r1 m1 : ByteArray) (l0 k0 l1 k1 : Int) (w : World) :
    Calls Try.prog 17 #[.agg #[.string f0, .string e0, .string r0, .string m0, .int .i64 l0, .int .i64 k0], .agg #[.string f1, .string e1, .string r1, .string m1, .int .i64 l1, .int .i64 k1]] w fun e w' =>
      e = .returned (.int .i64 (or2 (cm l0 l1) (cm k0 k1))) ∧ Below w.heap.size w w' := by
  go_enter Try.func17, Try.ntmps17
  go_wp2
  go_region_held3 (fun w' => w'.cell? ⟨w.heap.size, 4, none⟩ = some (.int .i64 l0) ∧ w'.cell? ⟨w.heap.size, 5, none⟩ = some (.int .i64 k0) ∧ w'.cell? ⟨w.heap.size + 1, 4, none⟩ = some (.int .i64 l1) ∧ w'.cell? ⟨w.heap.size + 1, 5, none⟩ = some (.int .i64 k1)) (go_keep)
    (first
      | (go_at_call 19; refine (compare_any _ _ _).mono ?_; rintro e w' ⟨rfl, rfl⟩)
      | (go_at_call 18; refine (or_any (cm l0 l1) (cm k0 k1) _ _ ?_ ?_).mono ?_; go_simp; go_simp; rintro e w' ⟨rfl, rfl⟩))
  go_wp2
  go_ret
  refine ⟨rfl, ?_⟩
  refine (Below.alloc (Below.alloc (Below.alloc (Below.refl _ _) ?_ _) ?_ _) ?_ _).drew
  all_goals simp
  all_goals omega
end Go.Proofs.Qxb6613698a.srt
