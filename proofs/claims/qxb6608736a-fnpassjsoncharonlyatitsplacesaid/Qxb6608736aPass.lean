/-
  The walks under FnPassJSONCharOnlyAtItsPlace.
-/
import Derived.Test.Qxb6608736aProg
import Derived.WalkKit
import Derived.WalkSpells
import Derived.WalkLawsBesides
import Derived.RowKit3
import Derived.Below
import Derived.Outline
import Derived.Deep.RegionHeld3
namespace Go.Proofs.Qxb6608736a.pass
open Go.RowKit

/-- the characters at which an input can stop -/
def St (r : Int) : Prop := (0 ≤ r ∧ r ≤ 8) ∨ (11 ≤ r ∧ r ≤ 12) ∨ (14 ≤ r ∧ r ≤ 31) ∨ (127 ≤ r ∧ r ≤ 132) ∨ (134 ≤ r ∧ r ≤ 159) ∨ r = 65279 ∨ r = 65533 ∨ (65534 ≤ r ∧ r ≤ 65535)
theorem st_not {r : Int} (h : ¬ St r) : r < 0 ∨ r = 9 ∨ r = 10 ∨ r = 13 ∨ (32 ≤ r ∧ r ≤ 126) ∨ r = 133 ∨ (160 ≤ r ∧ r ≤ 55295) ∨ (55296 ≤ r ∧ r ≤ 57343) ∨ (57344 ≤ r ∧ r ≤ 65278) ∨ (65280 ≤ r ∧ r ≤ 65532) ∨ (65536 ≤ r ∧ r ≤ 1114111) ∨ 1114111 < r := by
  unfold St at h; omega

theorem ret_bool {a b : Bool} (h : a = b) : Ending.returned (.bool a) = .returned (.bool b) := by rw [h]
theorem ne_of {r c : Int} (h : ¬ r = c) : (r == c) = false := by simpa using h

theorem print_f (r : Int) (e0 : (r == 9) = false) (e1 : (r == 10) = false) (e2 : (r == 13) = false) (e3 : (r == 133) = false)
    (h : (0 ≤ r ∧ r ≤ 31) ∨ (127 ≤ r ∧ r ≤ 159) ∨ (65534 ≤ r ∧ r ≤ 65535)) (w : World) : Calls Try.prog 30 #[.int .i32 r] w fun e w' => e = .returned (.bool false) ∧ w' = w := by
  rcases h with ⟨h, h'⟩ | ⟨h, h'⟩ | ⟨h, h'⟩
  all_goals
    go_enter Try.func30, Try.ntmps30
    go_wp2
    go_ret
    first | exact ⟨rfl, rfl⟩ | exact ⟨ret_bool (by simp; omega), rfl⟩
theorem print_t (r : Int) (h : r = 9 ∨ r = 10 ∨ r = 13 ∨ r = 133) (w : World) : Calls Try.prog 30 #[.int .i32 r] w fun e w' => e = .returned (.bool true) ∧ w' = w := by
  rcases h with rfl | rfl | rfl | rfl
  all_goals
    go_enter Try.func30, Try.ntmps30
    go_wp2
    go_ret
    first | exact ⟨rfl, rfl⟩ | exact ⟨ret_bool (by simp; omega), rfl⟩
theorem print_t' (r : Int) (e0 : (r == 9) = false) (e1 : (r == 10) = false) (e2 : (r == 13) = false) (e3 : (r == 133) = false)
    (h : (32 ≤ r ∧ r ≤ 126) ∨ (160 ≤ r ∧ r ≤ 55295) ∨ (57344 ≤ r ∧ r ≤ 65533) ∨ (65536 ≤ r ∧ r ≤ 1114111)) (w : World) : Calls Try.prog 30 #[.int .i32 r] w fun e w' => e = .returned (.bool true) ∧ w' = w := by
  rcases h with ⟨h, h'⟩ | ⟨h, h'⟩ | ⟨h, h'⟩ | ⟨h, h'⟩
  all_goals
    go_enter Try.func30, Try.ntmps30
    go_wp2
    go_ret
    first | exact ⟨rfl, rfl⟩ | exact ⟨ret_bool (by simp; omega), rfl⟩

theorem stops_t (r : Int) (h : St r) (w : World) : Calls Try.prog 12 #[.int .i32 r] w fun e w' => e = .returned (.bool true) ∧ w' = w := by
  by_cases h1 : r = 65533
  · subst h1
    go_enter Try.func12, Try.ntmps12
    go_wp2
    go_ret
    exact ⟨rfl, rfl⟩
  by_cases h2 : r = 65279
  · subst h2
    go_enter Try.func12, Try.ntmps12
    go_wp2
    go_ret
    exact ⟨rfl, rfl⟩
  have hc := fun w => print_f r (ne_of (by unfold St at h; omega)) (ne_of (by unfold St at h; omega)) (ne_of (by unfold St at h; omega)) (ne_of (by unfold St at h; omega)) (by unfold St at h; omega) w
  have g1 : 0 ≤ r := by unfold St at h; omega
  have g2 : r ≤ 1114111 := by unfold St at h; omega
  have e1 := ne_of h1
  have e2 := ne_of h2
  have g3 : r < 55296 ∨ 57343 < r := by unfold St at h; omega
  clear h h1 h2
  rcases g3 with g3 | g3
  all_goals
    go_enter Try.func12, Try.ntmps12
    go_wp2_with (go_at_call 30; refine (hc _).mono ?_; rintro e w' ⟨rfl, rfl⟩)
    go_ret
    exact ⟨rfl, rfl⟩

theorem stops_f (r : Int) (h : ¬ St r) (w : World) : Calls Try.prog 12 #[.int .i32 r] w fun e w' => e = .returned (.bool false) ∧ w' = w := by
  have g := st_not h
  have e1 : (r == 65533) = false := ne_of (by omega)
  have e2 : (r == 65279) = false := ne_of (by omega)
  clear h
  by_cases h1 : r < 0
  · clear g
    go_enter Try.func12, Try.ntmps12
    go_wp2
    go_ret
    exact ⟨rfl, rfl⟩
  by_cases h2 : 1114111 < r
  · clear g
    go_enter Try.func12, Try.ntmps12
    go_wp2
    go_ret
    exact ⟨rfl, rfl⟩
  by_cases h3 : 55296 ≤ r ∧ r ≤ 57343
  · obtain ⟨h3, h4⟩ := h3
    clear g
    go_enter Try.func12, Try.ntmps12
    go_wp2
    go_ret
    exact ⟨rfl, rfl⟩
  have hc : ∀ w : World, Calls Try.prog 30 #[.int .i32 r] w fun e w' => e = .returned (.bool true) ∧ w' = w := fun w => by
    by_cases k : r = 9 ∨ r = 10 ∨ r = 13 ∨ r = 133
    · exact print_t r k w
    · exact print_t' r (ne_of (by omega)) (ne_of (by omega)) (ne_of (by omega)) (ne_of (by omega)) (by omega) w
  have g3 : r < 55296 ∨ 57343 < r := by omega
  clear g h3
  rcases g3 with g3 | g3
  all_goals
    go_enter Try.func12, Try.ntmps12
    go_wp2_with (go_at_call 30; refine (hc _).mono ?_; rintro e w' ⟨rfl, rfl⟩)
    go_ret
    exact ⟨rfl, rfl⟩

/-- how many bytes UTF-8 spends on a character -/
def ul (r : Int) : Int := if r < 128 then 1 else if r < 2048 then 2 else if r < 65536 then 3 else 4
theorem ul_bd (r : Int) : 1 ≤ ul r ∧ ul r ≤ 4 := by unfold ul; repeat' split
                                                    all_goals omega
theorem ret_int {k : IntKind} {a b : Int} (h : a = b) : Ending.returned (.int k a) = .returned (.int k b) := by rw [h]
theorem zlen_any (r : Int) (w : World) : Calls Try.prog 19 #[.int .i32 r] w fun e w' => e = .returned (.int .i64 (ul r)) ∧ w' = w := by
  by_cases h1 : r < 128
  · go_enter Try.func19, Try.ntmps19
    go_wp2
    go_ret
    exact ⟨ret_int (by unfold ul; rw [if_pos h1]), rfl⟩
  by_cases h2 : r < 2048
  · go_enter Try.func19, Try.ntmps19
    go_wp2
    go_ret
    exact ⟨ret_int (by unfold ul; rw [if_neg (by omega), if_pos h2]), rfl⟩
  by_cases h3 : r < 65536
  · go_enter Try.func19, Try.ntmps19
    go_wp2
    go_ret
    exact ⟨ret_int (by unfold ul; rw [if_neg (by omega), if_neg (by omega), if_pos h3]), rfl⟩
  · go_enter Try.func19, Try.ntmps19
    go_wp2
    go_ret
    exact ⟨ret_int (by unfold ul; rw [if_neg (by omega), if_neg (by omega), if_neg (by omega)]), rfl⟩
theorem runeLen_any (r : Int) (w : World) (h0 : 0 ≤ r) (h9 : r ≤ 65535) (hs : r < 55296 ∨ 57343 < r) : Calls Try.prog 40 #[.int .i32 r] w fun e w' => e = .returned (.int .i64 (ul r)) ∧ w' = w := by
  by_cases h1 : r < 128
  · go_enter Try.func40, Try.ntmps40
    go_wp2
    go_ret
    exact ⟨ret_int (by unfold ul; rw [if_pos h1]), rfl⟩
  by_cases h2 : r < 2048
  · go_enter Try.func40, Try.ntmps40
    go_wp2
    go_ret
    exact ⟨ret_int (by unfold ul; rw [if_neg (by omega), if_pos h2]), rfl⟩
  rcases hs with hs | hs
  all_goals
    go_enter Try.func40, Try.ntmps40
    go_wp2
    go_ret
    exact ⟨ret_int (by unfold ul; rw [if_neg (by omega), if_neg (by omega), if_pos (by omega)]), rfl⟩

theorem json_t (r : Int) (w : World) (h0 : 32 ≤ r) (h9 : r ≤ 65535) : Calls Try.prog 39 #[.int .i32 r] w fun e w' => e = .returned (.bool true) ∧ w' = w := by
  have e0 : (r == 9) = false := ne_of (by omega)
  go_enter Try.func39, Try.ntmps39
  go_wp2
  go_ret
  exact ⟨ret_bool (by simp; omega), rfl⟩
theorem json_f (r : Int) (w : World) (h0 : r < 32) (h1 : (r == 9) = false) : Calls Try.prog 39 #[.int .i32 r] w fun e w' => e = .returned (.bool false) ∧ w' = w := by
  go_enter Try.func39, Try.ntmps39
  go_wp2
  go_ret
  exact ⟨rfl, rfl⟩
theorem quoted_t (r : Int) (m : ByteArray) (w : World) (h0 : 32 ≤ r) (h9 : r ≤ 65535) (h1 : (r != 65533) = true) :
    Calls Try.prog 35 #[.agg #[.int .i32 r, .string m]] w fun e w' => e = .returned (.bool true) ∧ w' = w.alloc (.cells #[.int .i32 r, .string m] 83) := by
  go_enter Try.func35, Try.ntmps35
  go_wp2_with (go_at_call 39; refine (json_t _ _ h0 h9).mono ?_; rintro e w' ⟨rfl, rfl⟩)
  go_ret
  exact ⟨rfl, rfl⟩
theorem quoted_f (r : Int) (m : ByteArray) (w : World) (h0 : r < 32) (h1 : (r == 9) = false) :
    Calls Try.prog 35 #[.agg #[.int .i32 r, .string m]] w fun e w' => e = .returned (.bool false) ∧ w' = w.alloc (.cells #[.int .i32 r, .string m] 83) := by
  have h2 : (r != 65533) = true := by simp; omega
  go_enter Try.func35, Try.ntmps35
  go_wp2_with (go_at_call 39; refine (json_f _ _ h0 h1).mono ?_; rintro e w' ⟨rfl, rfl⟩)
  go_ret
  exact ⟨rfl, rfl⟩
theorem quoted_f' (m : ByteArray) (w : World) :
    Calls Try.prog 35 #[.agg #[.int .i32 65533, .string m]] w fun e w' => e = .returned (.bool false) ∧ w' = w.alloc (.cells #[.int .i32 65533, .string m] 83) := by
  go_enter Try.func35, Try.ntmps35
  go_wp2
  go_ret
  exact ⟨rfl, rfl⟩
end Go.Proofs.Qxb6608736a.pass
