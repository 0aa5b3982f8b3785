/-
  The walk of FnPassJSONCharOnlyAtItsPlace.
-/
import Derived.Test.Qxb6608736aPass3
namespace Go.Proofs.Qxb6608736a.pass
open Go.RowKit

set_option maxHeartbeats 400000 in
theorem walk_guard (a0 a1 a2 a3 : Int) (a4 : ByteArray) (w4 : a4.size ≤ maxLen) (w : World)
    (h : 1048576 < a4.size ∨ a0 < 0 ∨ a1 < a0 ∨ 2305843009213693951 < a1 ∨ a2 < 0 ∨ 2305843009213693951 < a2 ∨ ¬ St a3) :
    Calls Try.prog 7 #[.int .i64 a0, .int .i64 a1, .int .i64 a2, .int .i32 a3, .string a4] w fun e w' => e = .returned (.bool true) ∧ Grown w w' := by
  unfold maxLen at w4
  by_cases c0 : 1048576 < a4.size
  · clear h
    go_enter Try.func7, Try.ntmps7
    go_wp2
    go_ret
    exact ⟨rfl, Grown.refl _⟩
  by_cases c1 : a0 < 0
  · clear h
    go_enter Try.func7, Try.ntmps7
    go_wp2
    go_ret
    exact ⟨rfl, Grown.refl _⟩
  by_cases c2 : a1 < a0
  · clear h
    go_enter Try.func7, Try.ntmps7
    go_wp2
    go_ret
    exact ⟨rfl, Grown.refl _⟩
  by_cases c3 : 2305843009213693951 < a1
  · clear h
    go_enter Try.func7, Try.ntmps7
    go_wp2
    go_ret
    exact ⟨rfl, Grown.refl _⟩
  by_cases c4 : a2 < 0
  · clear h
    go_enter Try.func7, Try.ntmps7
    go_wp2
    go_ret
    exact ⟨rfl, Grown.refl _⟩
  by_cases c5 : 2305843009213693951 < a2
  · clear h
    go_enter Try.func7, Try.ntmps7
    go_wp2
    go_ret
    exact ⟨rfl, Grown.refl _⟩
  have hn : ¬ St a3 := by
    rcases h with h | h | h | h | h | h | h
    all_goals first | exact h | exact absurd h (by assumption)
  clear h
  have hc := fun w => stops_f a3 hn w
  clear hn
  go_enter Try.func7, Try.ntmps7
  go_wp2_with (first | (go_at_call 12; refine (hc _).mono ?_; rintro e w' ⟨rfl, rfl⟩) | (go_at_call 20; go_in))
  go_ret
  exact ⟨rfl, Grown.refl _⟩

/-- the input as ZZnewInputStoppedAt lays it -/
theorem new_any (pos valid r : Int) (m : ByteArray) (w : World) :
    Calls Try.prog 14 #[.int .i64 pos, .int .i64 valid, .int .i32 r, .string m] w fun e w' => e = .returned (.pointer (some ⟨w.heap.size, 0, none⟩)) ∧
      Inp w' w.heap.size pos valid (.iface 83 (.agg #[.int .i32 r, .string m])) ∧ Kept w.heap.size w w' := by
  go_enter Try.func14, Try.ntmps14
  go_wp2
  go_ret
  refine ⟨rfl, ⟨?_, ?_, ?_, ?_, ?_, ?_⟩, (Kept.refl _ _).alloc (Nat.le_refl _) _ _⟩
  · show w.heap.size < (w.heap.push _).size
    simp
  · rw [World.cell?_alloc_new]; rfl
  · rw [World.cell?_alloc_new]; rfl
  · rw [World.cell?_alloc_new]; rfl
  · rw [frozen?_alloc_cells]; simp [World.frozen?]
  · rw [frozen?_alloc_cells]; simp [World.frozen?]

set_option maxHeartbeats 400000 in
theorem walk_quoted_at (a0 a1 a3 : Int) (a4 : ByteArray) (w : World)
    (c0 : a4.size ≤ 1048576) (c1 : 0 ≤ a0) (c2 : a0 ≤ a1) (c3 : a1 ≤ 2305843009213693951) (hc : ∀ w : World, Calls Try.prog 12 #[.int .i32 a3] w fun e w' => e = .returned (.bool true) ∧ w' = w)
    (he : a4.toList.isEmpty = true) (q0 : 32 ≤ a3) (q9 : a3 ≤ 65535) (q1 : (a3 != 65533) = true) (hs : a3 < 55296 ∨ 57343 < a3) :
    Calls Try.prog 7 #[.int .i64 a0, .int .i64 a1, .int .i64 (a1 - a0), .int .i32 a3, .string a4] w fun e w' => e = .returned (.bool true) ∧ Grown w w' := by
  have hu := ul_bd a3
  go_enter Try.func7, Try.ntmps7
  go_wp2_with (first
    | (go_at_call 12; refine (hc _).mono ?_; rintro e w' ⟨rfl, hw'⟩; subst w')
    | (go_at_call 19; refine (zlen_any _ _).mono ?_; rintro e w' ⟨rfl, hw'⟩; subst w')
    | (go_at_call 20; go_in) | (go_at_call 15; go_in) | (go_at_call 16; go_in) | (go_at_call 17; go_in)
    | (go_at_call 14; refine (new_any _ _ _ _ _).mono ?_; rintro e w1 ⟨rfl, hI1, hk1⟩)
    | (go_at_call 31; refine (json_yes a3 a4 w.heap.size w.heap.size a0 a1 (a1 - a0) _ ?_ q0 q9 q1 hs c1 (by omega) c3 (by omega) (Nat.le_refl _)).mono ?_; assumption; rintro e w2 ⟨rfl, hI2, hk2⟩)
    | (go_at_call 31; refine (json_nil w.heap.size w.heap.size a0 (a1 + ul a3) (a1 - a0) _ ?_ (Nat.le_refl _)).mono ?_; assumption; rintro e w3 ⟨rfl, hI3, hk3⟩; have cv3 := hI3.cv; have cs3 := hI3.cs))
  go_ret
  exact ⟨rfl, ((hk1.trans hk2).trans hk3).grown⟩

set_option maxHeartbeats 400000 in
theorem walk_quoted_off (a0 a1 a2 a3 : Int) (a4 : ByteArray) (w : World)
    (c0 : a4.size ≤ 1048576) (c1 : 0 ≤ a0) (c2 : a0 ≤ a1) (c3 : a1 ≤ 2305843009213693951) (c4 : 0 ≤ a2) (c5 : a2 ≤ 2305843009213693951) (hc : ∀ w : World, Calls Try.prog 12 #[.int .i32 a3] w fun e w' => e = .returned (.bool true) ∧ w' = w)
    (he : a4.toList.isEmpty = true) (q0 : 32 ≤ a3) (q9 : a3 ≤ 65535) (q1 : (a3 != 65533) = true) (hs : a3 < 55296 ∨ 57343 < a3) (hi : ¬ a0 + a2 = a1) :
    Calls Try.prog 7 #[.int .i64 a0, .int .i64 a1, .int .i64 a2, .int .i32 a3, .string a4] w fun e w' => e = .returned (.bool true) ∧ Grown w w' := by
  have hu := ul_bd a3
  have hn : (a2 == a1 - a0) = false := ne_of (by omega)
  have Hi : Hid (¬ a0 + a2 = a1) := hi
  clear hi
  go_enter Try.func7, Try.ntmps7
  go_wp2_with (first
    | (go_at_call 12; refine (hc _).mono ?_; rintro e w' ⟨rfl, hw'⟩; subst w')
    | (go_at_call 19; refine (zlen_any _ _).mono ?_; rintro e w' ⟨rfl, hw'⟩; subst w')
    | (go_at_call 20; go_in) | (go_at_call 15; go_in) | (go_at_call 16; go_in) | (go_at_call 17; go_in)
    | (go_at_call 14; refine (new_any _ _ _ _ _).mono ?_; rintro e w1 ⟨rfl, hI1, hk1⟩)
    | (go_at_call_of 31 (Value.int .i64 a2); refine (json_off a3 a4 w.heap.size w.heap.size a0 a1 a2 _ ?_ q0 q9 q1 c1 (by omega) c4 c5 Hi.out (Nat.le_refl _)).mono ?_; assumption; rintro e w2 ⟨rfl, hI2, hk2⟩)
    | (go_at_call 31; refine (json_yes a3 a4 w.heap.size w.heap.size a0 a1 (a1 - a0) _ ?_ q0 q9 q1 hs c1 (by omega) c3 (by omega) (Nat.le_refl _)).mono ?_; assumption; rintro e w3 ⟨rfl, hI3, hk3⟩; have cv3 := hI3.cv; have cs3 := hI3.cs))
  go_ret
  exact ⟨rfl, ((hk1.trans hk2).trans hk3).grown⟩

set_option maxHeartbeats 400000 in
theorem walk_plain (a0 a1 a2 a3 : Int) (a4 : ByteArray) (w : World)
    (c0 : a4.size ≤ 1048576) (c1 : 0 ≤ a0) (c2 : a0 ≤ a1) (c3 : a1 ≤ 2305843009213693951) (c4 : 0 ≤ a2) (c5 : a2 ≤ 2305843009213693951) (hc : ∀ w : World, Calls Try.prog 12 #[.int .i32 a3] w fun e w' => e = .returned (.bool true) ∧ w' = w)
    (he : a4.toList.isEmpty = true) (q0 : a3 < 32) (q1 : ¬ a3 = 9) :
    Calls Try.prog 7 #[.int .i64 a0, .int .i64 a1, .int .i64 a2, .int .i32 a3, .string a4] w fun e w' => e = .returned (.bool true) ∧ Grown w w' := by
  have Hq : Hid (¬ a3 = 9) := q1
  clear q1
  go_enter Try.func7, Try.ntmps7
  go_wp2_with (first
    | (go_at_call 12; refine (hc _).mono ?_; rintro e w' ⟨rfl, hw'⟩; subst w')
    | (go_at_call 20; go_in) | (go_at_call 15; go_in) | (go_at_call 16; go_in) | (go_at_call 17; go_in)
    | (go_at_call 14; refine (new_any _ _ _ _ _).mono ?_; rintro e w1 ⟨rfl, hI1, hk1⟩)
    | (go_at_call_of 31 (Value.int .i64 a2); refine (json_no a3 a4 w.heap.size w.heap.size a0 a1 a2 _ ?_ (Or.inr ⟨q0, Hq.out⟩) (Nat.le_refl _)).mono ?_; assumption; rintro e w2 ⟨rfl, hI2, hk2⟩)
    | (go_at_call 31; refine (json_no a3 a4 w.heap.size w.heap.size a0 a1 _ _ ?_ (Or.inr ⟨q0, Hq.out⟩) (Nat.le_refl _)).mono ?_; assumption; rintro e w3 ⟨rfl, hI3, hk3⟩; have cv3 := hI3.cv; have cs3 := hI3.cs))
  go_ret
  exact ⟨rfl, ((hk1.trans hk2).trans hk3).grown⟩

set_option maxHeartbeats 400000 in
theorem walk_broken (a0 a1 a2 : Int) (a4 : ByteArray) (w : World)
    (c0 : a4.size ≤ 1048576) (c1 : 0 ≤ a0) (c2 : a0 ≤ a1) (c3 : a1 ≤ 2305843009213693951) (c4 : 0 ≤ a2) (c5 : a2 ≤ 2305843009213693951) (hc : ∀ w : World, Calls Try.prog 12 #[.int .i32 65533] w fun e w' => e = .returned (.bool true) ∧ w' = w)
    (e : Bool) (he : a4.toList.isEmpty = e) :
    Calls Try.prog 7 #[.int .i64 a0, .int .i64 a1, .int .i64 a2, .int .i32 65533, .string a4] w fun e w' => e = .returned (.bool true) ∧ Grown w w' := by
  cases e
  all_goals
    go_enter Try.func7, Try.ntmps7
    go_wp2_with (first
      | (go_at_call 12; refine (hc _).mono ?_; rintro e w' ⟨rfl, hw'⟩; subst w')
      | (go_at_call 20; go_in) | (go_at_call 15; go_in) | (go_at_call 16; go_in) | (go_at_call 17; go_in)
      | (go_at_call 14; refine (new_any _ _ _ _ _).mono ?_; rintro e w1 ⟨rfl, hI1, hk1⟩)
      | (go_at_call_of 31 (Value.int .i64 a2); refine (json_no 65533 a4 w.heap.size w.heap.size a0 a1 a2 _ ?_ (Or.inl rfl) (Nat.le_refl _)).mono ?_; assumption; rintro e w2 ⟨rfl, hI2, hk2⟩)
      | (go_at_call 31; refine (json_no 65533 a4 w.heap.size w.heap.size a0 a1 _ _ ?_ (Or.inl rfl) (Nat.le_refl _)).mono ?_; assumption; rintro e w3 ⟨rfl, hI3, hk3⟩; have cv3 := hI3.cv; have cs3 := hI3.cs))
    go_ret
    exact ⟨rfl, ((hk1.trans hk2).trans hk3).grown⟩

set_option maxHeartbeats 400000 in
theorem walk_odd (a0 a1 a2 a3 : Int) (a4 : ByteArray) (w : World)
    (c0 : a4.size ≤ 1048576) (c1 : 0 ≤ a0) (c2 : a0 ≤ a1) (c3 : a1 ≤ 2305843009213693951) (c4 : 0 ≤ a2) (c5 : a2 ≤ 2305843009213693951) (hc : ∀ w : World, Calls Try.prog 12 #[.int .i32 a3] w fun e w' => e = .returned (.bool true) ∧ w' = w)
    (he : a4.toList.isEmpty = false) (q1 : (a3 != 65533) = true) :
    Calls Try.prog 7 #[.int .i64 a0, .int .i64 a1, .int .i64 a2, .int .i32 a3, .string a4] w fun e w' => e = .returned (.bool true) ∧ Grown w w' := by
  go_enter Try.func7, Try.ntmps7
  go_wp2_with (first
    | (go_at_call 12; refine (hc _).mono ?_; rintro e w' ⟨rfl, hw'⟩; subst w')
    | (go_at_call 20; go_in))
  go_ret
  exact ⟨rfl, Grown.refl _⟩

theorem law_walk (a0 a1 a2 a3 : Int) (a4 : ByteArray) (w4 : a4.size ≤ maxLen) (w : World) :
    Calls Try.prog 7 #[.int .i64 a0, .int .i64 a1, .int .i64 a2, .int .i32 a3, .string a4] w fun e w' => e = .returned (.bool true) ∧ Grown w w' := by
  by_cases h : 1048576 < a4.size ∨ a0 < 0 ∨ a1 < a0 ∨ 2305843009213693951 < a1 ∨ a2 < 0 ∨ 2305843009213693951 < a2 ∨ ¬ St a3
  · exact walk_guard a0 a1 a2 a3 a4 w4 w h
  have hS : St a3 := by
    by_cases hS : St a3
    · exact hS
    · exact absurd (Or.inr (Or.inr (Or.inr (Or.inr (Or.inr (Or.inr hS)))))) h
  have h1 : ¬ 1048576 < a4.size := fun k => h (Or.inl k)
  have h2 : ¬ a0 < 0 := fun k => h (Or.inr (Or.inl k))
  have h3 : ¬ a1 < a0 := fun k => h (Or.inr (Or.inr (Or.inl k)))
  have h4 : ¬ 2305843009213693951 < a1 := fun k => h (Or.inr (Or.inr (Or.inr (Or.inl k))))
  have h5 : ¬ a2 < 0 := fun k => h (Or.inr (Or.inr (Or.inr (Or.inr (Or.inl k)))))
  have h6 : ¬ 2305843009213693951 < a2 := fun k => h (Or.inr (Or.inr (Or.inr (Or.inr (Or.inr (Or.inl k))))))
  clear h
  have hc := fun w => stops_t a3 hS w
  by_cases hb : a3 = 65533
  · subst hb
    exact walk_broken a0 a1 a2 a4 w (by omega) (by omega) (by omega) (by omega) (by omega) (by omega) hc _ rfl
  have q1 : (a3 != 65533) = true := by simpa using hb
  unfold St at hS
  cases he : a4.toList.isEmpty with
  | false => exact walk_odd a0 a1 a2 a3 a4 w (by omega) (by omega) (by omega) (by omega) (by omega) (by omega) hc he q1
  | true =>
    by_cases hq : a3 < 32
    · exact walk_plain a0 a1 a2 a3 a4 w (by omega) (by omega) (by omega) (by omega) (by omega) (by omega) hc he hq (by omega)
    · by_cases hi : a0 + a2 = a1
      · obtain rfl : a2 = a1 - a0 := by omega
        exact walk_quoted_at a0 a1 a3 a4 w (by omega) (by omega) (by omega) (by omega) hc he (by omega) (by omega) q1 (by omega)
      · exact walk_quoted_off a0 a1 a2 a3 a4 w (by omega) (by omega) (by omega) (by omega) (by omega) (by omega) hc he (by omega) (by omega) q1 (by omega) hi
end Go.Proofs.Qxb6608736a.pass
