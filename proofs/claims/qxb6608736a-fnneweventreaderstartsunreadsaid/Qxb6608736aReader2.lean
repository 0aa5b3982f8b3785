/-
  The walk of FnNewEventReaderStartsUnread.
-/
import Derived.Test.Qxb6608736aReader
import Derived.LaidEqlPtr
namespace Go.Proofs.Qxb6608736a.reader
open Go.RowKit

theorem start_any (b : Nat) (w : World) (h : Rd w b) :
    Calls Try.prog 23 #[.pointer (some ⟨b, 0, none⟩)] w fun e w' => e = .returned (.tuple #[.int .i64 1, .int .i64 1, .int .i64 0]) ∧ ∃ n, w' = w.drewN n := by
  obtain ⟨_, h0, h1, h2, h3, h4, h11, h12, h15, h16, h17, h18, h30, h50, _⟩ := h
  go_enter Try.func23, Try.ntmps23
  go_wp2
  go_quiet (fail)
  go_wp2
  go_ret3
  exact ⟨rfl, _, rfl⟩
theorem checked_any (b : Nat) (w : World) (h : Rd w b) :
    Calls Try.prog 24 #[.pointer (some ⟨b, 0, none⟩)] w fun e w' => e = .returned (.tuple #[.int .i64 0, .int .i64 0, .bool true]) ∧ ∃ n, w' = w.drewN n := by
  obtain ⟨_, h0, h1, h2, h3, h4, h11, h12, h15, h16, h17, h18, h30, h50, _⟩ := h
  go_enter Try.func24, Try.ntmps24
  go_wp2
  go_quiet (fail)
  go_wp2
  go_ret3
  exact ⟨rfl, _, rfl⟩
theorem warn_any (b : Nat) (w : World) (h : Rd w b) : Calls Try.prog 25 #[.pointer (some ⟨b, 0, none⟩)] w fun e w' => e = .returned (.bool true) ∧ w' = w := by
  have h0 := h.c0
  have hq : ∀ w, (binOp .eql 46 .nilFunc .nilFunc).run Try.prog w = .ok (.bool true) w := fun _ => by kernel_rfl
  go_enter Try.func25, Try.ntmps25
  go_wp2
  go_ret
  exact ⟨rfl, rfl⟩
theorem indent_any (b : Nat) (w : World) (h : Rd w b) : Calls Try.prog 26 #[.pointer (some ⟨b, 0, none⟩)] w fun e w' => e = .returned (.int .i64 (-1)) ∧ w' = w := by
  have h0 := h.c30
  go_enter Try.func26, Try.ntmps26
  go_wp2
  go_ret
  exact ⟨rfl, rfl⟩
theorem depth_any (b : Nat) (w : World) (h : Rd w b) : Calls Try.prog 27 #[.pointer (some ⟨b, 0, none⟩)] w fun e w' => e = .returned (.int .i64 0) ∧ w' = w := by
  have h0 := h.c50
  go_enter Try.func27, Try.ntmps27
  go_wp2
  go_ret
  exact ⟨rfl, rfl⟩
theorem alias_any (w : World) : Calls Try.prog 10 #[.agg #[.int .i64 0, .int .i64 0, .int .i64 0]] w fun e w' => e = .returned (.int .i64 1048576) ∧ w' = (w.alloc (.cells #[.int .i64 0, .int .i64 0, .int .i64 0] 25)).alloc (.cells #[.int .i64 0, .int .i64 0, .int .i64 0] 25) := by
  go_enter Try.func10, Try.ntmps10
  go_wp2
  go_ret
  exact ⟨rfl, rfl⟩

set_option maxRecDepth 20000 in
theorem guard_walk (a0 a1 : ByteArray) (w0 : a0.size ≤ maxLen) (w1 : a1.size ≤ maxLen) (w : World) (h : 524288 < a0.size ∨ 524288 < a1.size) :
    Calls Try.prog 8 #[.string a0, .string a1] w fun e w' => e = .returned (.bool true) ∧ Grown w w' := by
  unfold maxLen at w0 w1
  by_cases c0 : 1048576 < a0.size
  · clear h
    go_enter Try.func8, Try.ntmps8
    go_wp2
    go_ret
    exact ⟨rfl, Grown.refl _⟩
  by_cases c1 : 1048576 < a1.size
  · clear h
    go_enter Try.func8, Try.ntmps8
    go_wp2
    go_ret
    exact ⟨rfl, Grown.refl _⟩
  by_cases c2 : 1048576 < a0.size + a1.size
  · clear h
    go_enter Try.func8, Try.ntmps8
    go_wp2
    go_ret
    exact ⟨rfl, Grown.refl _⟩
  by_cases c3 : 524288 < a0.size
  · clear h
    go_enter Try.func8, Try.ntmps8
    go_wp2
    go_ret
    exact ⟨rfl, Grown.refl _⟩
  have c4 : 524288 < a1.size := by omega
  clear h
  go_enter Try.func8, Try.ntmps8
  go_wp2
  go_ret
  exact ⟨rfl, Grown.refl _⟩

theorem two_readers {w : World} {b1 b2 : Nat} (h1 : Rd w b1) (h2 : Rd w b2) (hne : b1 ≠ b2) :
    (binOp .eql 39 (.pointer (some ⟨b1, 0, none⟩)) (.pointer (some ⟨b2, 0, none⟩))).run Try.prog w = .ok (.bool false) w := by
  obtain ⟨C1, e1⟩ := h1.obj
  obtain ⟨C2, e2⟩ := h2.obj
  cases hi : Try.prog.info? 78 with
  | none => exact absurd (show (Try.prog.info? 78).map (·.size) = some 64 by kernel_rfl) (by rw [hi]; simp)
  | some j =>
    have hj : (Try.prog.info? 78).map (·.size) = some 64 := by kernel_rfl
    rw [hi] at hj
    exact run_eql_ptr_other w Try.underlying39 hi (by simp at hj; omega) (fun h => hne (by injection h)) e1 e2

/-- both readers, as they were made, and nothing old turned -/
structure Both (w v : World) (b1 b2 : Nat) : Prop where
  r1 : Rd v b1
  r2 : Rd v b2
  k : Kept w.heap.size w v
theorem Both.drewN {w v : World} {b1 b2 : Nat} (h : Both w v b1 b2) (n : Nat) : Both w (v.drewN n) b1 b2 :=
  ⟨h.r1.kept h.r1.lt ((Kept.refl _ _).drewN n), h.r2.kept h.r2.lt ((Kept.refl _ _).drewN n), h.k.drewN n⟩
theorem Both.alloc {w v : World} {b1 b2 : Nat} (h : Both w v b1 b2) (c : Array Value) (t : TypeId) : Both w (v.alloc (.cells c t)) b1 b2 :=
  ⟨h.r1.kept h.r1.lt ((Kept.refl _ _).alloc (Nat.le_refl _) c t), h.r2.kept h.r2.lt ((Kept.refl _ _).alloc (Nat.le_refl _) c t), h.k.alloc h.k.below.size c t⟩
theorem start_b {w v : World} {b1 b2 : Nat} (h : Both w v b1 b2) (b : Nat) (hb : b = b1 ∨ b = b2) :
    Calls Try.prog 23 #[.pointer (some ⟨b, 0, none⟩)] v fun e v' => e = .returned (.tuple #[.int .i64 1, .int .i64 1, .int .i64 0]) ∧ Both w v' b1 b2 := by
  have hr : Rd v b := by rcases hb with rfl | rfl; exact h.r1; exact h.r2
  refine (start_any b v hr).mono ?_
  rintro e v' ⟨rfl, n, rfl⟩
  exact ⟨rfl, h.drewN n⟩
theorem checked_b {w v : World} {b1 b2 : Nat} (h : Both w v b1 b2) (b : Nat) (hb : b = b1 ∨ b = b2) :
    Calls Try.prog 24 #[.pointer (some ⟨b, 0, none⟩)] v fun e v' => e = .returned (.tuple #[.int .i64 0, .int .i64 0, .bool true]) ∧ Both w v' b1 b2 := by
  have hr : Rd v b := by rcases hb with rfl | rfl; exact h.r1; exact h.r2
  refine (checked_any b v hr).mono ?_
  rintro e v' ⟨rfl, n, rfl⟩
  exact ⟨rfl, h.drewN n⟩
theorem alias_b {w v : World} {b1 b2 : Nat} (h : Both w v b1 b2) :
    Calls Try.prog 10 #[.agg #[.int .i64 0, .int .i64 0, .int .i64 0]] v fun e v' => e = .returned (.int .i64 1048576) ∧ Both w v' b1 b2 := by
  refine (alias_any v).mono ?_
  rintro e v' ⟨rfl, rfl⟩
  exact ⟨rfl, (h.alloc _ _).alloc _ _⟩

set_option maxHeartbeats 1000000 in
set_option maxRecDepth 20000 in
theorem main_walk (a0 a1 : ByteArray) (w0 : a0.size ≤ 524288) (w1 : a1.size ≤ 524288) (w : World) :
    Calls Try.prog 8 #[.string a0, .string a1] w fun e w' => e = .returned (.bool true) ∧ Grown w w' := by
  have q25 : ∀ w, (binOp .eql 25 (.agg #[.int .i64 0, .int .i64 0, .int .i64 0]) (.agg #[.int .i64 0, .int .i64 0, .int .i64 0])).run Try.prog w = .ok (.bool true) w := fun _ => by kernel_rfl
  go_enter Try.func8, Try.ntmps8
  go_wp2_with (first
    | (go_at_call 21; go_in)
    | (go_at_call_of 22 (Value.string a0); refine (over_any a0 _ (by unfold maxLen; omega)).mono ?_; rintro e v1 ⟨b1, rfl, hb1, hR1, hk1⟩)
    | (go_at_call 22; refine (over_any a1 _ (by unfold maxLen; omega)).mono ?_; rintro e v2 ⟨b2, rfl, hb2, hR2, hk2⟩; have hq := two_readers (hR1.kept hR1.lt hk2) hR2 (by have := hR1.lt; omega); have hB := Both.mk (w := w) (hR1.kept hR1.lt hk2) hR2 (hk1.trans (hk2.mono hk1.below.size)); clear hR1 hR2 hk1 hk2 hb1 hb2)
    | (go_at_call_of 23 (Value.pointer (some ⟨b1, 0, none⟩)); refine (start_b hB b1 (Or.inl rfl)).mono ?_; clear hB hq; rintro e v3 ⟨rfl, hB⟩)
    | (go_at_call 23; refine (start_b hB b2 (Or.inr rfl)).mono ?_; clear hB; rintro e v3 ⟨rfl, hB⟩)
    | (go_at_call_of 24 (Value.pointer (some ⟨b1, 0, none⟩)); refine (checked_b hB b1 (Or.inl rfl)).mono ?_; clear hB; rintro e v3 ⟨rfl, hB⟩)
    | (go_at_call 24; refine (checked_b hB b2 (Or.inr rfl)).mono ?_; clear hB; rintro e v3 ⟨rfl, hB⟩; have p2 := hB.r1.c2; have p3 := hB.r1.c3; have p4 := hB.r1.c4; have s2 := hB.r2.c2; have s3 := hB.r2.c3; have s4 := hB.r2.c4)
    | (go_at_call 10; refine (alias_b hB).mono ?_; clear hB p2 p3 p4 s2 s3 s4; rintro e v4 ⟨rfl, hB⟩; have p1 := hB.r1.c1; have s1 := hB.r2.c1)
    | (go_at_call_of 25 (Value.pointer (some ⟨b1, 0, none⟩)); refine (warn_any _ _ hB.r1).mono ?_; rintro e v5 ⟨rfl, hv⟩; subst v5)
    | (go_at_call 25; refine (warn_any _ _ hB.r2).mono ?_; rintro e v5 ⟨rfl, hv⟩; subst v5)
    | (go_at_call_of 26 (Value.pointer (some ⟨b1, 0, none⟩)); refine (indent_any _ _ hB.r1).mono ?_; rintro e v5 ⟨rfl, hv⟩; subst v5)
    | (go_at_call 26; refine (indent_any _ _ hB.r2).mono ?_; rintro e v5 ⟨rfl, hv⟩; subst v5)
    | (go_at_call_of 27 (Value.pointer (some ⟨b1, 0, none⟩)); refine (depth_any _ _ hB.r1).mono ?_; rintro e v5 ⟨rfl, hv⟩; subst v5)
    | (go_at_call 27; refine (depth_any _ _ hB.r2).mono ?_; rintro e v5 ⟨rfl, hv⟩; subst v5))
  go_ret
  exact ⟨rfl, hB.k.grown⟩

theorem law_walk (a0 a1 : ByteArray) (w0 : a0.size ≤ maxLen) (w1 : a1.size ≤ maxLen) (w : World) :
    Calls Try.prog 8 #[.string a0, .string a1] w fun e w' => e = .returned (.bool true) ∧ Grown w w' := by
  by_cases h : 524288 < a0.size ∨ 524288 < a1.size
  · exact guard_walk a0 a1 w0 w1 w h
  · exact main_walk a0 a1 (by omega) (by omega) w
end Go.Proofs.Qxb6608736a.reader
