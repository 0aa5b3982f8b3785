/-
  The walks of passJSONChar where it is refused at its first two tests.
-/
import Derived.Test.Qxb6608736aPass2
import Derived.Deep.QuietTactic
import Derived.BigQuiet
namespace Go.Proofs.Qxb6608736a.pass
open Go.RowKit
set_option linter.unusedSimpArgs false

theorem Inp.drewN {w : World} {b : Nat} {pos valid : Int} {stop : Value} (h : Inp w b pos valid stop) (n : Nat) : Inp (w.drewN n) b pos valid stop := ⟨h.lt, h.cp, h.cv, h.cs, h.fv, h.fs⟩
theorem Kept.drewN {N : Nat} {a w : World} (h : Kept N a w) (n : Nat) : Kept N a (w.drewN n) := ⟨⟨h.below.os, h.below.tape, h.below.output, h.below.size, h.below.block⟩, h.marks⟩

/-- where the character is no quoted one: refused -/
theorem json_no (r : Int) (m : ByteArray) (b N : Nat) (pos valid i : Int) (w : World) (hI : Inp w b pos valid (.iface 83 (.agg #[.int .i32 r, .string m])))
    (h0 : r = 65533 ∨ (r < 32 ∧ ¬ r = 9)) (hN : N ≤ b) :
    Calls Try.prog 31 #[.pointer (some ⟨b, 0, none⟩), .int .i64 i] w fun e w' => e = .returned (.bool false) ∧ Inp w' b pos valid (.iface 83 (.agg #[.int .i32 r, .string m])) ∧ Kept N w w' := by
  have HI : Hid (Inp w b pos valid (.iface 83 (.agg #[.int .i32 r, .string m]))) := hI
  have hq : ∀ w, Calls Try.prog 35 #[.agg #[.int .i32 r, .string m]] w fun e w' => e = .returned (.bool false) ∧ w' = w.alloc (.cells #[.int .i32 r, .string m] 83) := by
    intro w
    rcases h0 with rfl | ⟨h1, h2⟩
    · exact quoted_f' m w
    · exact quoted_f r m w h1 (ne_of h2)
  clear h0
  obtain ⟨lt, cp, cv, cs, fv, fs⟩ := hI
  have hta := fun w => ta_yes r m w
  go_enter Try.func31, Try.ntmps31
  go_wp2
  refine wp_region_held_drew (S := fun w' => w'.cell? ⟨w.heap.size, 0, none⟩ = some (.int .i32 r) ∧ w'.cell? ⟨w.heap.size, 1, none⟩ = some (.string m)) (by kernel_rfl) ?_ (fun hHeld => ?_)
  · constructor <;> go_keep
  refine wpAnyH_take (i := 0) (oi := ⟨some 15, _, _, _, _, _⟩) (v := .bool true) rfl (by kernel_rfl) (by kernel_rfl) (by kernel_rfl) (fun _ _ _ h => h) (Or.inl ⟨by rfl, fun w hSw => ?_⟩) (by assumption) ?_
  · dsimp only at hSw
    go_simp
  try simp only [Act.put, List.setIfInBounds_toArray, List.set_cons_zero, List.set_cons_succ]
  refine wpAnyH_take (i := 1) (oi := ⟨some 16, _, _, _, _, _⟩) (v := .bool false) rfl (by kernel_rfl) (by kernel_rfl) (by kernel_rfl) (fun _ _ _ h => h) (Or.inl ⟨by rfl, fun w hSw => ?_⟩) (by assumption) ?_
  · dsimp only at hSw
    go_simp
  try simp only [Act.put, List.setIfInBounds_toArray, List.set_cons_zero, List.set_cons_succ]
  refine wpAnyH_take (i := 2) (oi := ⟨some 17, _, _, _, _, _⟩) (v := .bool false) rfl (by kernel_rfl) (by kernel_rfl) (by kernel_rfl) (fun _ _ _ h => h) (Or.inl ⟨by rfl, fun w hSw => ?_⟩) (by assumption) ?_
  · dsimp only at hSw
    go_simp
  try simp only [Act.put, List.setIfInBounds_toArray, List.set_cons_zero, List.set_cons_succ]
  refine wpAnyH_take (i := 3) (oi := ⟨some 18, _, _, _, _, _⟩) (v := .agg #[.int .i32 r, .string m]) rfl (by kernel_rfl) (by kernel_rfl) (by kernel_rfl) (fun _ _ _ h => h) (Or.inl ⟨by rfl, fun w hSw => ?_⟩) (by assumption) ?_
  · dsimp only at hSw
    go_simp
  try simp only [Act.put, List.setIfInBounds_toArray, List.set_cons_zero, List.set_cons_succ]
  refine wpAnyH_ready (rs := [4]) (by kernel_rfl) (by simp) ?_
  refine AllReadyH.cons (o := ⟨some 19, _, _, _, _, _⟩) rfl (fun K hK => ?_) AllReadyH.nil
  go_simp
  go_at_call 35
  refine (hq _).mono ?_
  rintro e w' ⟨rfl, rfl⟩
  go_wp2_with fail
  refine hK.out _ _ ?_ (fun hHeld => ?_)
  · constructor <;> go_keep
  clear hK K
  try simp only [Act.put, List.setIfInBounds_toArray, List.set_cons_zero, List.set_cons_succ]
  refine wpAnyH_take (i := 5) (oi := ⟨some 20, _, _, _, _, _⟩) (v := .bool true) rfl (by kernel_rfl) (by kernel_rfl) (by kernel_rfl) (fun _ _ _ h => h) (Or.inl ⟨by rfl, fun w hSw => ?_⟩) (by assumption) ?_
  · dsimp only at hSw
    go_simp
  try simp only [Act.put, List.setIfInBounds_toArray, List.set_cons_zero, List.set_cons_succ]
  refine wpAnyH_take (i := 6) (oi := ⟨some 21, _, _, _, _, _⟩) (v := .bool true) rfl (by kernel_rfl) (by kernel_rfl) (by kernel_rfl) (fun _ _ _ h => h) (Or.inl ⟨by rfl, fun w hSw => ?_⟩) (by assumption) ?_
  · dsimp only at hSw
    go_simp
  try simp only [Act.put, List.setIfInBounds_toArray, List.set_cons_zero, List.set_cons_succ]
  refine wpAnyH_take (i := 7) (oi := ⟨some 22, _, _, _, _, _⟩) (v := .bool true) rfl (by kernel_rfl) (by kernel_rfl) (by kernel_rfl) (fun _ _ _ h => h) (Or.inl ⟨by rfl, fun w hSw => ?_⟩) (by assumption) ?_
  · dsimp only at hSw
    go_simp
  try simp only [Act.put, List.setIfInBounds_toArray, List.set_cons_zero, List.set_cons_succ]
  refine wpAnyH_take (i := 8) (oi := ⟨some 23, _, _, _, _, _⟩) (v := undef) rfl (by kernel_rfl) (by kernel_rfl) (by kernel_rfl) (fun _ _ _ h => h) (Or.inr ⟨by rfl, rfl⟩) (by assumption) ?_
  try simp only [Act.put, List.setIfInBounds_toArray, List.set_cons_zero, List.set_cons_succ]
  refine wpAnyH_take (i := 9) (oi := ⟨some 24, _, _, _, _, _⟩) (v := undef) rfl (by kernel_rfl) (by kernel_rfl) (by kernel_rfl) (fun _ _ _ h => h) (Or.inr ⟨by rfl, rfl⟩) (by assumption) ?_
  try simp only [Act.put, List.setIfInBounds_toArray, List.set_cons_zero, List.set_cons_succ]
  refine wpAnyH_take (i := 10) (oi := ⟨some 25, _, _, _, _, _⟩) (v := undef) rfl (by kernel_rfl) (by kernel_rfl) (by kernel_rfl) (fun _ _ _ h => h) (Or.inr ⟨by rfl, rfl⟩) (by assumption) ?_
  try simp only [Act.put, List.setIfInBounds_toArray, List.set_cons_zero, List.set_cons_succ]
  refine wpAnyH_take (i := 11) (oi := ⟨some 26, _, _, _, _, _⟩) (v := undef) rfl (by kernel_rfl) (by kernel_rfl) (by kernel_rfl) (fun _ _ _ h => h) (Or.inr ⟨by rfl, rfl⟩) (by assumption) ?_
  try simp only [Act.put, List.setIfInBounds_toArray, List.set_cons_zero, List.set_cons_succ]
  refine wpAnyH_take (i := 12) (oi := ⟨some 27, _, _, _, _, _⟩) (v := undef) rfl (by kernel_rfl) (by kernel_rfl) (by kernel_rfl) (fun _ _ _ h => h) (Or.inr ⟨by rfl, rfl⟩) (by assumption) ?_
  try simp only [Act.put, List.setIfInBounds_toArray, List.set_cons_zero, List.set_cons_succ]
  refine wpAnyH_take (i := 13) (oi := ⟨some 28, _, _, _, _, _⟩) (v := undef) rfl (by kernel_rfl) (by kernel_rfl) (by kernel_rfl) (fun _ _ _ h => h) (Or.inr ⟨by rfl, rfl⟩) (by assumption) ?_
  try simp only [Act.put, List.setIfInBounds_toArray, List.set_cons_zero, List.set_cons_succ]
  refine wpAnyH_take (i := 14) (oi := ⟨some 29, _, _, _, _, _⟩) (v := undef) rfl (by kernel_rfl) (by kernel_rfl) (by kernel_rfl) (fun _ _ _ h => h) (Or.inr ⟨by rfl, rfl⟩) (by assumption) ?_
  try simp only [Act.put, List.setIfInBounds_toArray, List.set_cons_zero, List.set_cons_succ]
  refine wpAnyH_take (i := 15) (oi := ⟨some 30, _, _, _, _, _⟩) (v := undef) rfl (by kernel_rfl) (by kernel_rfl) (by kernel_rfl) (fun _ _ _ h => h) (Or.inr ⟨by rfl, rfl⟩) (by assumption) ?_
  try simp only [Act.put, List.setIfInBounds_toArray, List.set_cons_zero, List.set_cons_succ]
  refine wpAnyH_take (i := 16) (oi := ⟨some 31, _, _, _, _, _⟩) (v := undef) rfl (by kernel_rfl) (by kernel_rfl) (by kernel_rfl) (fun _ _ _ h => h) (Or.inr ⟨by rfl, rfl⟩) (by assumption) ?_
  try simp only [Act.put, List.setIfInBounds_toArray, List.set_cons_zero, List.set_cons_succ]
  refine wpAnyH_take (i := 17) (oi := ⟨some 32, _, _, _, _, _⟩) (v := undef) rfl (by kernel_rfl) (by kernel_rfl) (by kernel_rfl) (fun _ _ _ h => h) (Or.inr ⟨by rfl, rfl⟩) (by assumption) ?_
  try simp only [Act.put, List.setIfInBounds_toArray, List.set_cons_zero, List.set_cons_succ]
  refine wpAnyH_take (i := 18) (oi := ⟨some 33, _, _, _, _, _⟩) (v := undef) rfl (by kernel_rfl) (by kernel_rfl) (by kernel_rfl) (fun _ _ _ h => h) (Or.inr ⟨by rfl, rfl⟩) (by assumption) ?_
  try simp only [Act.put, List.setIfInBounds_toArray, List.set_cons_zero, List.set_cons_succ]
  refine wpAnyH_take (i := 19) (oi := ⟨some 34, _, _, _, _, _⟩) (v := .bool true) rfl (by kernel_rfl) (by kernel_rfl) (by kernel_rfl) (fun _ _ _ h => h) (Or.inl ⟨by rfl, fun w hSw => ?_⟩) (by assumption) ?_
  · dsimp only at hSw
    go_simp
  try simp only [Act.put, List.setIfInBounds_toArray, List.set_cons_zero, List.set_cons_succ]
  refine wpAnyH_done (by kernel_rfl) ?_ _
  go_wp2
  go_ret
  refine ⟨rfl, ?_, ?_⟩
  · exact (((HI.out.alloc _ _).alloc _ _).drew)
  · refine ((((Kept.refl N w).alloc ?_ _ _).alloc ?_ _ _).drew)
    all_goals (first | (simp; omega) | omega)

/-- where nothing stopped it: refused -/
theorem json_nil (b N : Nat) (pos valid i : Int) (w : World) (hI : Inp w b pos valid .nilIface) (hN : N ≤ b) :
    Calls Try.prog 31 #[.pointer (some ⟨b, 0, none⟩), .int .i64 i] w fun e w' => e = .returned (.bool false) ∧ Inp w' b pos valid .nilIface ∧ Kept N w w' := by
  have HI : Hid (Inp w b pos valid .nilIface) := hI
  obtain ⟨lt, cp, cv, cs, fv, fs⟩ := hI
  have hta := fun w => ta_no w
  go_enter Try.func31, Try.ntmps31
  go_wp2
  go_quiet (fail)
  go_wp2
  go_ret
  refine ⟨rfl, ?_, ?_⟩
  · exact ((HI.out.alloc _ _).drewN _)
  · exact (((Kept.refl N w).alloc (by omega) _ _).drewN _)
end Go.Proofs.Qxb6608736a.pass
