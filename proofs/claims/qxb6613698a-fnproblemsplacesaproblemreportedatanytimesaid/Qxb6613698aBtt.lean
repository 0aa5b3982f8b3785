/-
  zzBytes of the second law: it answers, whatever it answers.
-/
import Derived.Test.Qxb6613698aLw3
namespace Go.Proofs.Qxb6613698a.srt
open Go.RowKit Go.Proofs.Qxb6613698a.lst
set_option linter.unusedSimpArgs false

def CPost (w : World) (e : Ending) (w' : World) : Prop := (∃ b, e = .returned (.bool b)) ∧ Below w.heap.size w w'
theorem CPost.f {w : World} (b : Bool) (o : Obj) : CPost w (.returned (.bool b)) (w.alloc o) := ⟨⟨b, rfl⟩, (Below.refl _ _).alloc (Nat.le_refl _) _⟩

set_option maxHeartbeats 8000000 in
set_option maxRecDepth 20000 in
theorem bytes10_any (file : ByteArray) (ao : Option Addr) (s o n cap : Nat) (f : Nat → El) (at_ : Int) (ln cl : Int) (en ru me : ByteArray) (w : World) (hS : Src w s o n f) (hao : 0 < n → ao = some ⟨s, o, none⟩) :
    Calls Try.prog 10 #[.string file, .slice ao n cap, .int .i64 at_, .agg #[.int .i64 ln, .int .i64 cl, .string en, .string ru, .string me]] w (CPost w) := by
  go_enter Try.func10, Try.ntmps10
  go_wp2
  all_goals first
    | (go_ret; exact CPost.f _ _)
    | skip
  go_loopw [9, 10] (fun y x wr => ∃ (c : Int) (j : Nat), j ≤ n ∧ y = .int .i64 c ∧ x = .int .i64 (j : Int) ∧ wr = w.alloc (.cells #[.int .i64 ln, .int .i64 cl, .string en, .string ru, .string me] 25)) (fun _ x _ => n - (intOf x).toNat)
  case atStart => exact ⟨_, 0, Nat.zero_le _, rfl, rfl, rfl⟩
  case round =>
    obtain ⟨c, j, hj, rfl, rfl, hwr⟩ := hrel
    subst wr
    have hnn : (0 : Int) ≤ (n : Int) := by omega
    by_cases hlt : j < n
    · obtain rfl := hao (by omega)
      obtain ⟨c0, c1, c2, c3, c4⟩ := (hS.below ((Below.refl _ _).alloc (Nat.le_refl _) (.cells #[.int .i64 ln, .int .i64 cl, .string en, .string ru, .string me] 25))) j hlt
      have hi1 : (j : Int) < (n : Int) := by omega
      clear hS hao
      go_wp2
      all_goals first
        | (go_ret; exact CPost.f _ _)
        | (go_roundw; (case rel => exact ⟨_, j + 1, by omega, rfl, by go_num, by first | rfl | trivial⟩); (case measure => simp [intOf]; omega))
    · obtain rfl : n = j := by omega
      go_wp2
      all_goals (go_ret; exact CPost.f _ _)
end Go.Proofs.Qxb6613698a.srt
