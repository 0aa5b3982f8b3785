/-
  Where an element lies in the list in order: as many as go ahead of it stand before it.
-/
import Derived.Test.Qxb6613698aRnk
namespace Go.Proofs.Qxb6613698a.srt
open Go.RowKit Go.Proofs.Qxb6613698a.lst

theorem ahead_iff (f : Nat → El) (i j : Nat) : ahead f i j = true ↔ (lt (pl f) j i ∨ (same (pl f) j i ∧ j < i)) := by
  unfold ahead bef sam lt same pl
  simp only [Bool.or_eq_true, Bool.and_eq_true, decide_eq_true_eq]
  constructor
  · rintro (h | ⟨h1, h2⟩)
    · exact Or.inl h
    · exact Or.inr ⟨h2, h1⟩
  · rintro (h | ⟨h1, h2⟩)
    · exact Or.inl h
    · exact Or.inr ⟨h2, h1⟩
theorem place {f : Nat → El} {n : Nat} {S : List Nat} (hp : S.Perm (List.range n)) (hs : Sorted (pl f) S) (ht : Stab (pl f) S) {i : Nat} (hi : i < n) : S[rk f i n]? = some i := by
  have hm : i ∈ S := hp.mem_iff.2 (List.mem_range.2 hi)
  obtain ⟨X, Y, rfl⟩ := List.append_of_mem hm
  have hc : rk f i n = (X ++ i :: Y).countP (ahead f i) := by
    unfold rk
    exact (hp.countP_eq _).symm
  unfold Sorted at hs
  unfold Stab at ht
  rw [List.pairwise_append] at hs ht
  rw [List.pairwise_cons] at hs ht
  have hX : X.countP (ahead f i) = X.length := by
    rw [List.countP_eq_length]
    intro x hx
    rw [ahead_iff]
    have h1 := hs.2.2 x hx i (by simp)
    have h2 := ht.2.2 x hx i (by simp)
    unfold lt same at *
    omega
  have hY : Y.countP (ahead f i) = 0 := by
    rw [List.countP_eq_zero]
    intro y hy
    rw [ahead_iff]
    have h1 := hs.2.1.1 y hy
    have h2 := ht.2.1.1 y hy
    unfold lt same at *
    omega
  have hI : ahead f i i = false := by
    rw [Bool.eq_false_iff, ne_eq, ahead_iff]
    unfold lt same
    omega
  rw [hc, List.countP_append, List.countP_cons, hX, hY, hI]
  simp
end Go.Proofs.Qxb6613698a.srt
