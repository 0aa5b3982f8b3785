/-
  Blocks in order: the plain part of stableCmpFunc.
-/
import Derived.Test.Qxb6613698aList
namespace Go.Proofs.Qxb6613698a.lst

variable {k : Pl}
def Bl (k : Pl) (n : Nat) (D : List (List Nat)) : Prop := ∀ d ∈ D, d.length = n ∧ Sorted k d
def L1 (k : Pl) (n a : Nat) (P : List Nat) : Prop := ∃ (D : List (List Nat)) (R : List Nat), P = D.flatten ++ R ∧ Bl k n D ∧ D.flatten.length = a
def L2 (k : Pl) (n : Nat) (P : List Nat) : Prop := ∃ (D : List (List Nat)) (R : List Nat), P = D.flatten ++ R ∧ Bl k n D ∧ Sorted k R ∧ R.length < n
def L3 (k : Pl) (n a : Nat) (P : List Nat) : Prop := ∃ (C D : List (List Nat)) (R : List Nat), P = C.flatten ++ D.flatten ++ R ∧ Bl k (2 * n) C ∧ Bl k n D ∧ Sorted k R ∧ R.length < n ∧ C.flatten.length = a

theorem L1_start (n : Nat) (P : List Nat) : L1 k n 0 P := ⟨[], P, rfl, fun d h => absurd h (by simp), rfl⟩
theorem L1_step {n a : Nat} {P : List Nat} (h : L1 k n a P) (hb : a + n ≤ P.length) :
    ∃ X A Y : List Nat, P = X ++ A ++ Y ∧ a = X.length ∧ A.length = n ∧ ∀ S : List Nat, S.Perm A → Sorted k S → L1 k n (a + n) (X ++ S ++ Y) := by
  obtain ⟨D, R, rfl, hD, ha⟩ := h
  rw [List.length_append] at hb
  refine ⟨D.flatten, R.take n, R.drop n, by rw [List.append_assoc, List.take_append_drop], ha.symm, by rw [List.length_take]; omega, ?_⟩
  intro S hp hs
  have hl : S.length = n := by rw [hp.length_eq, List.length_take]; omega
  refine ⟨D ++ [S], R.drop n, by simp, ?_, by simp; simp at ha; omega⟩
  intro d hd
  rcases List.mem_append.1 hd with h | h
  · exact hD d h
  · rw [List.mem_singleton.1 h]; exact ⟨hl, hs⟩
theorem L1_end {n a : Nat} {P : List Nat} (h : L1 k n a P) (hb : P.length < a + n) :
    ∃ X A : List Nat, P = X ++ A ++ [] ∧ a = X.length ∧ ∀ S : List Nat, S.Perm A → Sorted k S → L2 k n (X ++ S ++ []) := by
  obtain ⟨D, R, rfl, hD, ha⟩ := h
  rw [List.length_append] at hb
  refine ⟨D.flatten, R, by simp, ha.symm, ?_⟩
  intro S hp hs
  exact ⟨D, S, by simp, hD, hs, by rw [hp.length_eq]; omega⟩
theorem L3_start {n : Nat} {P : List Nat} (h : L2 k n P) : L3 k n 0 P := by
  obtain ⟨D, R, h1, h2, h3, h4⟩ := h
  exact ⟨[], D, R, by simpa using h1, fun d h => absurd h (by simp), h2, h3, h4, rfl⟩
theorem L3_step {n a : Nat} {P : List Nat} (h : L3 k n a P) (hb : a + 2 * n ≤ P.length) :
    ∃ X A B Y : List Nat, P = X ++ A ++ B ++ Y ∧ a = X.length ∧ A.length = n ∧ B.length = n ∧ Sorted k A ∧ Sorted k B ∧ ∀ S : List Nat, S.Perm (A ++ B) → Sorted k S → L3 k n (a + 2 * n) (X ++ S ++ Y) := by
  obtain ⟨C, D, R, rfl, hC, hD, hR, hRl, ha⟩ := h
  rw [List.length_append, List.length_append, ha] at hb
  match D, hD, hb with
  | [], _, hb => exact absurd hb (by simp; omega)
  | [d], hD, hb => exact absurd hb (by have := (hD d (by simp)).1; simp; omega)
  | d :: e :: D, hD, _ =>
    obtain ⟨l1, s1⟩ := hD d (by simp)
    obtain ⟨l2, s2⟩ := hD e (by simp)
    refine ⟨C.flatten, d, e, D.flatten ++ R, by simp, ha.symm, l1, l2, s1, s2, ?_⟩
    intro S hp hs
    refine ⟨C ++ [S], D, R, by simp, ?_, fun x hx => hD x (by simp [hx]), hR, hRl, ?_⟩
    · intro x hx
      rcases List.mem_append.1 hx with h | h
      · exact hC x h
      · rw [List.mem_singleton.1 h]
        exact ⟨by rw [hp.length_eq, List.length_append]; omega, hs⟩
    · rw [List.flatten_append, List.length_append, ha]
      have := hp.length_eq
      rw [List.length_append] at this
      simp; omega
theorem L3_end1 {n a : Nat} {P : List Nat} (h : L3 k n a P) (hb : P.length < a + 2 * n) (hm : a + n < P.length) :
    ∃ X A B : List Nat, P = X ++ A ++ B ++ [] ∧ a = X.length ∧ A.length = n ∧ 0 < B.length ∧ Sorted k A ∧ Sorted k B ∧ ∀ S : List Nat, S.Perm (A ++ B) → Sorted k S → L2 k (2 * n) (X ++ S ++ []) := by
  obtain ⟨C, D, R, rfl, hC, hD, hR, hRl, ha⟩ := h
  rw [List.length_append, List.length_append, ha] at hb hm
  match D, hD, hb, hm with
  | [], _, hb, hm => exact absurd hm (by simp; omega)
  | d :: e :: D, hD, hb, _ => exact absurd hb (by have := (hD d (by simp)).1; have := (hD e (by simp)).1; simp; omega)
  | [d], hD, hb, hm =>
    obtain ⟨l1, s1⟩ := hD d (by simp)
    simp at hb hm
    refine ⟨C.flatten, d, R, by simp, ha.symm, l1, by omega, s1, hR, ?_⟩
    intro S hp hs
    refine ⟨C, S, by simp, hC, hs, ?_⟩
    rw [hp.length_eq, List.length_append]
    omega
theorem L3_end2 {n a : Nat} {P : List Nat} (h : L3 k n a P) (hb : P.length < a + 2 * n) (hm : P.length ≤ a + n) : L2 k (2 * n) P := by
  obtain ⟨C, D, R, rfl, hC, hD, hR, hRl, ha⟩ := h
  rw [List.length_append, List.length_append, ha] at hb hm
  match D, hD, hb, hm with
  | [], _, hb, hm => exact ⟨C, R, by simp, hC, hR, by omega⟩
  | d :: e :: D, hD, hb, _ => exact absurd hb (by have := (hD d (by simp)).1; have := (hD e (by simp)).1; simp; omega)
  | [d], hD, hb, hm =>
    obtain ⟨l1, s1⟩ := hD d (by simp)
    simp at hb hm
    have : R = [] := List.eq_nil_of_length_eq_zero (by omega)
    subst this
    exact ⟨C, d, by simp, hC, s1, by omega⟩
theorem L2_fin {n : Nat} {P : List Nat} (h : L2 k n P) (hb : P.length ≤ n) : Sorted k P := by
  obtain ⟨D, R, rfl, hD, hR, hRl⟩ := h
  rw [List.length_append] at hb
  match D, hD, hb with
  | [], _, hb => simpa using hR
  | d :: e :: D, hD, hb => exact absurd hb (by have := (hD d (by simp)).1; have := (hD e (by simp)).1; simp; omega)
  | [d], hD, hb =>
    obtain ⟨l1, s1⟩ := hD d (by simp)
    simp at hb
    have : R = [] := List.eq_nil_of_length_eq_zero (by omega)
    subst this
    simpa using s1
end Go.Proofs.Qxb6613698a.lst
