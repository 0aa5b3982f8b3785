/-
  The plain law of the stable sort: lists of tags, no Go in sight.
-/
namespace Go.Proofs.Qxb6613698a.lst
set_option linter.unusedSimpArgs false

/-- the place that each tag is of -/
structure Pl where
  ln : Nat → Int
  cl : Nat → Int

def lt (k : Pl) (x y : Nat) : Prop := k.ln x < k.ln y ∨ (k.ln x = k.ln y ∧ k.cl x < k.cl y)
def same (k : Pl) (x y : Nat) : Prop := k.ln x = k.ln y ∧ k.cl x = k.cl y
/-- in file order -/
def Sorted (k : Pl) (l : List Nat) : Prop := l.Pairwise fun x y => ¬ lt k y x
/-- those at one place in the order they were reported -/
def Stab (k : Pl) (l : List Nat) : Prop := l.Pairwise fun x y => same k x y → x < y

variable {k : Pl}

theorem not_same_of_lt {x y : Nat} (h : lt k x y) : ¬ same k x y ∧ ¬ same k y x := by unfold lt at h; unfold same; omega
theorem le_trans' {x y z : Nat} (h : ¬ lt k y x) (h' : ¬ lt k z y) : ¬ lt k z x := by unfold lt at *; omega
theorem lt_of_le_lt {x y z : Nat} (h : ¬ lt k y x) (h' : lt k y z) : lt k x z := by unfold lt at *; omega
theorem lt_of_lt_le {x y z : Nat} (h : lt k x y) (h' : ¬ lt k z y) : lt k x z := by unfold lt at *; omega
theorem lt_asymm' {x y : Nat} (h : lt k x y) : ¬ lt k y x := by unfold lt at *; omega

/-- the exchange of two neighbouring blocks of which no two elements are of one place -/
theorem stab_exchange {X A B Y : List Nat} (h : Stab k (X ++ A ++ B ++ Y)) (hd : ∀ x ∈ A, ∀ y ∈ B, ¬ same k y x) : Stab k (X ++ B ++ A ++ Y) := by
  unfold Stab at *
  simp only [List.pairwise_append, List.mem_append] at h ⊢
  obtain ⟨⟨⟨hX, hA, hXA⟩, hB, hXAB⟩, hY, hXABY⟩ := h
  refine ⟨⟨⟨hX, hB, fun a ha b hb => hXAB a (Or.inl ha) b hb⟩, hA, ?_⟩, hY, ?_⟩
  · rintro a (ha | ha) b hb
    · exact hXA a ha b hb
    · intro hs; exact absurd hs (hd b hb a ha)
  · rintro a ((ha | ha) | ha) b hb
    · exact hXABY a (Or.inl (Or.inl ha)) b hb
    · exact hXABY a (Or.inr ha) b hb
    · exact hXABY a (Or.inl (Or.inr ha)) b hb
/-- one neighbour past another -/
theorem stab_swap {X Y : List Nat} {x y : Nat} (h : Stab k (X ++ x :: y :: Y)) (hd : lt k y x) : Stab k (X ++ y :: x :: Y) := by
  have := stab_exchange (X := X) (A := [x]) (B := [y]) (Y := Y) (by simpa using h) (by
    intro a ha b hb; simp at ha hb; subst ha hb; exact (not_same_of_lt hd).1)
  simpa using this

theorem sorted_le {A : List Nat} (h : Sorted k A) {i j : Nat} (hi : i < A.length) (hj : j < A.length) (hij : i ≤ j) : ¬ lt k A[j] A[i] := by
  by_cases e : i = j
  · subst e; unfold lt; omega
  · exact (List.pairwise_iff_getElem.1 h) i j hi hj (by omega)

/-- an insertion's step: the element x goes to its place between S1 and S2 -/
theorem sorted_insert {S1 S2 : List Nat} {x : Nat} (h : Sorted k (S1 ++ S2)) (h2 : ∀ s ∈ S2, lt k x s) (h1 : ∀ s ∈ S1, ¬ lt k x s) : Sorted k (S1 ++ x :: S2) := by
  unfold Sorted at *
  rw [List.pairwise_append] at h ⊢
  obtain ⟨a, b, c⟩ := h
  refine ⟨a, ?_, ?_⟩
  · rw [List.pairwise_cons]
    exact ⟨fun s hs => lt_asymm' (h2 s hs), b⟩
  · intro s hs t ht
    rcases List.mem_cons.1 ht with rfl | ht
    · exact h1 s hs
    · exact c s hs t ht
/-- all of S1 are at most x if its last is -/
theorem le_of_last {S1 : List Nat} {x y : Nat} (h : Sorted k (S1 ++ [y])) (hy : ¬ lt k x y) : ∀ s ∈ S1 ++ [y], ¬ lt k x s := by
  intro s hs
  rcases List.mem_append.1 hs with hs | hs
  · unfold Sorted at h
    rw [List.pairwise_append] at h
    have := h.2.2 s hs y (by simp)
    exact le_trans' this hy
  · simp at hs; subst hs; exact hy

/-- THE MERGE's STEP: the halves' parts L, u | v, R (L u and v R in order), v wholly ahead of u, L not behind R; L v merged to M1, u R merged to M2 -/
theorem merge_sorted {L u v R M1 M2 : List Nat} (hA : Sorted k (L ++ u)) (hB : Sorted k (v ++ R)) (h1 : ∀ x ∈ u, ∀ y ∈ v, ¬ lt k x y) (h2 : ∀ x ∈ L, ∀ y ∈ R, ¬ lt k y x)
    (p1 : M1.Perm (L ++ v)) (p2 : M2.Perm (u ++ R)) (s1 : Sorted k M1) (s2 : Sorted k M2) : Sorted k (M1 ++ M2) := by
  unfold Sorted at *
  rw [List.pairwise_append] at hA hB ⊢
  refine ⟨s1, s2, fun a ha b hb => ?_⟩
  rcases List.mem_append.1 (p1.mem_iff.1 ha) with ha | ha <;> rcases List.mem_append.1 (p2.mem_iff.1 hb) with hb | hb
  · exact hA.2.2 a ha b hb
  · exact h2 a ha b hb
  · exact h1 b hb a ha
  · exact hB.2.2 a ha b hb

/-! ### the exchange of two ranges, step by step -/
theorem set_mid {α : Type} (l1 : List α) (x y : α) (l2 : List α) : (l1 ++ x :: l2).set l1.length y = l1 ++ y :: l2 := by
  induction l1 with
  | nil => rfl
  | cons a l ih => simp [ih]
theorem get_mid {α : Type} (l1 : List α) (x : α) (l2 : List α) : (l1 ++ x :: l2)[l1.length]? = some x := by simp
/-- the row behind k exchanges -/
def swl (X U M V Y : List Nat) (k : Nat) : List Nat := X ++ (V.take k ++ U.drop k) ++ M ++ (U.take k ++ V.drop k) ++ Y
theorem swl_zero (X U M V Y : List Nat) : swl X U M V Y 0 = X ++ U ++ M ++ V ++ Y := by simp [swl]
theorem swl_all (X U M V Y : List Nat) (h : U.length = V.length) : swl X U M V Y U.length = X ++ V ++ M ++ U ++ Y := by
  unfold swl
  rw [List.take_of_length_le (by omega : V.length ≤ U.length), List.drop_eq_nil_of_le (Nat.le_refl _), List.take_of_length_le (Nat.le_refl _), List.drop_eq_nil_of_le (by omega : V.length ≤ U.length)]
  simp
theorem swl_length (X U M V Y : List Nat) (k : Nat) (h : U.length = V.length) : (swl X U M V Y k).length = X.length + U.length + M.length + V.length + Y.length := by
  unfold swl; simp only [List.length_append, List.length_take, List.length_drop]; omega
theorem swl_front (X U M V Y : List Nat) (k : Nat) (hU : k < U.length) : swl X U M V Y k = (X ++ V.take k) ++ U[k] :: (U.drop (k + 1) ++ M ++ (U.take k ++ V.drop k) ++ Y) := by
  unfold swl
  rw [List.drop_eq_getElem_cons hU]
  simp only [List.append_assoc, List.cons_append, List.nil_append]
theorem swl_back (X U M V Y : List Nat) (k : Nat) (hV : k < V.length) : swl X U M V Y k = (X ++ (V.take k ++ U.drop k) ++ M ++ U.take k) ++ V[k] :: (V.drop (k + 1) ++ Y) := by
  unfold swl
  rw [List.drop_eq_getElem_cons hV]
  simp only [List.append_assoc, List.cons_append, List.nil_append]
theorem swl_get1 (X U M V Y : List Nat) (k : Nat) (h : U.length = V.length) (hU : k < U.length) : (swl X U M V Y k)[X.length + k]? = some U[k] := by
  rw [swl_front _ _ _ _ _ _ hU]
  have e : X.length + k = (X ++ V.take k).length := by rw [List.length_append, List.length_take]; omega
  rw [e]
  exact get_mid _ _ _
theorem swl_get2 (X U M V Y : List Nat) (k : Nat) (h : U.length = V.length) (hV : k < V.length) : (swl X U M V Y k)[X.length + U.length + M.length + k]? = some V[k] := by
  rw [swl_back _ _ _ _ _ _ hV]
  have e : X.length + U.length + M.length + k = (X ++ (V.take k ++ U.drop k) ++ M ++ U.take k).length := by simp only [List.length_append, List.length_take, List.length_drop]; omega
  rw [e]
  exact get_mid _ _ _
theorem swl_step (X U M V Y : List Nat) (k : Nat) (h : U.length = V.length) (hU : k < U.length) (hV : k < V.length) :
    ((swl X U M V Y k).set (X.length + k) V[k]).set (X.length + U.length + M.length + k) U[k] = swl X U M V Y (k + 1) := by
  have e1 : X.length + k = (X ++ V.take k).length := by rw [List.length_append, List.length_take]; omega
  rw [swl_front _ _ _ _ _ _ hU, e1, set_mid]
  have e3 : (X ++ V.take k) ++ V[k] :: (U.drop (k + 1) ++ M ++ (U.take k ++ V.drop k) ++ Y) = (X ++ V.take k ++ V[k] :: U.drop (k + 1) ++ M ++ U.take k) ++ V[k] :: (V.drop (k + 1) ++ Y) := by
    rw [List.drop_eq_getElem_cons hV]; simp only [List.append_assoc, List.cons_append, List.nil_append]
  have e2 : X.length + U.length + M.length + k = (X ++ V.take k ++ V[k] :: U.drop (k + 1) ++ M ++ U.take k).length := by
    simp only [List.length_append, List.length_take, List.length_drop, List.length_cons]; omega
  rw [e3, e2, set_mid]
  unfold swl
  rw [List.take_succ_eq_append_getElem hV, List.take_succ_eq_append_getElem hU]
  simp only [List.append_assoc, List.cons_append, List.nil_append]
theorem swl_next (X U M V Y : List Nat) (k a b x y : Nat) (h : U.length = V.length) (ha : a = X.length) (hb : b = X.length + U.length + M.length) (hk : k < U.length)
    (hx : (swl X U M V Y k)[a + k]? = some x) (hy : (swl X U M V Y k)[b + k]? = some y) : ((swl X U M V Y k).set (a + k) y).set (b + k) x = swl X U M V Y (k + 1) := by
  subst ha hb
  rw [swl_get1 X U M V Y k h hk] at hx
  rw [swl_get2 X U M V Y k h (by omega)] at hy
  obtain rfl := Option.some.inj hx
  obtain rfl := Option.some.inj hy
  exact swl_step X U M V Y k h hk (by omega)
/-- two neighbours exchanged, the latter stored first -/
theorem swap_down (X Y : List Nat) (z x j : Nat) (hj : j = X.length + 1) : ((X ++ z :: x :: Y).set j z).set (j - 1) x = X ++ x :: z :: Y := by
  subst hj
  have e : X ++ z :: x :: Y = (X ++ [z]) ++ x :: Y := by simp
  have e1 : X.length + 1 = (X ++ [z]).length := by simp
  rw [e, e1, set_mid]
  have e2 : (X ++ [z]) ++ z :: Y = X ++ z :: (z :: Y) := by simp
  have e3 : (X ++ [z]).length - 1 = X.length := by simp
  rw [e2, e3, set_mid]
/-- two neighbours exchanged, the former stored first -/
theorem swap_up (X Y : List Nat) (z x j : Nat) (hj : j = X.length) : ((X ++ z :: x :: Y).set j x).set (j + 1) z = X ++ x :: z :: Y := by
  subst hj
  rw [set_mid]
  have e : X ++ x :: x :: Y = (X ++ [x]) ++ x :: Y := by simp
  have e1 : X.length + 1 = (X ++ [x]).length := by simp
  rw [e, e1, set_mid]
  simp
/-! ### a binary search's answer -/
theorem take_lt {B : List Nat} {x n : Nat} (h : Sorted k B) (hb : 0 < n → ∃ s, B[n - 1]? = some s ∧ lt k s x) : ∀ t ∈ B.take n, lt k t x := by
  intro t ht
  obtain ⟨i, hi, e⟩ := List.mem_iff_getElem.1 ht
  rw [List.length_take] at hi
  obtain ⟨s, h1, h2⟩ := hb (by omega)
  obtain ⟨hl, hs⟩ := List.getElem?_eq_some_iff.1 h1
  rw [List.getElem_take] at e
  have := sorted_le h (i := i) (j := n - 1) (by omega) hl (by omega)
  rw [e, hs] at this
  exact lt_of_le_lt this h2
theorem drop_ge {B : List Nat} {x n : Nat} (h : Sorted k B) (hb : n < B.length → ∃ s, B[n]? = some s ∧ ¬ lt k s x) : ∀ t ∈ B.drop n, ¬ lt k t x := by
  intro t ht
  obtain ⟨i, hi, e⟩ := List.mem_iff_getElem.1 ht
  rw [List.length_drop] at hi
  obtain ⟨s, h1, h2⟩ := hb (by omega)
  obtain ⟨hl, hs⟩ := List.getElem?_eq_some_iff.1 h1
  rw [List.getElem_drop] at e
  have := sorted_le h (i := n) (j := n + i) hl (by omega) (by omega)
  rw [e, hs] at this
  exact fun h3 => h2 (lt_of_le_lt this h3)
end Go.Proofs.Qxb6613698a.lst
