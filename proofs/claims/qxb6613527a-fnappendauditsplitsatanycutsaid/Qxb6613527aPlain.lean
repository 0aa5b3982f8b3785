/-
  The plain law of AppendAudit: lists of bytes, no Go in sight.
-/
import Derived.Lib.AppendStr
namespace Go.Proofs.Qxb6613527a.plain

/-- a string's bytes, as numbers -/
def ints (s : ByteArray) : List Int := s.data.toList.map fun b => (b.toNat : Int)
theorem ints_length (s : ByteArray) : (ints s).length = s.size := by
  unfold ints
  rw [List.length_map, Array.length_toList]
  rfl
theorem strCells_ints (s : ByteArray) : Lib.strCells s = (ints s).map (Value.int .u8) := by
  unfold Lib.strCells ints
  rw [List.map_map]
  rfl

/-- a policy's name: NAMESPACE/NAME -/
def nm (r : ByteArray × ByteArray) : List Int := ints r.1 ++ 47 :: ints r.2
theorem nm_length (r : ByteArray × ByteArray) : (nm r).length = r.1.size + 1 + r.2.size := by
  unfold nm
  rw [List.length_append, List.length_cons, ints_length, ints_length]
  omega

/-- items parted by sep -/
def jn (sep : List Int) : List (List Int) → List Int
  | [] => []
  | x :: xs => x ++ xs.flatMap (fun y => sep ++ y)
theorem jn_snoc (sep : List Int) (xs : List (List Int)) (y : List Int) (h : xs ≠ []) : jn sep (xs ++ [y]) = jn sep xs ++ (sep ++ y) := by
  cases xs with
  | nil => exact absurd rfl h
  | cons x xs => simp [jn]
theorem jn_one (sep : List Int) (y : List Int) : jn sep [y] = y := by simp [jn]
theorem jn_append (sep : List Int) (xs ys : List (List Int)) (hx : xs ≠ []) (hy : ys ≠ []) : jn sep (xs ++ ys) = jn sep xs ++ sep ++ jn sep ys := by
  cases xs with
  | nil => exact absurd rfl hx
  | cons x xs => cases ys with
    | nil => exact absurd rfl hy
    | cons y ys => simp [jn]
theorem jn_length (sep : List Int) (xs : List (List Int)) (h : xs ≠ []) : (jn sep xs).length = (xs.map List.length).sum + (xs.length - 1) * sep.length := by
  cases xs with
  | nil => exact absurd rfl h
  | cons x xs =>
    have : ∀ l : List (List Int), (l.flatMap (fun y => sep ++ y)).length = (l.map List.length).sum + l.length * sep.length := by
      intro l
      induction l with
      | nil => simp
      | cons a l ih => simp only [List.flatMap_cons, List.length_append, ih, List.map_cons, List.sum_cons, List.length_cons, Nat.add_mul, Nat.one_mul]; omega
    simp only [jn, List.length_append, this, List.map_cons, List.sum_cons, List.length_cons, Nat.add_sub_cancel]
    omega

/-- the default's name -/
def dfl : List Int := ints ⟨#[100, 101, 102, 97, 117, 108, 116, 45, 105, 110, 98, 111, 117, 110, 100, 45, 112, 111, 108, 105, 99, 121]⟩
theorem dfl_length : dfl.length = 22 := by rfl

/-- the audit list -/
def items (rs : List (ByteArray × ByteArray)) (d : Bool) : List (List Int) := rs.map nm ++ (if d then [dfl] else [])
/-- what AppendAudit appends -/
def body (sep : List Int) (rs : List (ByteArray × ByteArray)) (d : Bool) : List Int := jn sep (items rs d)

theorem body_plain (sep : List Int) (rs : List (ByteArray × ByteArray)) : body sep rs false = jn sep (rs.map nm) := by simp [body, items]
theorem body_default (sep : List Int) (rs : List (ByteArray × ByteArray)) (h : rs ≠ []) : body sep rs true = jn sep (rs.map nm) ++ (sep ++ dfl) := by
  simp only [body, items, if_true]
  exact jn_snoc _ _ _ (by simpa using h)
theorem body_only (sep : List Int) : body sep [] true = dfl := by simp [body, items, jn_one]
theorem step_first (sep : List Int) (r : ByteArray × ByteArray) (rs : List (ByteArray × ByteArray)) : jn sep ((r :: rs).take 1 |>.map nm) = nm r := by simp [jn_one]
theorem step_next (sep : List Int) (rs : List (ByteArray × ByteArray)) (k : Nat) (hk : k < rs.length) (h0 : 0 < k) :
    jn sep ((rs.take (k + 1)).map nm) = jn sep ((rs.take k).map nm) ++ (sep ++ nm rs[k]) := by
  rw [List.take_succ_eq_append_getElem hk, List.map_append]
  exact jn_snoc _ _ _ (by simp; exact ⟨by omega, fun h => by subst h; simp at hk⟩)

/-- THE LAW: whole = first k, a sep where both sides are not empty, the rest -/
theorem split (sep : List Int) (rs : List (ByteArray × ByteArray)) (d : Bool) (k : Nat) (hk : k ≤ rs.length) :
    body sep rs d = body sep (rs.take k) false ++ (if 0 < k ∧ (k < rs.length ∨ d = true) then sep else []) ++ body sep (rs.drop k) d := by
  have e : items rs d = (rs.take k).map nm ++ items (rs.drop k) d := by
    unfold items
    rw [← List.append_assoc, ← List.map_append, List.take_append_drop]
  rw [body_plain]
  unfold body
  rw [e]
  by_cases h0 : 0 < k
  · by_cases h1 : k < rs.length ∨ d = true
    · rw [if_pos ⟨h0, h1⟩]
      refine jn_append _ _ _ ?_ ?_
      · simp; exact ⟨by omega, fun h => by subst h; simp at hk; omega⟩
      · unfold items
        rcases h1 with h1 | h1
        · simp; intro h; omega
        · simp [h1]
    · rw [if_neg (fun h => h1 h.2)]
      have hd : d = false := by cases d; rfl; exact absurd (Or.inr rfl) h1
      have hn : rs.drop k = [] := by rw [List.drop_eq_nil_iff]; omega
      rw [hn, hd]
      simp [items, jn]
  · obtain rfl : k = 0 := by omega
    simp [jn]

/-- how long it is -/
theorem items_sum (rs : List (ByteArray × ByteArray)) (d : Bool) : ((items rs d).map List.length).sum = (rs.map fun r => r.1.size + 1 + r.2.size).sum + if d then 22 else 0 := by
  unfold items
  rw [List.map_append, List.sum_append, List.map_map]
  have : (List.length ∘ nm) = fun r => r.1.size + 1 + r.2.size := by funext r; exact nm_length r
  rw [this]
  cases d
  · simp
  · simp [dfl_length]
theorem items_length (rs : List (ByteArray × ByteArray)) (d : Bool) : (items rs d).length = rs.length + if d then 1 else 0 := by
  unfold items; cases d <;> simp
theorem body_length (sep : List Int) (rs : List (ByteArray × ByteArray)) (d : Bool) :
    (body sep rs d).length = (rs.map fun r => r.1.size + 1 + r.2.size).sum + (if d then 22 else 0) + (rs.length + (if d then 1 else 0) - 1) * sep.length := by
  by_cases h : items rs d = []
  · have h1 := items_length rs d
    have h2 := items_sum rs d
    rw [h] at h1 h2
    simp at h1 h2
    cases d
    · simp at h1
      obtain rfl : rs = [] := List.eq_nil_of_length_eq_zero h1.symm
      simp [body, items, jn]
    · simp at h1
  · rw [body, jn_length _ _ h, items_sum, items_length]
end Go.Proofs.Qxb6613527a.plain
