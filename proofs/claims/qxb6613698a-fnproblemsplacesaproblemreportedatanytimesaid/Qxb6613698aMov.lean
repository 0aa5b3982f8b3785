/-
  One problem more, reported at any time: where it lies, and where the others lie then.
-/
import Derived.Test.Qxb6613698aPos
namespace Go.Proofs.Qxb6613698a.srt
open Go.RowKit Go.Proofs.Qxb6613698a.lst

/-- the reports with p as number m -/
def withP (es : List El) (m : Nat) (p : El) : List El := es.take m ++ p :: es.drop m
/-- the number that number t has then -/
def phi (m t : Nat) : Nat := if t < m then t else t + 1
theorem withP_length {es : List El} {m : Nat} {p : El} (h : m ≤ es.length) : (withP es m p).length = es.length + 1 := by
  unfold withP
  simp only [List.length_append, List.length_cons, List.length_take, List.length_drop]
  omega
theorem elAt_getElem? {es : List El} {i : Nat} (x : El) (h : es[i]? = some x) : elAt es i = x := by
  unfold elAt
  rw [List.getD, h]
  rfl
theorem at_p {es : List El} {m : Nat} {p : El} (h : m ≤ es.length) : elAt (withP es m p) m = p := by
  apply elAt_getElem?
  unfold withP
  have hl : (es.take m).length = m := by rw [List.length_take]; omega
  rw [List.getElem?_append_right (by omega), hl]
  simp
theorem at_phi {es : List El} {m : Nat} {p : El} (h : m ≤ es.length) {t : Nat} (ht : t < es.length) : elAt (withP es m p) (phi m t) = elAt es t := by
  apply elAt_getElem?
  have e : elAt es t = es[t] := elAt_getElem? _ (List.getElem?_eq_getElem ht)
  rw [e]
  unfold withP phi
  have hl : (es.take m).length = m := by rw [List.length_take]; omega
  by_cases hc : t < m
  · rw [if_pos hc, List.getElem?_append_left (by omega), List.getElem?_take, if_pos hc]
    exact List.getElem?_eq_getElem ht
  · rw [if_neg hc, List.getElem?_append_right (by omega), hl]
    have e2 : t + 1 - m = (t - m) + 1 := by omega
    rw [e2, List.getElem?_cons_succ, List.getElem?_drop]
    have e3 : m + (t - m) = t := by omega
    rw [e3]
    exact List.getElem?_eq_getElem ht
theorem range_perm {n m : Nat} (h : m ≤ n) : (List.range (n + 1)).Perm (m :: (List.range n).map (phi m)) := by
  have e1 : n = m + (n - m) := by omega
  have e2 : n + 1 = m + (1 + (n - m)) := by omega
  have h1 : (List.range n).map (phi m) = List.range m ++ (List.range (n - m)).map (fun x => m + 1 + x) := by
    rw [e1, List.range_add, List.map_append]
    congr 1
    · refine (List.map_congr_left ?_).trans (List.map_id' _)
      intro x hx
      unfold phi
      rw [if_pos (List.mem_range.1 hx)]
    · rw [List.map_map]
      have : m + (n - m) - m = n - m := by omega
      rw [this]
      apply List.map_congr_left
      intro x _
      unfold phi
      simp only [Function.comp]
      rw [if_neg (by omega)]
      omega
  have h2 : List.range (n + 1) = List.range m ++ m :: (List.range (n - m)).map (fun x => m + 1 + x) := by
    rw [e2, List.range_add, List.range_add]
    congr 1
    have : List.range 1 = [0] := rfl
    rw [this, List.map_append, List.map_map]
    simp only [List.map_cons, List.map_nil, Nat.add_zero, List.cons_append, List.nil_append]
    congr 1
    apply List.map_congr_left
    intro x _
    simp only [Function.comp]
    omega
  rw [h1, h2]
  exact List.perm_middle
theorem ahead_phi {es : List El} {m : Nat} {p : El} (h : m ≤ es.length) {t j : Nat} (ht : t < es.length) (hj : j < es.length) : ahead (elAt (withP es m p)) (phi m t) (phi m j) = ahead (elAt es) t j := by
  unfold ahead
  rw [at_phi h ht, at_phi h hj]
  have : decide (phi m j < phi m t) = decide (j < t) := by
    unfold phi
    apply decide_eq_decide.2
    split <;> split <;> omega
  rw [this]
/-- what the law counts -/
def cnt (es : List El) (m : Nat) (p : El) (i : Nat) : Bool := bef (elAt es i) p || (decide (i < m) && sam (elAt es i) p)
theorem ahead_p {es : List El} {m : Nat} {p : El} (h : m ≤ es.length) {j : Nat} (hj : j < es.length) : ahead (elAt (withP es m p)) m (phi m j) = cnt es m p j := by
  unfold ahead cnt
  rw [at_phi h hj, at_p h]
  have : decide (phi m j < m) = decide (j < m) := by
    unfold phi
    apply decide_eq_decide.2
    split <;> omega
  rw [this]
theorem ahead_self (f : Nat → El) (i : Nat) : ahead f i i = false := by
  rw [Bool.eq_false_iff, ne_eq, ahead_iff]
  unfold lt same
  omega
theorem ahead_asymm {f : Nat → El} {i j : Nat} (h : ahead f i j = true) : ahead f j i = false := by
  rw [Bool.eq_false_iff, ne_eq]
  rw [ahead_iff] at h ⊢
  unfold lt same at *
  omega
theorem pos_eq {es : List El} {m : Nat} {p : El} (h : m ≤ es.length) : rk (elAt (withP es m p)) m (es.length + 1) = (List.range es.length).countP (cnt es m p) := by
  unfold rk
  rw [(range_perm h).countP_eq, List.countP_cons, ahead_self, List.countP_map]
  simp only [Bool.false_eq_true, if_false, Nat.add_zero]
  apply List.countP_congr
  intro x hx
  rw [Function.comp, ahead_p h (List.mem_range.1 hx)]
theorem rank_eq {es : List El} {m : Nat} {p : El} (h : m ≤ es.length) {t : Nat} (ht : t < es.length) : rk (elAt (withP es m p)) (phi m t) (es.length + 1) = rk (elAt es) t es.length + (if ahead (elAt (withP es m p)) (phi m t) m = true then 1 else 0) := by
  unfold rk
  rw [(range_perm h).countP_eq, List.countP_cons, List.countP_map]
  congr 1
  apply List.countP_congr
  intro x hx
  rw [Function.comp, ahead_phi h ht (List.mem_range.1 hx)]
theorem ahead_of_lt {f : Nat → El} {S : List Nat} (hs : Sorted (pl f) S) (ht : Stab (pl f) S) {a b x y : Nat} (hx : S[a]? = some x) (hy : S[b]? = some y) (h : a < b) : ahead f y x = true := by
  obtain ⟨ha, rfl⟩ := List.getElem?_eq_some_iff.1 hx
  obtain ⟨hb, rfl⟩ := List.getElem?_eq_some_iff.1 hy
  have h1 := (List.pairwise_iff_getElem.1 hs) a b ha hb h
  have h2 := (List.pairwise_iff_getElem.1 ht) a b ha hb h
  rw [ahead_iff]
  unfold lt same at *
  omega
/-- where the others lie with p among them -/
theorem moved {es : List El} {m : Nat} {p : El} (h : m ≤ es.length) {S1 S2 : List Nat} (hp1 : S1.Perm (List.range es.length)) (hs1 : Sorted (pl (elAt es)) S1) (ht1 : Stab (pl (elAt es)) S1)
    (hp2 : S2.Perm (List.range (es.length + 1))) (hs2 : Sorted (pl (elAt (withP es m p))) S2) (ht2 : Stab (pl (elAt (withP es m p))) S2) {pos i t : Nat} (hpos : pos = (List.range es.length).countP (cnt es m p)) (hi : S1[i]? = some t) :
    t < es.length ∧ S2[pos]? = some m ∧ S2[if pos ≤ i then i + 1 else i]? = some (phi m t) := by
  have htl : t < es.length := by
    have : t ∈ S1 := List.mem_iff_getElem?.2 ⟨i, hi⟩
    exact List.mem_range.1 (hp1.mem_iff.1 this)
  have hP : S2[pos]? = some m := by
    rw [hpos, ← pos_eq h]
    exact place hp2 hs2 ht2 (by omega)
  refine ⟨htl, hP, ?_⟩
  have hphi : phi m t < es.length + 1 := by unfold phi; split <;> omega
  have hne : phi m t ≠ m := by unfold phi; split <;> omega
  have hr := place hp2 hs2 ht2 hphi
  have hr1 := place hp1 hs1 ht1 htl
  have hnd : S1.Nodup := hp1.nodup_iff.2 List.nodup_range
  have hir : i = rk (elAt es) t es.length := by
    obtain ⟨l1, e1⟩ := List.getElem?_eq_some_iff.1 hi
    obtain ⟨l2, e2⟩ := List.getElem?_eq_some_iff.1 hr1
    rcases Nat.lt_trichotomy i (rk (elAt es) t es.length) with hc | hc | hc
    · exact absurd (e1.trans e2.symm) ((List.pairwise_iff_getElem.1 hnd) _ _ l1 l2 hc)
    · exact hc
    · exact absurd (e2.trans e1.symm) ((List.pairwise_iff_getElem.1 hnd) _ _ l2 l1 hc)
  rw [rank_eq h htl, ← hir] at hr
  by_cases ha : ahead (elAt (withP es m p)) (phi m t) m = true
  · rw [if_pos ha] at hr
    have : pos ≤ i := by
      rcases Nat.lt_trichotomy (i + 1) pos with hc | hc | hc
      · have := ahead_asymm (ahead_of_lt hs2 ht2 hr hP hc)
        rw [ha] at this
        cases this
      · rw [hc, hP] at hr
        exact absurd (Option.some.inj hr).symm hne
      · omega
    rw [if_pos this]
    exact hr
  · rw [if_neg ha] at hr
    have : ¬ pos ≤ i := by
      intro hc
      rcases Nat.lt_or_eq_of_le hc with hc | hc
      · exact ha (ahead_of_lt hs2 ht2 hP hr hc)
      · have hr' : S2[i]? = some (phi m t) := hr
        rw [← hc, hP] at hr'
        exact absurd (Option.some.inj hr').symm hne
    rw [if_neg this]
    exact hr
end Go.Proofs.Qxb6613698a.srt
