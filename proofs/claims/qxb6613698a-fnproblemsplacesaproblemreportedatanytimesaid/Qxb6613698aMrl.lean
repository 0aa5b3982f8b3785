/-
  The walk of symMergeCmpFunc: the right half is one element.
-/
import Derived.Test.Qxb6613698aMrg
namespace Go.Proofs.Qxb6613698a.srt
open Go.RowKit Go.Proofs.Qxb6613698a.lst
set_option linter.unusedSimpArgs false

theorem take_ge {k : Pl} {B : List Nat} {x n : Nat} (h : Sorted k B) (hb : 0 < n → ∃ s, B[n - 1]? = some s ∧ ¬ lt k x s) : ∀ t ∈ B.take n, ¬ lt k x t := by
  intro t ht
  obtain ⟨i, hi, e⟩ := List.mem_iff_getElem.1 ht
  rw [List.length_take] at hi
  obtain ⟨s, h1, h2⟩ := hb (by omega)
  obtain ⟨hl, hs⟩ := List.getElem?_eq_some_iff.1 h1
  rw [List.getElem_take] at e
  have := sorted_le h (i := i) (j := n - 1) (by omega) hl (by omega)
  rw [e, hs] at this
  exact le_trans' this h2
theorem drop_lt {k : Pl} {B : List Nat} {x n : Nat} (h : Sorted k B) (hb : n < B.length → ∃ s, B[n]? = some s ∧ lt k x s) : ∀ t ∈ B.drop n, lt k x t := by
  intro t ht
  obtain ⟨i, hi, e⟩ := List.mem_iff_getElem.1 ht
  rw [List.length_drop] at hi
  obtain ⟨s, h1, h2⟩ := hb (by omega)
  obtain ⟨hl, hs⟩ := List.getElem?_eq_some_iff.1 h1
  rw [List.getElem_drop] at e
  have := sorted_le h (i := n) (j := n + i) hl (by omega) (by omega)
  rw [e, hs] at this
  exact lt_of_lt_le h2 this

set_option maxHeartbeats 2000000 in
set_option maxRecDepth 20000 in
theorem merge_last (g : Nat) (E : Nat → El) (X A Y : List Nat) (x N a m b cap : Nat) (w : World) (hN : N = (X ++ A ++ x :: Y).length) (ha : a = X.length) (hm : m = X.length + A.length) (hb : b = X.length + A.length + 1) (hA : 1 < A.length)
    (hd : Dat w g E (X ++ A ++ x :: Y)) (hs : Stab (pl E) (X ++ A ++ x :: Y)) (hso : Sorted (pl E) A) (hn : N ≤ 1048576) :
    Calls Try.prog 23 #[.slice (some ⟨g, 0, none⟩) N cap, .int .i64 a, .int .i64 m, .int .i64 b, .func (.func 17) #[] #[]] w (MPost g E X (A ++ [x]) Y w) := by
  have hNN : X.length + A.length + 1 + Y.length = N := by rw [hN]; simp only [List.length_append, List.length_cons]; omega
  have hbN : b ≤ N := by omega
  have hmb : m < b := by omega
  have ham : a < m := by omega
  have e1 : ((m : Int) - (a : Int) == 1) = false := by simp; omega
  have e2 : ((b : Int) - (m : Int) == 1) = true := by simp; omega
  have HA : Hid (a = X.length) := ha
  have HM : Hid (m = X.length + A.length) := hm
  have HN : Hid (N = (X ++ A ++ x :: Y).length) := hN
  clear ha hm hb hN hNN hA
  go_enter Try.func23, Try.ntmps23
  go_wp2
  go_loopw [14, 15, 16] (fun y z _ wr => ∃ i j : Nat, a ≤ i ∧ i ≤ j ∧ j ≤ m ∧ y = .int .i64 (i : Int) ∧ z = .int .i64 (j : Int) ∧ (a < i → ∃ s, A[i - 1 - a]? = some s ∧ ¬ lt (pl E) x s) ∧ (j < m → ∃ s, A[j - a]? = some s ∧ lt (pl E) x s) ∧ Dat wr g E (X ++ A ++ x :: Y) ∧ Gw g w wr) (fun y z _ _ => (intOf z).toNat - (intOf y).toNat)
  case atStart => exact ⟨a, m, Nat.le_refl _, by omega, Nat.le_refl _, rfl, rfl, fun h => absurd h (by omega), fun h => absurd h (by omega), hd, Gw.refl _ _⟩
  case round =>
    obtain ⟨i, j, hi, hij, hj, rfl, rfl, hi1, hj1, hdi, hg⟩ := hrel
    clear hd
    by_cases hlt : i < j
    · obtain ⟨h, hh⟩ : ∃ h, h = (i + j) / 2 := ⟨_, rfl⟩
      have eh : ((i : Int) + (j : Int)) / 2 = (h : Int) := by omega
      have hih : i ≤ h := by omega
      have hhj : h < j := by omega
      clear hh
      obtain ⟨s, hsB⟩ : ∃ s, A[h - a]? = some s := ⟨_, List.getElem?_eq_getElem (by have := HA.out; have := HM.out; omega)⟩
      have hps : (X ++ A ++ x :: Y)[h]? = some s := by
        have hl := (List.getElem?_eq_some_iff.1 hsB).1
        have := HA.out
        rw [List.append_assoc, List.getElem?_append_right (by omega), List.getElem?_append_left (by omega), ← hsB, HA.out]
      have hpx : (X ++ A ++ x :: Y)[m]? = some x := by
        have e : m = (X ++ A).length := by rw [List.length_append]; exact HM.out
        rw [e]; exact get_mid _ _ _
      obtain ⟨c0, c1, c2, c3, c4, c5⟩ := hdi.at hps
      obtain ⟨d0, d1, d2, d3, d4, d5⟩ := hdi.at hpx
      have hi1' : (h : Int) < (N : Int) := by omega
      have hi2' : (m : Int) < (N : Int) := by omega
      have HSB : Hid (A[h - a]? = some s) := hsB
      clear hps hpx hsB
      go_wp2_with fail
      go_region_held3 (fun w' => w'.cell? ⟨g, m * 6, none⟩ = some (.string (E x).file) ∧ w'.cell? ⟨g, m * 6 + 1, none⟩ = some (.string (E x).entry) ∧ w'.cell? ⟨g, m * 6 + 2, none⟩ = some (.string (E x).rule) ∧ w'.cell? ⟨g, m * 6 + 3, none⟩ = some (.string (E x).msg) ∧ w'.cell? ⟨g, m * 6 + 4, none⟩ = some (.int .i64 (E x).line) ∧ w'.cell? ⟨g, m * 6 + 5, none⟩ = some (.int .i64 (E x).col) ∧ w'.cell? ⟨g, h * 6, none⟩ = some (.string (E s).file) ∧ w'.cell? ⟨g, h * 6 + 1, none⟩ = some (.string (E s).entry) ∧ w'.cell? ⟨g, h * 6 + 2, none⟩ = some (.string (E s).rule) ∧ w'.cell? ⟨g, h * 6 + 3, none⟩ = some (.string (E s).msg) ∧ w'.cell? ⟨g, h * 6 + 4, none⟩ = some (.int .i64 (E s).line) ∧ w'.cell? ⟨g, h * 6 + 5, none⟩ = some (.int .i64 (E s).col)) (first | go_keep | exact keep12 (by assumption) (by assumption))
        (first | (go_at_call 17; refine (less_any _ _ _ _ _ _ _ _ _ _ _ _ _).mono ?_; rintro e w1 ⟨rfl, hb1⟩))
      have hd3 := (hdi.drew).below hb1
      have hg3 := hg.trans (Gw.drew (Gw.refl g _) |>.trans (Gw.below hb1))
      clear c0 c1 c2 c3 c4 c5 d0 d1 d2 d3 d4 d5 hb1 hdi hg
      by_cases hcmp : lt (pl E) x s
      · have hneg : Hid (decide (or2 (cm (E x).line (E s).line) (cm (E x).col (E s).col) < 0) = true) := decide_eq_true ((or2_lt E x s).2 hcmp)
        go_wp2_with fail
        · have h9 : (!decide (or2 (cm (E x).line (E s).line) (cm (E x).col (E s).col) < 0)) = true := by assumption
          rw [hneg.out] at h9
          exact absurd h9 (by decide)
        · go_roundw
          case rel => exact ⟨i, h, hi, by omega, by omega, rfl, rfl, hi1, fun _ => ⟨s, HSB.out, hcmp⟩, hd3, hg3⟩
          case measure => simp [intOf]; omega
      · have hneg : Hid (decide (or2 (cm (E x).line (E s).line) (cm (E x).col (E s).col) < 0) = false) := decide_eq_false (fun h => hcmp ((or2_lt E x s).1 h))
        go_wp2_with fail
        · go_roundw
          case rel => exact ⟨h + 1, j, by omega, by omega, hj, by go_num, rfl, fun _ => ⟨s, by simpa using HSB.out, hcmp⟩, hj1, hd3, hg3⟩
          case measure => simp [intOf]; omega
        · have h9 : (!decide (or2 (cm (E x).line (E s).line) (cm (E x).col (E s).col) < 0)) = false := by assumption
          rw [hneg.out] at h9
          exact absurd h9 (by decide)
    · obtain rfl : i = j := by omega
      have F1 := take_ge (k := pl E) (B := A) (x := x) (n := i - a) hso (fun h => by obtain ⟨s, h1, h2⟩ := hi1 (by omega); exact ⟨s, by rw [← h1]; congr 1; omega, h2⟩)
      have F2 := drop_lt (k := pl E) (B := A) (x := x) (n := i - a) hso (fun h => by obtain ⟨s, h1, h2⟩ := hj1 (by have := HA.out; have := HM.out; omega); exact ⟨s, h1, h2⟩)
      obtain ⟨B1, hB1⟩ : ∃ B1, B1 = A.take (i - a) := ⟨_, rfl⟩
      obtain ⟨B2, hB2⟩ : ∃ B2, B2 = A.drop (i - a) := ⟨_, rfl⟩
      have hBB : A = B1 ++ B2 := by rw [hB1, hB2, List.take_append_drop]
      have hl1 : a + B1.length = i := by rw [hB1, List.length_take]; have := HM.out; have := HA.out; omega
      have hl2 : i + B2.length = m := by rw [hB2, List.length_drop]; have := HM.out; have := HA.out; omega
      rw [← hB1] at F1
      rw [← hB2] at F2
      have HBB : Hid (A = B1 ++ B2) := hBB
      rw [hBB] at hs
      have hdi' : Dat wr g E (X ++ B1 ++ B2 ++ x :: [] ++ Y) := by have := hdi; rw [hBB] at this; simpa using this
      have hst' : Stab (pl E) (X ++ B1 ++ B2 ++ x :: [] ++ Y) := by simpa using hs
      have HL1 : Hid (a + B1.length = i) := hl1
      have HL2 : Hid (i + B2.length = m) := hl2
      clear hB1 hB2 hBB hs hdi hi1 hj1 hl1 hl2
      go_wp2
      go_loopw [17] (fun y wi => ∃ (k : Nat) (T1 T2 : List Nat), i + T1.length = k ∧ k ≤ m ∧ y = .int .i64 (k : Int) ∧ T1 ++ T2 = B2 ∧ Stab (pl E) (X ++ B1 ++ T1 ++ x :: T2 ++ Y) ∧ Dat wi g E (X ++ B1 ++ T1 ++ x :: T2 ++ Y) ∧ Gw g w wi) (fun y _ => (intOf y).toNat)
      case atStart => exact ⟨m, B2, [], HL2.out, Nat.le_refl _, rfl, by simp, hst', hdi', hg⟩
      case round =>
        obtain ⟨k, T1, T2, hT, hki, rfl, hTT, hst2, hd2, hg2⟩ := hrel
        clear hst' hdi' hg
        by_cases hkl : i < k
        · obtain ⟨T3, z, rfl⟩ : ∃ T3 z, T1 = T3 ++ [z] := by
            rcases List.eq_nil_or_concat T1 with h | ⟨T, z, h⟩
            · subst h; simp at hT; omega
            · exact ⟨T, z, by simpa using h⟩
          have hzx : lt (pl E) x z := F2 z (by rw [← hTT]; simp)
          have e0 : X ++ B1 ++ (T3 ++ [z]) ++ x :: T2 ++ Y = (X ++ B1 ++ T3) ++ z :: x :: (T2 ++ Y) := by simp
          have hkk : k = (X ++ B1 ++ T3).length + 1 := by rw [List.length_append, List.length_append, ← HA.out]; have := HL1.out; simp at hT; omega
          have hgz : (X ++ B1 ++ (T3 ++ [z]) ++ x :: T2 ++ Y)[k - 1]? = some z := by
            rw [e0, hkk, Nat.add_sub_cancel]; exact get_mid _ _ _
          have hgx : (X ++ B1 ++ (T3 ++ [z]) ++ x :: T2 ++ Y)[k]? = some x := by
            have e1 : (X ++ B1 ++ T3) ++ z :: x :: (T2 ++ Y) = (X ++ B1 ++ T3 ++ [z]) ++ x :: (T2 ++ Y) := by simp
            have e2 : k = (X ++ B1 ++ T3 ++ [z]).length := by rw [hkk]; simp only [List.length_append, List.length_cons, List.length_nil]
            rw [e0, e1, e2]; exact get_mid _ _ _
          obtain ⟨c0, c1, c2, c3, c4, c5⟩ := hd2.at hgx
          obtain ⟨d0, d1, d2, d3, d4, d5⟩ := hd2.at hgz
          have hf := hd2.free
          have hw1 : IntKind.i64.wrap ((k : Int) - 1) = ((k - 1 : Nat) : Int) := by rw [IntKind.wrap_i64]; omega
          have hi1 : (k : Int) < (N : Int) := by omega
          have hi2 : ((k - 1 : Nat) : Int) < (N : Int) := by omega
          have HKK : Hid (k = (X ++ B1 ++ T3).length + 1) := hkk
          have HTT : Hid (T3 ++ [z] ++ T2 = B2) := hTT
          have HE : Hid (X ++ B1 ++ (T3 ++ [z]) ++ x :: T2 ++ Y = (X ++ B1 ++ T3) ++ z :: x :: (T2 ++ Y)) := e0
          have HT : Hid (i + (T3 ++ [z]).length = k) := hT
          have HLN : Hid (k < (X ++ B1 ++ (T3 ++ [z]) ++ x :: T2 ++ Y).length) := by
            show _ < _
            exact (List.getElem?_eq_some_iff.1 hgx).1
          clear hgx hgz hkk hTT e0 hT
          go_wp2_with fail
          go_region
          go_wp2
          go_roundw
          case rel =>
            refine ⟨k - 1, T3, z :: T2, by have := HT.out; simp at this; omega, by omega, by go_num, by rw [← HTT.out]; simp, ?_, ?_, ?_⟩
            · have := hst2; rw [HE.out] at this
              have := stab_swap this hzx
              simpa using this
            · have hset := (hd2.set k z HLN.out).set (k - 1) x (by rw [List.length_set]; have := HLN.out; omega)
              rw [HE.out, swap_down (X ++ B1 ++ T3) (T2 ++ Y) z x k HKK.out] at hset
              have e3 : X ++ B1 ++ T3 ++ x :: (z :: T2) ++ Y = (X ++ B1 ++ T3) ++ x :: z :: (T2 ++ Y) := by simp
              rw [e3]
              exact hset.drew
            · exact ((((((((((((hg2.setCell _ _).setCell _ _).setCell _ _).setCell _ _).setCell _ _).setCell _ _).setCell _ _).setCell _ _).setCell _ _).setCell _ _).setCell _ _).setCell _ _).drew
          case measure => simp [intOf]; omega
        · have hT1 : T1 = [] := List.eq_nil_of_length_eq_zero (by omega)
          subst hT1
          have hT2 : T2 = B2 := by simpa using hTT
          subst hT2
          clear hTT
          go_wp2
          refine bodyPost_ret (results_none rfl _ _ _) rfl ?_
          have hso2 : Sorted (pl E) (B1 ++ T2) := by rw [← HBB.out]; exact hso
          refine ⟨rfl, ⟨B1 ++ x :: T2, ?_, sorted_insert hso2 F2 F1, ?_, ?_⟩, hg2⟩
          · rw [HBB.out]
            exact List.perm_middle.trans (by simpa using (List.perm_append_comm (l₁ := [x]) (l₂ := B1 ++ T2)))
          · simpa using hst2
          · simpa using hd2
end Go.Proofs.Qxb6613698a.srt
