/-
  The walk of symMergeCmpFunc: the plain part, and the whole.
-/
import Derived.Test.Qxb6613698aMrl
import Derived.Deep.DeepCutAuto
namespace Go.Proofs.Qxb6613698a.srt
open Go.RowKit Go.Proofs.Qxb6613698a.lst
set_option linter.unusedSimpArgs false

/-- where the search begins and ends -/
def s0 (a m b mid : Nat) : Nat := if mid < m then mid + m - b else a
def r0 (m mid : Nat) : Nat := if mid < m then mid else m

structure Ar (a m b mid s r p : Nat) : Prop where
  lo : a ≤ s
  sr : s ≤ r
  rm : r ≤ m
  rmid : r ≤ mid
  pc : ∀ c, s ≤ c → c < r → m ≤ p - c ∧ p - c < b ∧ c ≤ p
  en : ∀ i, s ≤ i → i ≤ r → mid + m - i ≤ b ∧ m ≤ mid + m - i
  first : ∀ i, s ≤ i → i < m → m < mid + m - i → i < r
  last : ∀ i, i ≤ r → a < i → mid + m - i < b → s < i
theorem ar_of {a m b mid : Nat} (h1 : a + 2 ≤ m) (h2 : m + 2 ≤ b) (hm : mid = (a + b) / 2) : Ar a m b mid (s0 a m b mid) (r0 m mid) (mid + m - 1) := by
  unfold s0 r0
  by_cases h : mid < m
  · simp only [if_pos h]
    exact ⟨by omega, by omega, by omega, by omega, fun c h1 h2 => by omega, fun i h1 h2 => by omega, fun i h1 h2 h3 => by omega, fun i h1 h2 h3 => by omega⟩
  · simp only [if_neg h]
    exact ⟨by omega, by omega, by omega, by omega, fun c h1 h2 => by omega, fun i h1 h2 => by omega, fun i h1 h2 h3 => by omega, fun i h1 h2 h3 => by omega⟩

/-- what lies at a place of the left half, of the right half -/
theorem get_A {X A B Y : List Nat} {a c s : Nat} (ha : a = X.length) (h1 : a ≤ c) (h2 : c < a + A.length) : (X ++ A ++ B ++ Y)[c]? = some s ↔ A[c - a]? = some s := by
  rw [List.append_assoc, List.append_assoc, List.getElem?_append_right (by omega), List.getElem?_append_left (by omega), ha]
theorem get_B {X A B Y : List Nat} {m c s : Nat} (hm : m = X.length + A.length) (h1 : m ≤ c) (h2 : c < m + B.length) : (X ++ A ++ B ++ Y)[c]? = some s ↔ B[c - m]? = some s := by
  rw [List.append_assoc, List.getElem?_append_right (by simp; omega), List.getElem?_append_left (by simp; omega), List.length_append, hm]

theorem all_lt {k : Pl} {A B : List Nat} {i j : Nat} (hA : Sorted k A) (hB : Sorted k B) (h : i < A.length → 0 < j → ∃ s t, A[i]? = some s ∧ B[j - 1]? = some t ∧ lt k t s) : ∀ x ∈ A.drop i, ∀ y ∈ B.take j, lt k y x := by
  intro x hx y hy
  have hi : i < A.length := by
    rcases Nat.lt_or_ge i A.length with h | h
    · exact h
    · rw [List.drop_eq_nil_of_le h] at hx; simp at hx
  have hj : 0 < j := by
    rcases Nat.eq_zero_or_pos j with h | h
    · subst h; simp at hy
    · exact h
  obtain ⟨s, t, h1, h2, h3⟩ := h hi hj
  have e1 := take_lt (k := k) (B := B) (x := s) (n := j) hB (fun _ => ⟨t, h2, h3⟩) y hy
  obtain ⟨hl, hs⟩ := List.getElem?_eq_some_iff.1 h1
  obtain ⟨q, hq, e⟩ := List.mem_iff_getElem.1 hx
  rw [List.length_drop] at hq
  rw [List.getElem_drop] at e
  have := sorted_le hA (i := i) (j := i + q) hl (by omega) (by omega)
  rw [e, hs] at this
  exact lt_of_lt_le e1 this
theorem all_le {k : Pl} {A B : List Nat} {i j : Nat} (hA : Sorted k A) (hB : Sorted k B) (h : 0 < i → j < B.length → ∃ s t, A[i - 1]? = some s ∧ B[j]? = some t ∧ ¬ lt k t s) (hi : i ≤ A.length) : ∀ x ∈ A.take i, ∀ y ∈ B.drop j, ¬ lt k y x := by
  intro x hx y hy
  have hj : j < B.length := by
    rcases Nat.lt_or_ge j B.length with h | h
    · exact h
    · rw [List.drop_eq_nil_of_le h] at hy; simp at hy
  have hi0 : 0 < i := by
    rcases Nat.eq_zero_or_pos i with h | h
    · subst h; simp at hx
    · exact h
  obtain ⟨s, t, h1, h2, h3⟩ := h hi0 hj
  have e1 := drop_ge (k := k) (B := B) (x := s) (n := j) hB (fun _ => ⟨t, h2, h3⟩) y hy
  obtain ⟨hl, hs⟩ := List.getElem?_eq_some_iff.1 h1
  obtain ⟨q, hq, e⟩ := List.mem_iff_getElem.1 hx
  rw [List.length_take] at hq
  rw [List.getElem_take] at e
  have := sorted_le hA (i := q) (j := i - 1) (by omega) hl (by omega)
  rw [e, hs] at this
  exact le_trans' this e1

/-- what the search knows of the places below it, and above it -/
def LoF (E : Nat → El) (A B : List Nat) (a m st0 p i : Nat) : Prop := st0 < i → ∃ s t, A[i - 1 - a]? = some s ∧ B[p - (i - 1) - m]? = some t ∧ ¬ lt (pl E) t s
def HiF (E : Nat → El) (A B : List Nat) (a m rr0 p j : Nat) : Prop := j < rr0 → ∃ s t, A[j - a]? = some s ∧ B[p - j - m]? = some t ∧ lt (pl E) t s

theorem split_at {E : Nat → El} {X A B : List Nat} {a m b mid st0 rr0 p nn i : Nat} (AR : Ar a m b mid st0 rr0 p) (hnn : nn = mid + m) (hp : p = mid + m - 1) (ha : a = X.length) (hm : m = X.length + A.length) (hb : b = X.length + A.length + B.length)
    (hi : st0 ≤ i) (hj : i ≤ rr0) (hmidb : mid ≤ b) (hsA : Sorted (pl E) A) (hsB : Sorted (pl E) B) (h1 : LoF E A B a m st0 p i) (h2 : HiF E A B a m rr0 p i) :
    ∃ (en : Nat) (L u v R : List Nat), en = nn - i ∧ (nn : Int) - (i : Int) = (en : Int) ∧ A = L ++ u ∧ B = v ++ R ∧ a + L.length = i ∧ i + u.length = m ∧ m + v.length = en ∧ en + R.length = b ∧ i + v.length = mid ∧ mid + u.length = en ∧
      (∀ x ∈ u, ∀ y ∈ v, lt (pl E) y x) ∧ (∀ x ∈ L, ∀ y ∈ R, ¬ lt (pl E) y x) := by
  have e1 := AR.en i hi hj
  have hlo := AR.lo
  have hrm := AR.rm
  have hrmid := AR.rmid
  refine ⟨nn - i, A.take (i - a), A.drop (i - a), B.take (nn - i - m), B.drop (nn - i - m), rfl, by omega, (List.take_append_drop _ _).symm, (List.take_append_drop _ _).symm, by rw [List.length_take]; omega, by rw [List.length_drop]; omega, by rw [List.length_take]; omega, by rw [List.length_drop]; omega, by rw [List.length_take]; omega, by rw [List.length_drop]; omega, ?_, ?_⟩
  · refine all_lt hsA hsB ?_
    intro hl hz
    obtain ⟨s, t, h3, h4, h5⟩ := h2 (AR.first i hi (by omega) (by omega))
    exact ⟨s, t, h3, by rw [← h4]; congr 1; omega, h5⟩
  · refine all_le hsA hsB ?_ (by omega)
    intro hl hz
    obtain ⟨s, t, h3, h4, h5⟩ := h1 (AR.last i hj (by omega) (by omega))
    exact ⟨s, t, by rw [← h3]; congr 1; omega, by rw [← h4]; congr 1; omega, h5⟩

theorem fin_of {g : Nat} {E : Nat → El} {X Y A B L u v R M1 M2 : List Nat} {w w' : World} (hA : A = L ++ u) (hB : B = v ++ R) (hsA : Sorted (pl E) A) (hsB : Sorted (pl E) B) (F1 : ∀ x ∈ u, ∀ y ∈ v, lt (pl E) y x) (F2 : ∀ x ∈ L, ∀ y ∈ R, ¬ lt (pl E) y x)
    (p1 : M1.Perm (L ++ v)) (p2 : M2.Perm (u ++ R)) (s1 : Sorted (pl E) M1) (s2 : Sorted (pl E) M2) (st : Stab (pl E) (X ++ M1 ++ M2 ++ Y)) (hd : Dat w' g E (X ++ M1 ++ M2 ++ Y)) (hg : Gw g w w') : MPost g E X (A ++ B) Y w (.returned (.tuple #[])) w' := by
  subst hA hB
  refine ⟨rfl, ⟨M1 ++ M2, ?_, merge_sorted hsA hsB (fun x hx y hy => lt_asymm' (F1 x hx y hy)) F2 p1 p2 s1 s2, by simpa using st, by simpa using hd⟩, hg⟩
  refine (p1.append p2).trans ?_
  simp only [List.append_assoc]
  refine List.Perm.append_left L ?_
  rw [← List.append_assoc, ← List.append_assoc]
  exact List.Perm.append_right R List.perm_append_comm

set_option maxHeartbeats 4000000 in
set_option maxRecDepth 20000 in
theorem merge_gen (g : Nat) (E : Nat → El) (X A B Y : List Nat) (N a m b cap : Nat) (w : World) (hN : N = (X ++ A ++ B ++ Y).length) (ha : a = X.length) (hm : m = X.length + A.length) (hb : b = X.length + A.length + B.length) (hA : 1 < A.length) (hB : 1 < B.length)
    (hd : Dat w g E (X ++ A ++ B ++ Y)) (hs : Stab (pl E) (X ++ A ++ B ++ Y)) (hsA : Sorted (pl E) A) (hsB : Sorted (pl E) B) (hn : N ≤ 1048576)
    (ih : ∀ (X A' B' Y : List Nat) (a m b : Nat) (w : World), N = (X ++ A' ++ B' ++ Y).length → a = X.length → m = X.length + A'.length → b = X.length + A'.length + B'.length → 0 < A'.length → 0 < B'.length → A'.length + B'.length < A.length + B.length →
      Dat w g E (X ++ A' ++ B' ++ Y) → Stab (pl E) (X ++ A' ++ B' ++ Y) → Sorted (pl E) A' → Sorted (pl E) B' → Calls Try.prog 23 #[.slice (some ⟨g, 0, none⟩) N cap, .int .i64 a, .int .i64 m, .int .i64 b, .func (.func 17) #[] #[]] w (MPost g E X (A' ++ B') Y w)) :
    Calls Try.prog 23 #[.slice (some ⟨g, 0, none⟩) N cap, .int .i64 a, .int .i64 m, .int .i64 b, .func (.func 17) #[] #[]] w (MPost g E X (A ++ B) Y w) := by
  have hNN : X.length + A.length + B.length + Y.length = N := by rw [hN]; simp only [List.length_append]
  have hbN : b ≤ N := by omega
  have hmb : m + 2 ≤ b := by omega
  have ham : a + 2 ≤ m := by omega
  have e1 : ((m : Int) - (a : Int) == 1) = false := by simp; omega
  have e2 : ((b : Int) - (m : Int) == 1) = false := by simp; omega
  obtain ⟨mid, hmid⟩ : ∃ mid, mid = (a + b) / 2 := ⟨_, rfl⟩
  have emid : ((a : Int) + (b : Int)) / 2 = (mid : Int) := by omega
  have hmidb : mid ≤ b := by omega
  have hamid : a ≤ mid := by omega
  have AR : Hid (Ar a m b mid (s0 a m b mid) (r0 m mid) (mid + m - 1)) := ar_of ham hmb hmid
  obtain ⟨nn, hnn⟩ : ∃ nn, nn = mid + m := ⟨_, rfl⟩
  have enn : (mid : Int) + (m : Int) = (nn : Int) := by omega
  obtain ⟨p, hp⟩ : ∃ p, p = mid + m - 1 := ⟨_, rfl⟩
  have ep : (nn : Int) - 1 = (p : Int) := by omega
  obtain ⟨st0, hst0⟩ : ∃ st0, st0 = s0 a m b mid := ⟨_, rfl⟩
  obtain ⟨rr0, hrr0⟩ : ∃ rr0, rr0 = r0 m mid := ⟨_, rfl⟩
  rw [← hst0, ← hrr0, ← hp] at AR
  have HS0 : Hid (st0 = s0 a m b mid) := hst0
  have HR0 : Hid (rr0 = r0 m mid) := hrr0
  have HMID : Hid (mid = (a + b) / 2) := hmid
  have HNNN : Hid (nn = mid + m) := hnn
  have HPP : Hid (p = mid + m - 1) := hp
  have hnnN : nn ≤ 2097152 := by omega
  have hpN : p ≤ 2097152 := by omega
  have HA : Hid (a = X.length) := ha
  have HM : Hid (m = X.length + A.length) := hm
  have HB : Hid (b = X.length + A.length + B.length) := hb
  have HN : Hid (N = (X ++ A ++ B ++ Y).length) := hN
  clear ha hm hb hN hNN hA hB hmid hnn hp hst0 hrr0
  go_enter Try.func23, Try.ntmps23
  go_upto_if 140 with fail
  go_cut [20, 21] (fun x y wc => x = .int .i64 (st0 : Int) ∧ y = .int .i64 (rr0 : Int) ∧ wc = w)
  case first =>
    by_cases hc : mid < m
    · have h1 : st0 = mid + m - b := by rw [HS0.out]; unfold s0; rw [if_pos hc]
      have h2 : rr0 = mid := by rw [HR0.out]; unfold r0; rw [if_pos hc]
      have H1 : Hid ((nn : Int) - (b : Int) = (st0 : Int)) := by show _ = _; have := HNNN.out; have := HMID.out; omega
      have H2 : Hid (rr0 = mid) := h2
      clear h1 h2
      go_wp2_with fail
      go_meet
      case rel => exact ⟨by rw [H1.out], by rw [H2.out], rfl⟩
    · have h1 : st0 = a := by rw [HS0.out]; unfold s0; rw [if_neg hc]
      have h2 : rr0 = m := by rw [HR0.out]; unfold r0; rw [if_neg hc]
      have H1 : Hid (st0 = a) := h1
      have H2 : Hid (rr0 = m) := h2
      clear h1 h2
      go_wp2_with fail
      go_meet
      case rel => exact ⟨by rw [H1.out], by rw [H2.out], rfl⟩
  case rest =>
    obtain ⟨rfl, rfl, hwc⟩ := hcut
    subst wc
    clear HS0 HR0
    have hsr := AR.out.sr
    have hrm := AR.out.rm
    have has := AR.out.lo
    go_wp2_with fail
    go_loopw [20, 21, 23] (fun y z _ wr => ∃ i j : Nat, st0 ≤ i ∧ i ≤ j ∧ j ≤ rr0 ∧ y = .int .i64 (i : Int) ∧ z = .int .i64 (j : Int) ∧ LoF E A B a m st0 p i ∧ HiF E A B a m rr0 p j ∧ Dat wr g E (X ++ A ++ B ++ Y) ∧ Gw g w wr) (fun y z _ _ => (intOf z).toNat - (intOf y).toNat)
    case atStart => exact ⟨st0, rr0, Nat.le_refl _, hsr, Nat.le_refl _, rfl, rfl, fun h => absurd h (by omega), fun h => absurd h (by omega), hd, Gw.refl _ _⟩
    case round =>
      obtain ⟨i, j, hi, hij, hj, rfl, rfl, hi1, hj1, hdi, hg⟩ := hrel
      clear hd
      by_cases hlt : i < j
      · obtain ⟨c, hh⟩ : ∃ c, c = (i + j) / 2 := ⟨_, rfl⟩
        have eh : ((i : Int) + (j : Int)) / 2 = (c : Int) := by omega
        have hih : i ≤ c := by omega
        have hhj : c < j := by omega
        clear hh
        obtain ⟨hq1, hq2, hq3⟩ := AR.out.pc c (by omega) (by omega)
        obtain ⟨q, hq⟩ : ∃ q, q = p - c := ⟨_, rfl⟩
        rw [← hq] at hq1 hq2
        have eq1 : IntKind.i64.wrap ((p : Int) - (c : Int)) = (q : Int) := by rw [IntKind.wrap_i64]; omega
        obtain ⟨s, hsA'⟩ : ∃ s, A[c - a]? = some s := ⟨_, List.getElem?_eq_getElem (by have := HA.out; have := HM.out; omega)⟩
        obtain ⟨t, htB'⟩ : ∃ t, B[q - m]? = some t := ⟨_, List.getElem?_eq_getElem (by have := HB.out; have := HM.out; omega)⟩
        have hps : (X ++ A ++ B ++ Y)[c]? = some s := (get_A HA.out (by omega) (by have := HA.out; have := HM.out; omega)).2 hsA'
        have hpx : (X ++ A ++ B ++ Y)[q]? = some t := (get_B HM.out (by omega) (by have := HB.out; have := HM.out; omega)).2 htB'
        obtain ⟨c0, c1, c2, c3, c4, c5⟩ := hdi.at hps
        obtain ⟨d0, d1, d2, d3, d4, d5⟩ := hdi.at hpx
        have hi1' : (c : Int) < (N : Int) := by omega
        have hi2' : (q : Int) < (N : Int) := by omega
        have HSA : Hid (A[c - a]? = some s) := hsA'
        have HTB : Hid (B[q - m]? = some t) := htB'
        have HQ : Hid (q = p - c) := hq
        clear hps hpx hsA' htB' hq
        go_wp2_with fail
        go_region_held3 (fun w' => w'.cell? ⟨g, q * 6, none⟩ = some (.string (E t).file) ∧ w'.cell? ⟨g, q * 6 + 1, none⟩ = some (.string (E t).entry) ∧ w'.cell? ⟨g, q * 6 + 2, none⟩ = some (.string (E t).rule) ∧ w'.cell? ⟨g, q * 6 + 3, none⟩ = some (.string (E t).msg) ∧ w'.cell? ⟨g, q * 6 + 4, none⟩ = some (.int .i64 (E t).line) ∧ w'.cell? ⟨g, q * 6 + 5, none⟩ = some (.int .i64 (E t).col) ∧ w'.cell? ⟨g, c * 6, none⟩ = some (.string (E s).file) ∧ w'.cell? ⟨g, c * 6 + 1, none⟩ = some (.string (E s).entry) ∧ w'.cell? ⟨g, c * 6 + 2, none⟩ = some (.string (E s).rule) ∧ w'.cell? ⟨g, c * 6 + 3, none⟩ = some (.string (E s).msg) ∧ w'.cell? ⟨g, c * 6 + 4, none⟩ = some (.int .i64 (E s).line) ∧ w'.cell? ⟨g, c * 6 + 5, none⟩ = some (.int .i64 (E s).col)) (first | go_keep | exact keep12 (by assumption) (by assumption))
          (first | (go_at_call 17; refine (less_any _ _ _ _ _ _ _ _ _ _ _ _ _).mono ?_; rintro e w1 ⟨rfl, hb1⟩))
        have hd3 := (hdi.drew).below hb1
        have hg3 := hg.trans (Gw.drew (Gw.refl g _) |>.trans (Gw.below hb1))
        clear c0 c1 c2 c3 c4 c5 d0 d1 d2 d3 d4 d5 hb1 hdi hg
        by_cases hcmp : lt (pl E) t s
        · have hneg : Hid (decide (or2 (cm (E t).line (E s).line) (cm (E t).col (E s).col) < 0) = true) := decide_eq_true ((or2_lt E t s).2 hcmp)
          go_wp2_with fail
          · have h9 : (!decide (or2 (cm (E t).line (E s).line) (cm (E t).col (E s).col) < 0)) = true := by assumption
            rw [hneg.out] at h9
            exact absurd h9 (by decide)
          · go_roundw
            case rel => exact ⟨i, c, hi, by omega, by omega, rfl, rfl, hi1, fun _ => ⟨s, t, HSA.out, by rw [← HTB.out, HQ.out], hcmp⟩, hd3, hg3⟩
            case measure => simp [intOf]; omega
        · have hneg : Hid (decide (or2 (cm (E t).line (E s).line) (cm (E t).col (E s).col) < 0) = false) := decide_eq_false (fun h => hcmp ((or2_lt E t s).1 h))
          go_wp2_with fail
          · go_roundw
            case rel => exact ⟨c + 1, j, by omega, by omega, hj, by go_num, rfl, fun _ => ⟨s, t, by simpa using HSA.out, by simpa using (by rw [← HTB.out, HQ.out] : B[p - c - m]? = some t), hcmp⟩, hj1, hd3, hg3⟩
            case measure => simp [intOf]; omega
          · have h9 : (!decide (or2 (cm (E t).line (E s).line) (cm (E t).col (E s).col) < 0)) = false := by assumption
            rw [hneg.out] at h9
            exact absurd h9 (by decide)
      · obtain rfl : i = j := by omega
        obtain ⟨en, L, u, v, R, hen, hen2, hAA, hBB, hL, hu, hv, hR, hmd, hen3, F1, F2⟩ := split_at AR.out HNNN.out HPP.out HA.out HM.out HB.out hi hj hmidb hsA hsB hi1 hj1
        have een : (nn : Int) - (i : Int) = (en : Int) := hen2
        have henb : en ≤ b := by omega
        have hNL : N = X.length + A.length + B.length + Y.length := by rw [HN.out]; simp only [List.length_append]
        have HNL : Hid (N = X.length + A.length + B.length + Y.length) := hNL
        have hdi' : Dat wr g E (X ++ L ++ u ++ v ++ (R ++ Y)) := by have := hdi; rw [hAA, hBB] at this; simpa using this
        have hst' : Stab (pl E) (X ++ L ++ u ++ v ++ (R ++ Y)) := by have := hs; rw [hAA, hBB] at this; simpa using this
        have HAA : Hid (A = L ++ u) := hAA
        have HBB : Hid (B = v ++ R) := hBB
        have HL : Hid (a + L.length = i) := hL
        have HU : Hid (i + u.length = m) := hu
        have HV : Hid (m + v.length = en) := hv
        have HR : Hid (en + R.length = b) := hR
        have HMD : Hid (i + v.length = mid) := hmd
        have HE3 : Hid (mid + u.length = en) := hen3
        have hst1 : Stab (pl E) (X ++ L ++ v ++ (u ++ R ++ Y)) := by
          have := stab_exchange (X := X ++ L) (A := u) (B := v) (Y := R ++ Y) hst' (fun x hx y hy => (not_same_of_lt (F1 x hx y hy)).1)
          simpa using this
        clear hen hen2 hAA hBB hL hu hv hR hmd hen3 hdi hs hi1 hj1 hNL hst'
        have HNOW := hij
        have HNOW := hij
        have HNOW := hij
        clear HNOW
        have hSL : Sorted (pl E) L := by have := hsA; rw [HAA.out] at this; exact (List.pairwise_append.1 this).1
        have hSu : Sorted (pl E) u := by have := hsA; rw [HAA.out] at this; exact (List.pairwise_append.1 this).2.1
        have hSv : Sorted (pl E) v := by have := hsB; rw [HBB.out] at this; exact (List.pairwise_append.1 this).1
        have hSR : Sorted (pl E) R := by have := hsB; rw [HBB.out] at this; exact (List.pairwise_append.1 this).2.1
        have HLU : Hid (L.length + u.length = A.length) := by show _ = _; rw [HAA.out, List.length_append]
        have HVR : Hid (v.length + R.length = B.length) := by show _ = _; rw [HBB.out, List.length_append]
        by_cases k1 : i < m
        · have k5 : mid < en := by have := HU.out; have := HE3.out; omega
          by_cases k2 : m < en
          · have k6 : i < mid := by have := HV.out; have := HMD.out; omega
            by_cases k3 : a < i
            · by_cases k4 : en < b
              · have hc1 := rotate_any g E (X ++ L) u v (R ++ Y) N i m en cap (.func (.func 17) #[] #[]) wr (by have := HNL.out; have h1 := congrArg List.length HAA.out; have h2 := congrArg List.length HBB.out; skip; simp only [List.length_append] at h1 h2 ⊢; omega) (by rw [List.length_append, ← HA.out, HL.out]) (by rw [List.length_append, ← HA.out, HL.out, HU.out]) (by rw [List.length_append, ← HA.out, HL.out, HU.out, HV.out]) (by have := HU.out; omega) (by have := HV.out; omega) hdi' hn
                go_upto_if 199 with (go_at_call 24; refine hc1.mono ?_; rintro e w1 ⟨rfl, hd1', hg1'⟩)
                clear hc1
                have hd1 : Dat w1 g E (X ++ L ++ v ++ (u ++ R ++ Y)) := by simpa using hd1'
                have hg1 := hg.trans hg1'
                clear hd1' hg1' hdi' hg
                have hc2 := ih X L v (u ++ R ++ Y) a i mid w1 (by have := HNL.out; have h1 := congrArg List.length HAA.out; have h2 := congrArg List.length HBB.out; skip; simp only [List.length_append] at h1 h2 ⊢; omega) HA.out (by rw [← HA.out, HL.out]) (by rw [← HA.out, HL.out, HMD.out]) (by have := HL.out; omega) (by have := HMD.out; omega) (by have := HMD.out; have := HL.out; have := HM.out; have := HB.out; have := HA.out; have := HMID.out; omega) hd1 hst1 hSL hSv
                go_upto_if 213 with (go_at_call 23; refine hc2.mono ?_; rintro e w2 ⟨rfl, ⟨M1, p1, s1, st2, hd2⟩, hg2'⟩)
                clear hc2
                have hg2 := hg1.trans hg2'
                clear hg2' hd1 hg1
                have q1 : M1.length = L.length + v.length := by have := p1.length_eq; rw [List.length_append] at this; exact this
                have HQ1 : Hid (M1.length = L.length + v.length) := q1
                clear q1
                have hd2b : Dat w2 g E (X ++ M1 ++ u ++ R ++ Y) := by simpa using hd2
                have st2b : Stab (pl E) (X ++ M1 ++ u ++ R ++ Y) := by simpa using st2
                clear hd2 st2
                have hc3 := ih (X ++ M1) u R Y mid en b w2 (by have := HNL.out; have h1 := congrArg List.length HAA.out; have h2 := congrArg List.length HBB.out; have := HQ1.out; simp only [List.length_append] at h1 h2 ⊢; omega) (by have := HQ1.out; have := HA.out; have := HL.out; have := HMD.out; rw [List.length_append]; omega) (by have := HQ1.out; have := HA.out; have := HL.out; have := HMD.out; have := HE3.out; rw [List.length_append]; omega) (by have := HQ1.out; have := HA.out; have := HL.out; have := HMD.out; have := HE3.out; have := HR.out; rw [List.length_append]; omega) (by have := HU.out; omega) (by have := HR.out; omega) (by have := HE3.out; have := HR.out; have := HM.out; have := HB.out; have := HA.out; have := HMID.out; omega) hd2b st2b hSu hSR
                go_wp2_with (go_at_call 23; refine hc3.mono ?_; rintro e w3 ⟨rfl, ⟨M2, p2, s2, st3, hd3⟩, hg3'⟩)
                have hg3 := hg2.trans hg3'
                go_end0
                exact fin_of HAA.out HBB.out hsA hsB F1 F2 p1 p2 s1 s2 st3 hd3 hg3
              · have hc1 := rotate_any g E (X ++ L) u v (R ++ Y) N i m en cap (.func (.func 17) #[] #[]) wr (by have := HNL.out; have h1 := congrArg List.length HAA.out; have h2 := congrArg List.length HBB.out; skip; simp only [List.length_append] at h1 h2 ⊢; omega) (by rw [List.length_append, ← HA.out, HL.out]) (by rw [List.length_append, ← HA.out, HL.out, HU.out]) (by rw [List.length_append, ← HA.out, HL.out, HU.out, HV.out]) (by have := HU.out; omega) (by have := HV.out; omega) hdi' hn
                go_upto_if 199 with (go_at_call 24; refine hc1.mono ?_; rintro e w1 ⟨rfl, hd1', hg1'⟩)
                clear hc1
                have hd1 : Dat w1 g E (X ++ L ++ v ++ (u ++ R ++ Y)) := by simpa using hd1'
                have hg1 := hg.trans hg1'
                clear hd1' hg1' hdi' hg
                have hc2 := ih X L v (u ++ R ++ Y) a i mid w1 (by have := HNL.out; have h1 := congrArg List.length HAA.out; have h2 := congrArg List.length HBB.out; skip; simp only [List.length_append] at h1 h2 ⊢; omega) HA.out (by rw [← HA.out, HL.out]) (by rw [← HA.out, HL.out, HMD.out]) (by have := HL.out; omega) (by have := HMD.out; omega) (by have := HMD.out; have := HL.out; have := HM.out; have := HB.out; have := HA.out; have := HMID.out; omega) hd1 hst1 hSL hSv
                go_upto_if 213 with (go_at_call 23; refine hc2.mono ?_; rintro e w2 ⟨rfl, ⟨M1, p1, s1, st2, hd2⟩, hg2'⟩)
                clear hc2
                have hg2 := hg1.trans hg2'
                clear hg2' hd1 hg1
                have q1 : M1.length = L.length + v.length := by have := p1.length_eq; rw [List.length_append] at this; exact this
                have HQ1 : Hid (M1.length = L.length + v.length) := q1
                clear q1
                have hd2b : Dat w2 g E (X ++ M1 ++ u ++ R ++ Y) := by simpa using hd2
                have st2b : Stab (pl E) (X ++ M1 ++ u ++ R ++ Y) := by simpa using st2
                clear hd2 st2
                have ⟨M2, p2, s2, st3, hd3⟩ : ∃ M2 : List Nat, M2.Perm (u ++ R) ∧ Sorted (pl E) M2 ∧ Stab (pl E) (X ++ M1 ++ M2 ++ Y) ∧ Dat w2 g E (X ++ M1 ++ M2 ++ Y) := by
                  have hnil : R = [] := List.eq_nil_of_length_eq_zero (by have := HR.out; omega)
                  refine ⟨u ++ R, List.Perm.refl _, ?_, by simpa using st2b, by simpa using hd2b⟩
                  rw [hnil]
                  simpa using hSu
                have hg3 := hg2
                go_wp2_with fail
                go_end0
                exact fin_of HAA.out HBB.out hsA hsB F1 F2 p1 p2 s1 s2 st3 hd3 hg3
            · by_cases k4 : en < b
              · have hc1 := rotate_any g E (X ++ L) u v (R ++ Y) N i m en cap (.func (.func 17) #[] #[]) wr (by have := HNL.out; have h1 := congrArg List.length HAA.out; have h2 := congrArg List.length HBB.out; skip; simp only [List.length_append] at h1 h2 ⊢; omega) (by rw [List.length_append, ← HA.out, HL.out]) (by rw [List.length_append, ← HA.out, HL.out, HU.out]) (by rw [List.length_append, ← HA.out, HL.out, HU.out, HV.out]) (by have := HU.out; omega) (by have := HV.out; omega) hdi' hn
                go_upto_if 199 with (go_at_call 24; refine hc1.mono ?_; rintro e w1 ⟨rfl, hd1', hg1'⟩)
                clear hc1
                have hd1 : Dat w1 g E (X ++ L ++ v ++ (u ++ R ++ Y)) := by simpa using hd1'
                have hg1 := hg.trans hg1'
                clear hd1' hg1' hdi' hg
                have ⟨M1, p1, s1, st2, hd2⟩ : ∃ M1 : List Nat, M1.Perm (L ++ v) ∧ Sorted (pl E) M1 ∧ Stab (pl E) (X ++ M1 ++ (u ++ R ++ Y)) ∧ Dat w1 g E (X ++ M1 ++ (u ++ R ++ Y)) := by
                  have hnil : L = [] := List.eq_nil_of_length_eq_zero (by have := HL.out; omega)
                  refine ⟨L ++ v, List.Perm.refl _, ?_, by simpa using hst1, by simpa using hd1⟩
                  rw [hnil]
                  simpa using hSv
                have hg2 := hg1
                clear hd1 hg1
                go_upto_if 213 with fail
                have q1 : M1.length = L.length + v.length := by have := p1.length_eq; rw [List.length_append] at this; exact this
                have HQ1 : Hid (M1.length = L.length + v.length) := q1
                clear q1
                have hd2b : Dat w1 g E (X ++ M1 ++ u ++ R ++ Y) := by simpa using hd2
                have st2b : Stab (pl E) (X ++ M1 ++ u ++ R ++ Y) := by simpa using st2
                clear hd2 st2
                have hc3 := ih (X ++ M1) u R Y mid en b w1 (by have := HNL.out; have h1 := congrArg List.length HAA.out; have h2 := congrArg List.length HBB.out; have := HQ1.out; simp only [List.length_append] at h1 h2 ⊢; omega) (by have := HQ1.out; have := HA.out; have := HL.out; have := HMD.out; rw [List.length_append]; omega) (by have := HQ1.out; have := HA.out; have := HL.out; have := HMD.out; have := HE3.out; rw [List.length_append]; omega) (by have := HQ1.out; have := HA.out; have := HL.out; have := HMD.out; have := HE3.out; have := HR.out; rw [List.length_append]; omega) (by have := HU.out; omega) (by have := HR.out; omega) (by have := HE3.out; have := HR.out; have := HM.out; have := HB.out; have := HA.out; have := HMID.out; omega) hd2b st2b hSu hSR
                go_wp2_with (go_at_call 23; refine hc3.mono ?_; rintro e w3 ⟨rfl, ⟨M2, p2, s2, st3, hd3⟩, hg3'⟩)
                have hg3 := hg2.trans hg3'
                go_end0
                exact fin_of HAA.out HBB.out hsA hsB F1 F2 p1 p2 s1 s2 st3 hd3 hg3
              · have hc1 := rotate_any g E (X ++ L) u v (R ++ Y) N i m en cap (.func (.func 17) #[] #[]) wr (by have := HNL.out; have h1 := congrArg List.length HAA.out; have h2 := congrArg List.length HBB.out; skip; simp only [List.length_append] at h1 h2 ⊢; omega) (by rw [List.length_append, ← HA.out, HL.out]) (by rw [List.length_append, ← HA.out, HL.out, HU.out]) (by rw [List.length_append, ← HA.out, HL.out, HU.out, HV.out]) (by have := HU.out; omega) (by have := HV.out; omega) hdi' hn
                go_upto_if 199 with (go_at_call 24; refine hc1.mono ?_; rintro e w1 ⟨rfl, hd1', hg1'⟩)
                clear hc1
                have hd1 : Dat w1 g E (X ++ L ++ v ++ (u ++ R ++ Y)) := by simpa using hd1'
                have hg1 := hg.trans hg1'
                clear hd1' hg1' hdi' hg
                have ⟨M1, p1, s1, st2, hd2⟩ : ∃ M1 : List Nat, M1.Perm (L ++ v) ∧ Sorted (pl E) M1 ∧ Stab (pl E) (X ++ M1 ++ (u ++ R ++ Y)) ∧ Dat w1 g E (X ++ M1 ++ (u ++ R ++ Y)) := by
                  have hnil : L = [] := List.eq_nil_of_length_eq_zero (by have := HL.out; omega)
                  refine ⟨L ++ v, List.Perm.refl _, ?_, by simpa using hst1, by simpa using hd1⟩
                  rw [hnil]
                  simpa using hSv
                have hg2 := hg1
                clear hd1 hg1
                go_upto_if 213 with fail
                have q1 : M1.length = L.length + v.length := by have := p1.length_eq; rw [List.length_append] at this; exact this
                have HQ1 : Hid (M1.length = L.length + v.length) := q1
                clear q1
                have hd2b : Dat w1 g E (X ++ M1 ++ u ++ R ++ Y) := by simpa using hd2
                have st2b : Stab (pl E) (X ++ M1 ++ u ++ R ++ Y) := by simpa using st2
                clear hd2 st2
                have ⟨M2, p2, s2, st3, hd3⟩ : ∃ M2 : List Nat, M2.Perm (u ++ R) ∧ Sorted (pl E) M2 ∧ Stab (pl E) (X ++ M1 ++ M2 ++ Y) ∧ Dat w1 g E (X ++ M1 ++ M2 ++ Y) := by
                  have hnil : R = [] := List.eq_nil_of_length_eq_zero (by have := HR.out; omega)
                  refine ⟨u ++ R, List.Perm.refl _, ?_, by simpa using st2b, by simpa using hd2b⟩
                  rw [hnil]
                  simpa using hSu
                have hg3 := hg2
                go_wp2_with fail
                go_end0
                exact fin_of HAA.out HBB.out hsA hsB F1 F2 p1 p2 s1 s2 st3 hd3 hg3
          · have k6 : ¬ i < mid := by have := HV.out; have := HMD.out; omega
            have k4 : en < b := by have := HV.out; have := HR.out; have := HVR.out; have := HB.out; have := HM.out; omega
            by_cases k3 : a < i
            · have hnil : v = [] := List.eq_nil_of_length_eq_zero (by have := HV.out; omega)
              have hd1 : Dat wr g E (X ++ L ++ v ++ (u ++ R ++ Y)) := by rw [hnil] at hdi' ⊢; simpa using hdi'
              have hg1 := hg
              clear hnil hdi' hg
              go_upto_if 199 with fail
              have ⟨M1, p1, s1, st2, hd2⟩ : ∃ M1 : List Nat, M1.Perm (L ++ v) ∧ Sorted (pl E) M1 ∧ Stab (pl E) (X ++ M1 ++ (u ++ R ++ Y)) ∧ Dat wr g E (X ++ M1 ++ (u ++ R ++ Y)) := by
                have hnil : v = [] := List.eq_nil_of_length_eq_zero (by have := HMD.out; omega)
                refine ⟨L ++ v, List.Perm.refl _, ?_, by simpa using hst1, by simpa using hd1⟩
                rw [hnil]
                simpa using hSL
              have hg2 := hg1
              clear hd1 hg1
              go_upto_if 213 with fail
              have q1 : M1.length = L.length + v.length := by have := p1.length_eq; rw [List.length_append] at this; exact this
              have HQ1 : Hid (M1.length = L.length + v.length) := q1
              clear q1
              have hd2b : Dat wr g E (X ++ M1 ++ u ++ R ++ Y) := by simpa using hd2
              have st2b : Stab (pl E) (X ++ M1 ++ u ++ R ++ Y) := by simpa using st2
              clear hd2 st2
              have hc3 := ih (X ++ M1) u R Y mid en b wr (by have := HNL.out; have h1 := congrArg List.length HAA.out; have h2 := congrArg List.length HBB.out; have := HQ1.out; simp only [List.length_append] at h1 h2 ⊢; omega) (by have := HQ1.out; have := HA.out; have := HL.out; have := HMD.out; rw [List.length_append]; omega) (by have := HQ1.out; have := HA.out; have := HL.out; have := HMD.out; have := HE3.out; rw [List.length_append]; omega) (by have := HQ1.out; have := HA.out; have := HL.out; have := HMD.out; have := HE3.out; have := HR.out; rw [List.length_append]; omega) (by have := HU.out; omega) (by have := HR.out; omega) (by have := HE3.out; have := HR.out; have := HM.out; have := HB.out; have := HA.out; have := HMID.out; omega) hd2b st2b hSu hSR
              go_wp2_with (go_at_call 23; refine hc3.mono ?_; rintro e w3 ⟨rfl, ⟨M2, p2, s2, st3, hd3⟩, hg3'⟩)
              have hg3 := hg2.trans hg3'
              go_end0
              exact fin_of HAA.out HBB.out hsA hsB F1 F2 p1 p2 s1 s2 st3 hd3 hg3
            · have hnil : v = [] := List.eq_nil_of_length_eq_zero (by have := HV.out; omega)
              have hd1 : Dat wr g E (X ++ L ++ v ++ (u ++ R ++ Y)) := by rw [hnil] at hdi' ⊢; simpa using hdi'
              have hg1 := hg
              clear hnil hdi' hg
              go_upto_if 199 with fail
              have ⟨M1, p1, s1, st2, hd2⟩ : ∃ M1 : List Nat, M1.Perm (L ++ v) ∧ Sorted (pl E) M1 ∧ Stab (pl E) (X ++ M1 ++ (u ++ R ++ Y)) ∧ Dat wr g E (X ++ M1 ++ (u ++ R ++ Y)) := by
                have hnil : L = [] := List.eq_nil_of_length_eq_zero (by have := HL.out; omega)
                refine ⟨L ++ v, List.Perm.refl _, ?_, by simpa using hst1, by simpa using hd1⟩
                rw [hnil]
                simpa using hSv
              have hg2 := hg1
              clear hd1 hg1
              go_upto_if 213 with fail
              have q1 : M1.length = L.length + v.length := by have := p1.length_eq; rw [List.length_append] at this; exact this
              have HQ1 : Hid (M1.length = L.length + v.length) := q1
              clear q1
              have hd2b : Dat wr g E (X ++ M1 ++ u ++ R ++ Y) := by simpa using hd2
              have st2b : Stab (pl E) (X ++ M1 ++ u ++ R ++ Y) := by simpa using st2
              clear hd2 st2
              have hc3 := ih (X ++ M1) u R Y mid en b wr (by have := HNL.out; have h1 := congrArg List.length HAA.out; have h2 := congrArg List.length HBB.out; have := HQ1.out; simp only [List.length_append] at h1 h2 ⊢; omega) (by have := HQ1.out; have := HA.out; have := HL.out; have := HMD.out; rw [List.length_append]; omega) (by have := HQ1.out; have := HA.out; have := HL.out; have := HMD.out; have := HE3.out; rw [List.length_append]; omega) (by have := HQ1.out; have := HA.out; have := HL.out; have := HMD.out; have := HE3.out; have := HR.out; rw [List.length_append]; omega) (by have := HU.out; omega) (by have := HR.out; omega) (by have := HE3.out; have := HR.out; have := HM.out; have := HB.out; have := HA.out; have := HMID.out; omega) hd2b st2b hSu hSR
              go_wp2_with (go_at_call 23; refine hc3.mono ?_; rintro e w3 ⟨rfl, ⟨M2, p2, s2, st3, hd3⟩, hg3'⟩)
              have hg3 := hg2.trans hg3'
              go_end0
              exact fin_of HAA.out HBB.out hsA hsB F1 F2 p1 p2 s1 s2 st3 hd3 hg3
        · have k5 : ¬ mid < en := by have := HU.out; have := HE3.out; omega
          have k3 : a < i := by have := HL.out; omega
          by_cases k2 : m < en
          · have k6 : i < mid := by have := HV.out; have := HMD.out; omega
            have hnil : u = [] := List.eq_nil_of_length_eq_zero (by have := HU.out; omega)
            have hd1 : Dat wr g E (X ++ L ++ v ++ (u ++ R ++ Y)) := by rw [hnil] at hdi' ⊢; simpa using hdi'
            have hg1 := hg
            clear hnil hdi' hg
            go_upto_if 199 with fail
            have hc2 := ih X L v (u ++ R ++ Y) a i mid wr (by have := HNL.out; have h1 := congrArg List.length HAA.out; have h2 := congrArg List.length HBB.out; skip; simp only [List.length_append] at h1 h2 ⊢; omega) HA.out (by rw [← HA.out, HL.out]) (by rw [← HA.out, HL.out, HMD.out]) (by have := HL.out; omega) (by have := HMD.out; omega) (by have := HMD.out; have := HL.out; have := HM.out; have := HB.out; have := HA.out; have := HMID.out; omega) hd1 hst1 hSL hSv
            go_upto_if 213 with (go_at_call 23; refine hc2.mono ?_; rintro e w2 ⟨rfl, ⟨M1, p1, s1, st2, hd2⟩, hg2'⟩)
            clear hc2
            have hg2 := hg1.trans hg2'
            clear hg2' hd1 hg1
            have q1 : M1.length = L.length + v.length := by have := p1.length_eq; rw [List.length_append] at this; exact this
            have HQ1 : Hid (M1.length = L.length + v.length) := q1
            clear q1
            have hd2b : Dat w2 g E (X ++ M1 ++ u ++ R ++ Y) := by simpa using hd2
            have st2b : Stab (pl E) (X ++ M1 ++ u ++ R ++ Y) := by simpa using st2
            clear hd2 st2
            have ⟨M2, p2, s2, st3, hd3⟩ : ∃ M2 : List Nat, M2.Perm (u ++ R) ∧ Sorted (pl E) M2 ∧ Stab (pl E) (X ++ M1 ++ M2 ++ Y) ∧ Dat w2 g E (X ++ M1 ++ M2 ++ Y) := by
              have hnil : u = [] := List.eq_nil_of_length_eq_zero (by have := HE3.out; omega)
              refine ⟨u ++ R, List.Perm.refl _, ?_, by simpa using st2b, by simpa using hd2b⟩
              rw [hnil]
              simpa using hSR
            have hg3 := hg2
            go_wp2_with fail
            go_end0
            exact fin_of HAA.out HBB.out hsA hsB F1 F2 p1 p2 s1 s2 st3 hd3 hg3
          · have k6 : ¬ i < mid := by have := HV.out; have := HMD.out; omega
            have hnil : u = [] := List.eq_nil_of_length_eq_zero (by have := HU.out; omega)
            have hd1 : Dat wr g E (X ++ L ++ v ++ (u ++ R ++ Y)) := by rw [hnil] at hdi' ⊢; simpa using hdi'
            have hg1 := hg
            clear hnil hdi' hg
            go_upto_if 199 with fail
            have ⟨M1, p1, s1, st2, hd2⟩ : ∃ M1 : List Nat, M1.Perm (L ++ v) ∧ Sorted (pl E) M1 ∧ Stab (pl E) (X ++ M1 ++ (u ++ R ++ Y)) ∧ Dat wr g E (X ++ M1 ++ (u ++ R ++ Y)) := by
              have hnil : v = [] := List.eq_nil_of_length_eq_zero (by have := HMD.out; omega)
              refine ⟨L ++ v, List.Perm.refl _, ?_, by simpa using hst1, by simpa using hd1⟩
              rw [hnil]
              simpa using hSL
            have hg2 := hg1
            clear hd1 hg1
            go_upto_if 213 with fail
            have q1 : M1.length = L.length + v.length := by have := p1.length_eq; rw [List.length_append] at this; exact this
            have HQ1 : Hid (M1.length = L.length + v.length) := q1
            clear q1
            have hd2b : Dat wr g E (X ++ M1 ++ u ++ R ++ Y) := by simpa using hd2
            have st2b : Stab (pl E) (X ++ M1 ++ u ++ R ++ Y) := by simpa using st2
            clear hd2 st2
            have ⟨M2, p2, s2, st3, hd3⟩ : ∃ M2 : List Nat, M2.Perm (u ++ R) ∧ Sorted (pl E) M2 ∧ Stab (pl E) (X ++ M1 ++ M2 ++ Y) ∧ Dat wr g E (X ++ M1 ++ M2 ++ Y) := by
              have hnil : u = [] := List.eq_nil_of_length_eq_zero (by have := HE3.out; omega)
              refine ⟨u ++ R, List.Perm.refl _, ?_, by simpa using st2b, by simpa using hd2b⟩
              rw [hnil]
              simpa using hSR
            have hg3 := hg2
            go_wp2_with fail
            go_end0
            exact fin_of HAA.out HBB.out hsA hsB F1 F2 p1 p2 s1 s2 st3 hd3 hg3

/-- the merge, whole -/
theorem merge_all (g : Nat) (E : Nat → El) (N cap : Nat) (hn : N ≤ 1048576) : ∀ (k : Nat) (X A B Y : List Nat) (a m b : Nat) (w : World), A.length + B.length ≤ k → N = (X ++ A ++ B ++ Y).length → a = X.length → m = X.length + A.length → b = X.length + A.length + B.length → 0 < A.length → 0 < B.length →
    Dat w g E (X ++ A ++ B ++ Y) → Stab (pl E) (X ++ A ++ B ++ Y) → Sorted (pl E) A → Sorted (pl E) B →
    Calls Try.prog 23 #[.slice (some ⟨g, 0, none⟩) N cap, .int .i64 a, .int .i64 m, .int .i64 b, .func (.func 17) #[] #[]] w (MPost g E X (A ++ B) Y w) := by
  intro k
  induction k with
  | zero => intro X A B Y a m b w hk hN ha hm hb hA; omega
  | succ k ih =>
    intro X A B Y a m b w hk hN ha hm hb hA hB hd hs hsA hsB
    by_cases hA1 : A.length = 1
    · obtain ⟨x, rfl⟩ := List.length_eq_one_iff.1 hA1
      have := merge_one g E X B Y x N a m b cap w (by simpa using hN) ha hm hb hB (by simpa using hd) (by simpa using hs) hsB hn
      exact this
    · by_cases hB1 : B.length = 1
      · obtain ⟨x, rfl⟩ := List.length_eq_one_iff.1 hB1
        have := merge_last g E X A Y x N a m b cap w (by simpa using hN) ha hm (by simpa using hb) (by omega) (by simpa using hd) (by simpa using hs) hsA hn
        exact this
      · refine merge_gen g E X A B Y N a m b cap w hN ha hm hb (by omega) (by omega) hd hs hsA hsB hn ?_
        intro X' A' B' Y' a' m' b' w' h1 h2 h3 h4 h5 h6 h7 h8 h9 h10 h11
        exact ih X' A' B' Y' a' m' b' w' (by omega) h1 h2 h3 h4 h5 h6 h8 h9 h10 h11
end Go.Proofs.Qxb6613698a.srt
