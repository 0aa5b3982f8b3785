/-
  The walk of symMergeCmpFunc: the two ways of one element.
-/
import Derived.Test.Qxb6613698aIns
import Derived.Test.Qxb6613698aRot
namespace Go.Proofs.Qxb6613698a.srt
open Go.RowKit Go.Proofs.Qxb6613698a.lst
set_option linter.unusedSimpArgs false

/-- what a merge leaves: the part A of the row in order, those at one place as they were -/
def MPost (g : Nat) (E : Nat → El) (X A Y : List Nat) (w : World) (e : Ending) (w' : World) : Prop :=
  e = .returned (.tuple #[]) ∧ (∃ S, S.Perm A ∧ Sorted (pl E) S ∧ Stab (pl E) (X ++ S ++ Y) ∧ Dat w' g E (X ++ S ++ Y)) ∧ Gw g w w'
theorem get_right {X B Y : List Nat} {x m h s : Nat} (hm : m = X.length + 1) (hh : m ≤ h) (hs : B[h - m]? = some s) : (X ++ x :: B ++ Y)[h]? = some s := by
  have hl := (List.getElem?_eq_some_iff.1 hs).1
  have e : X ++ x :: B ++ Y = (X ++ [x]) ++ (B ++ Y) := by simp
  rw [e, List.getElem?_append_right (by simp; omega), List.getElem?_append_left (by simp; omega)]
  rw [← hs]
  congr 1
  simp
  omega

set_option maxHeartbeats 2000000 in
set_option maxRecDepth 20000 in
theorem merge_one (g : Nat) (E : Nat → El) (X B Y : List Nat) (x N a m b cap : Nat) (w : World) (hN : N = (X ++ x :: B ++ Y).length) (ha : a = X.length) (hm : m = X.length + 1) (hb : b = X.length + 1 + B.length) (hB : 0 < B.length)
    (hd : Dat w g E (X ++ x :: B ++ Y)) (hs : Stab (pl E) (X ++ x :: B ++ Y)) (hso : Sorted (pl E) B) (hn : N ≤ 1048576) :
    Calls Try.prog 23 #[.slice (some ⟨g, 0, none⟩) N cap, .int .i64 a, .int .i64 m, .int .i64 b, .func (.func 17) #[] #[]] w (MPost g E X (x :: B) Y w) := by
  have hNN : X.length + 1 + B.length + Y.length = N := by rw [hN]; simp only [List.length_append, List.length_cons]; omega
  have hbN : b ≤ N := by omega
  have hmb : m < b := by omega
  have ham : a < m := by omega
  have e1 : ((m : Int) - (a : Int) == 1) = true := by simp; omega
  have HA : Hid (a = X.length) := ha
  have HM : Hid (m = X.length + 1) := hm
  have HB : Hid (b = X.length + 1 + B.length) := hb
  have HN : Hid (N = (X ++ x :: B ++ Y).length) := hN
  clear ha hm hb hN hNN hB
  go_enter Try.func23, Try.ntmps23
  go_wp2
  go_loopw [10, 11, 12] (fun y z _ wr => ∃ i j : Nat, m ≤ i ∧ i ≤ j ∧ j ≤ b ∧ y = .int .i64 (i : Int) ∧ z = .int .i64 (j : Int) ∧ (m < i → ∃ s, B[i - 1 - m]? = some s ∧ lt (pl E) s x) ∧ (j < b → ∃ s, B[j - m]? = some s ∧ ¬ lt (pl E) s x) ∧ Dat wr g E (X ++ x :: B ++ Y) ∧ Gw g w wr) (fun y z _ _ => (intOf z).toNat - (intOf y).toNat)
  case atStart => exact ⟨m, b, Nat.le_refl _, by omega, Nat.le_refl _, rfl, rfl, fun h => absurd h (by omega), fun h => absurd h (by omega), hd, Gw.refl _ _⟩
  case round =>
    obtain ⟨i, j, hi, hij, hj, rfl, rfl, hi1, hj1, hdi, hg⟩ := hrel
    clear hd
    by_cases hlt : i < j
    · obtain ⟨h, hh⟩ : ∃ h, h = (i + j) / 2 := ⟨_, rfl⟩
      have eh : ((i : Int) + (j : Int)) / 2 = (h : Int) := by omega
      have hih : i ≤ h := by omega
      have hhj : h < j := by omega
      clear hh
      obtain ⟨s, hsB⟩ : ∃ s, B[h - m]? = some s := ⟨_, List.getElem?_eq_getElem (by have := HB.out; have := HM.out; omega)⟩
      have hps : (X ++ x :: B ++ Y)[h]? = some s := get_right HM.out (by omega) hsB
      have hpx : (X ++ x :: B ++ Y)[a]? = some x := by rw [HA.out, List.append_assoc, List.cons_append]; exact get_mid _ _ _
      obtain ⟨c0, c1, c2, c3, c4, c5⟩ := hdi.at hps
      obtain ⟨d0, d1, d2, d3, d4, d5⟩ := hdi.at hpx
      have hi1' : (h : Int) < (N : Int) := by omega
      have hi2' : (a : Int) < (N : Int) := by omega
      have HSB : Hid (B[h - m]? = some s) := hsB
      clear hps hpx hsB
      go_wp2_with fail
      go_region_held3 (fun w' => w'.cell? ⟨g, h * 6, none⟩ = some (.string (E s).file) ∧ w'.cell? ⟨g, h * 6 + 1, none⟩ = some (.string (E s).entry) ∧ w'.cell? ⟨g, h * 6 + 2, none⟩ = some (.string (E s).rule) ∧ w'.cell? ⟨g, h * 6 + 3, none⟩ = some (.string (E s).msg) ∧ w'.cell? ⟨g, h * 6 + 4, none⟩ = some (.int .i64 (E s).line) ∧ w'.cell? ⟨g, h * 6 + 5, none⟩ = some (.int .i64 (E s).col) ∧ w'.cell? ⟨g, a * 6, none⟩ = some (.string (E x).file) ∧ w'.cell? ⟨g, a * 6 + 1, none⟩ = some (.string (E x).entry) ∧ w'.cell? ⟨g, a * 6 + 2, none⟩ = some (.string (E x).rule) ∧ w'.cell? ⟨g, a * 6 + 3, none⟩ = some (.string (E x).msg) ∧ w'.cell? ⟨g, a * 6 + 4, none⟩ = some (.int .i64 (E x).line) ∧ w'.cell? ⟨g, a * 6 + 5, none⟩ = some (.int .i64 (E x).col)) (first | go_keep | exact keep12 (by assumption) (by assumption))
        (first | (go_at_call 17; refine (less_any _ _ _ _ _ _ _ _ _ _ _ _ _).mono ?_; rintro e w1 ⟨rfl, hb1⟩))
      have hd3 := (hdi.drew).below hb1
      have hg3 := hg.trans (Gw.drew (Gw.refl g _) |>.trans (Gw.below hb1))
      clear c0 c1 c2 c3 c4 c5 d0 d1 d2 d3 d4 d5 hb1 hdi hg
      by_cases hcmp : lt (pl E) s x
      · have hneg := (or2_lt E s x).2 hcmp
        go_wp2_with fail
        go_roundw
        case rel => exact ⟨h + 1, j, by omega, by omega, hj, by go_num, rfl, fun _ => ⟨s, by simpa using HSB.out, hcmp⟩, hj1, hd3, hg3⟩
        case measure => simp [intOf]; omega
      · have hneg : ¬ or2 (cm (E s).line (E x).line) (cm (E s).col (E x).col) < 0 := fun h => hcmp ((or2_lt E s x).1 h)
        go_wp2_with fail
        go_roundw
        case rel => exact ⟨i, h, hi, by omega, by omega, rfl, rfl, hi1, fun _ => ⟨s, HSB.out, hcmp⟩, hd3, hg3⟩
        case measure => simp [intOf]; omega
    · obtain rfl : i = j := by omega
      have F1 := take_lt (k := pl E) (B := B) (x := x) (n := i - m) hso (fun h => by obtain ⟨s, h1, h2⟩ := hi1 (by omega); exact ⟨s, by rw [← h1]; congr 1; omega, h2⟩)
      have F2 := drop_ge (k := pl E) (B := B) (x := x) (n := i - m) hso (fun h => by obtain ⟨s, h1, h2⟩ := hj1 (by have := HB.out; have := HM.out; omega); exact ⟨s, h1, h2⟩)
      obtain ⟨B1, hB1⟩ : ∃ B1, B1 = B.take (i - m) := ⟨_, rfl⟩
      obtain ⟨B2, hB2⟩ : ∃ B2, B2 = B.drop (i - m) := ⟨_, rfl⟩
      have hBB : B = B1 ++ B2 := by rw [hB1, hB2, List.take_append_drop]
      have hl1 : a + B1.length + 1 = i := by rw [hB1, List.length_take]; have := HB.out; have := HM.out; have := HA.out; omega
      rw [← hB1] at F1
      rw [← hB2] at F2
      have HBB : Hid (B = B1 ++ B2) := hBB
      rw [hBB] at hs
      have hdi' : Dat wr g E (X ++ [] ++ x :: B1 ++ (B2 ++ Y)) := by have := hdi; rw [hBB] at this; simpa using this
      have hst' : Stab (pl E) (X ++ [] ++ x :: B1 ++ (B2 ++ Y)) := by simpa using hs
      have HL1 : Hid (a + B1.length + 1 = i) := hl1
      clear hB1 hB2 hBB hs hdi hi1 hj1 hl1
      go_wp2
      go_loopw [13] (fun y wi => ∃ (k : Nat) (T1 T2 : List Nat), a + T1.length = k ∧ k + 1 ≤ i ∧ y = .int .i64 (k : Int) ∧ T1 ++ T2 = B1 ∧ Stab (pl E) (X ++ T1 ++ x :: T2 ++ (B2 ++ Y)) ∧ Dat wi g E (X ++ T1 ++ x :: T2 ++ (B2 ++ Y)) ∧ Gw g w wi) (fun y _ => i - (intOf y).toNat)
      case atStart => exact ⟨a, [], B1, rfl, by omega, rfl, rfl, hst', hdi', hg⟩
      case round =>
        obtain ⟨k, T1, T2, hT, hki, rfl, hTT, hst2, hd2, hg2⟩ := hrel
        clear hst' hdi' hg
        by_cases hkl : k + 1 < i
        · obtain ⟨z, T3, rfl⟩ : ∃ z T3, T2 = z :: T3 := by
            cases T2 with
            | nil => have h1 := congrArg List.length hTT; have h2 := HL1.out; simp at h1; omega
            | cons z T3 => exact ⟨z, T3, rfl⟩
          have hzx : lt (pl E) z x := F1 z (by rw [← hTT]; simp)
          have e0 : X ++ T1 ++ x :: z :: T3 ++ (B2 ++ Y) = (X ++ T1) ++ x :: z :: (T3 ++ (B2 ++ Y)) := by simp
          have hkk : k = (X ++ T1).length := by rw [List.length_append, ← HA.out]; omega
          have hgx : (X ++ T1 ++ x :: z :: T3 ++ (B2 ++ Y))[k]? = some x := by rw [e0, hkk]; exact get_mid _ _ _
          have hgz : (X ++ T1 ++ x :: z :: T3 ++ (B2 ++ Y))[k + 1]? = some z := by
            have e1 : (X ++ T1) ++ x :: z :: (T3 ++ (B2 ++ Y)) = (X ++ T1 ++ [x]) ++ z :: (T3 ++ (B2 ++ Y)) := by simp
            have e2 : k + 1 = (X ++ T1 ++ [x]).length := by rw [List.length_append, ← hkk]; simp
            rw [e0, e1, e2]; exact get_mid _ _ _
          obtain ⟨c0, c1, c2, c3, c4, c5⟩ := hd2.at hgx
          obtain ⟨d0, d1, d2, d3, d4, d5⟩ := hd2.at hgz
          have hf := hd2.free
          have hw1 : IntKind.i64.wrap ((k : Int) + 1) = ((k + 1 : Nat) : Int) := by rw [IntKind.wrap_i64]; omega
          have hi1 : (k : Int) < (N : Int) := by omega
          have hi2 : ((k + 1 : Nat) : Int) < (N : Int) := by omega
          have hki2 : (k : Int) < (i : Int) - 1 := by omega
          have HKK : Hid (k = (X ++ T1).length) := hkk
          have HTT : Hid (T1 ++ z :: T3 = B1) := hTT
          have HE : Hid (X ++ T1 ++ x :: z :: T3 ++ (B2 ++ Y) = (X ++ T1) ++ x :: z :: (T3 ++ (B2 ++ Y))) := e0
          have HT : Hid (a + T1.length = k) := hT
          have HLN : Hid (k + 1 < (X ++ T1 ++ x :: z :: T3 ++ (B2 ++ Y)).length) := by
            show _ < _
            exact (List.getElem?_eq_some_iff.1 hgz).1
          clear hgx hgz hkk hTT e0 hT
          go_wp2_with fail
          go_region
          go_wp2
          go_roundw
          case rel =>
            refine ⟨k + 1, T1 ++ [z], T3, by have := HT.out; simp; omega, by omega, by go_num, by rw [← HTT.out]; simp, ?_, ?_, ?_⟩
            · have := hst2; rw [HE.out] at this
              have := stab_swap this hzx
              simpa using this
            · have hset := (hd2.set k z (by have := HLN.out; omega)).set (k + 1) x (by rw [List.length_set]; exact HLN.out)
              rw [HE.out, swap_up (X ++ T1) (T3 ++ (B2 ++ Y)) x z k HKK.out] at hset
              have e3 : X ++ (T1 ++ [z]) ++ x :: T3 ++ (B2 ++ Y) = (X ++ T1) ++ z :: x :: (T3 ++ (B2 ++ Y)) := by simp
              rw [e3]
              exact hset.drew
            · exact ((((((((((((hg2.setCell _ _).setCell _ _).setCell _ _).setCell _ _).setCell _ _).setCell _ _).setCell _ _).setCell _ _).setCell _ _).setCell _ _).setCell _ _).setCell _ _).drew
          case measure => simp [intOf]; omega
        · have hT2 : T2 = [] := by
            have h1 := congrArg List.length hTT
            have h2 := HL1.out
            rw [List.length_append] at h1
            exact List.eq_nil_of_length_eq_zero (by omega)
          subst hT2
          have hT1 : T1 = B1 := by simpa using hTT
          subst hT1
          have hki2 : ¬ (k : Int) < (i : Int) - 1 := by omega
          clear hTT
          go_wp2
          refine bodyPost_ret (results_none rfl _ _ _) rfl ?_
          have hso2 : Sorted (pl E) (T1 ++ B2) := by rw [← HBB.out]; exact hso
          refine ⟨rfl, ⟨T1 ++ x :: B2, ?_, ?_, ?_, ?_⟩, hg2⟩
          · rw [HBB.out]; exact List.perm_middle
          · unfold Sorted at hso2 ⊢
            rw [List.pairwise_append] at hso2 ⊢
            refine ⟨hso2.1, ?_, ?_⟩
            · rw [List.pairwise_cons]; exact ⟨F2, hso2.2.1⟩
            · intro s hs t ht
              rcases List.mem_cons.1 ht with rfl | ht
              · exact lt_asymm' (F1 s hs)
              · exact hso2.2.2 s hs t ht
          · simpa using hst2
          · simpa using hd2
end Go.Proofs.Qxb6613698a.srt
