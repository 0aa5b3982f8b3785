/-
  The walk of insertionSortCmpFunc.
-/
import Derived.Test.Qxb6613698aRow
import Derived.Deep.QuietTactic
import Derived.BigQuiet
namespace Go.Proofs.Qxb6613698a.srt
open Go.RowKit Go.Proofs.Qxb6613698a.lst

/-- the places of the elements -/
def pl (E : Nat → El) : Pl := ⟨fun t => (E t).line, fun t => (E t).col⟩
theorem or2_lt (E : Nat → El) (x y : Nat) : or2 (cm (E x).line (E y).line) (cm (E x).col (E y).col) < 0 ↔ lt (pl E) x y := or2_neg _ _ _ _

/-- twelve cells stay behind a call that makes memory alone -/
theorem keep12 {g i j : Nat} {E : Nat → El} {x y : Nat} {w1 w2 : World} (hb : Below w1.heap.size w1 w2)
    (h : w1.cell? ⟨g, i * 6, none⟩ = some (.string (E x).file) ∧ w1.cell? ⟨g, i * 6 + 1, none⟩ = some (.string (E x).entry) ∧ w1.cell? ⟨g, i * 6 + 2, none⟩ = some (.string (E x).rule) ∧ w1.cell? ⟨g, i * 6 + 3, none⟩ = some (.string (E x).msg) ∧ w1.cell? ⟨g, i * 6 + 4, none⟩ = some (.int .i64 (E x).line) ∧ w1.cell? ⟨g, i * 6 + 5, none⟩ = some (.int .i64 (E x).col) ∧ w1.cell? ⟨g, j * 6, none⟩ = some (.string (E y).file) ∧ w1.cell? ⟨g, j * 6 + 1, none⟩ = some (.string (E y).entry) ∧ w1.cell? ⟨g, j * 6 + 2, none⟩ = some (.string (E y).rule) ∧ w1.cell? ⟨g, j * 6 + 3, none⟩ = some (.string (E y).msg) ∧ w1.cell? ⟨g, j * 6 + 4, none⟩ = some (.int .i64 (E y).line) ∧ w1.cell? ⟨g, j * 6 + 5, none⟩ = some (.int .i64 (E y).col)) :
    w2.cell? ⟨g, i * 6, none⟩ = some (.string (E x).file) ∧ w2.cell? ⟨g, i * 6 + 1, none⟩ = some (.string (E x).entry) ∧ w2.cell? ⟨g, i * 6 + 2, none⟩ = some (.string (E x).rule) ∧ w2.cell? ⟨g, i * 6 + 3, none⟩ = some (.string (E x).msg) ∧ w2.cell? ⟨g, i * 6 + 4, none⟩ = some (.int .i64 (E x).line) ∧ w2.cell? ⟨g, i * 6 + 5, none⟩ = some (.int .i64 (E x).col) ∧ w2.cell? ⟨g, j * 6, none⟩ = some (.string (E y).file) ∧ w2.cell? ⟨g, j * 6 + 1, none⟩ = some (.string (E y).entry) ∧ w2.cell? ⟨g, j * 6 + 2, none⟩ = some (.string (E y).rule) ∧ w2.cell? ⟨g, j * 6 + 3, none⟩ = some (.string (E y).msg) ∧ w2.cell? ⟨g, j * 6 + 4, none⟩ = some (.int .i64 (E y).line) ∧ w2.cell? ⟨g, j * 6 + 5, none⟩ = some (.int .i64 (E y).col) := by
  obtain ⟨a0, a1, a2, a3, a4, a5, b0, b1, b2, b3, b4, b5⟩ := h
  have hg : g < w1.heap.size := World.block_lt_of_cell? _ _ a0
  have e : ∀ o, w2.cell? ⟨g, o, none⟩ = w1.cell? ⟨g, o, none⟩ := fun o => hb.cell (p := ⟨g, o, none⟩) hg
  simp only [e]
  exact ⟨a0, a1, a2, a3, a4, a5, b0, b1, b2, b3, b4, b5⟩

theorem ins_done {g : Nat} {E : Nat → El} {X A Y S S1 S2 rest : List Nat} {x i a b k : Nat} {w wr : World} {v : Value} (hso : Sorted (pl E) S) (hS : S1 ++ S2 = S) (h2 : ∀ s ∈ S2, lt (pl E) x s) (h1 : ∀ s ∈ S1, ¬ lt (pl E) x s)
    (hp : (A.take (k + 1)).Perm (x :: S)) (hr : rest = A.drop (k + 1)) (hst : Stab (pl E) (X ++ S1 ++ x :: S2 ++ (rest ++ Y))) (hd : Dat wr g E (X ++ S1 ++ x :: S2 ++ (rest ++ Y))) (hg : Gw g w wr) (hik : i = a + k) (hk : 1 ≤ k) (hib : i + 1 ≤ max (a + 1) b) (hv : v = .int .i64 ((i + 1 : Nat) : Int)) :
    ∃ (i k : Nat) (S : List Nat), i = a + k ∧ 1 ≤ k ∧ i ≤ max (a + 1) b ∧ v = .int .i64 (i : Int) ∧ S.Perm (A.take k) ∧ Sorted (pl E) S ∧ Stab (pl E) (X ++ S ++ A.drop k ++ Y) ∧ Dat wr g E (X ++ S ++ A.drop k ++ Y) ∧ Gw g w wr := by
  subst hS hr
  refine ⟨i + 1, k + 1, S1 ++ x :: S2, by omega, by omega, hib, hv, (List.perm_middle.trans hp.symm), sorted_insert hso h2 h1, ?_, ?_, hg⟩
  · simpa only [List.append_assoc] using hst
  · simpa only [List.append_assoc] using hd

set_option maxHeartbeats 2000000 in
theorem insertion_any (g : Nat) (E : Nat → El) (X A Y : List Nat) (N a b cap : Nat) (w : World) (hN : N = (X ++ A ++ Y).length) (ha : a = X.length) (hb : b = X.length + A.length)
    (hd : Dat w g E (X ++ A ++ Y)) (hs : Stab (pl E) (X ++ A ++ Y)) (hn : N ≤ 1048576) :
    Calls Try.prog 22 #[.slice (some ⟨g, 0, none⟩) N cap, .int .i64 a, .int .i64 b, .func (.func 17) #[] #[]] w fun e w' =>
      e = .returned (.tuple #[]) ∧ (∃ S, S.Perm A ∧ Sorted (pl E) S ∧ Stab (pl E) (X ++ S ++ Y) ∧ Dat w' g E (X ++ S ++ Y)) ∧ Gw g w w' := by
  have hNN : X.length + A.length + Y.length = N := by rw [hN]; simp only [List.length_append]
  obtain ⟨L, hL⟩ : ∃ L, L = A.length := ⟨_, rfl⟩
  have HBL : Hid (b = a + L) := (by omega : b = a + L)
  have hab : a ≤ b := by omega
  have hbN : b ≤ N := by omega
  have HA : Hid (a = X.length) := ha
  have HL : Hid (L = A.length) := hL
  have HN : Hid (X.length + A.length + Y.length = N) := hNN
  clear ha hb hL hN hNN
  go_enter Try.func22, Try.ntmps22
  go_wp2
  go_loopw [8] (fun x wr => ∃ (i k : Nat) (S : List Nat), i = a + k ∧ 1 ≤ k ∧ i ≤ max (a + 1) b ∧ x = .int .i64 (i : Int) ∧ S.Perm (A.take k) ∧ Sorted (pl E) S ∧ Stab (pl E) (X ++ S ++ A.drop k ++ Y) ∧ Dat wr g E (X ++ S ++ A.drop k ++ Y) ∧ Gw g w wr) (fun x _ => b - (intOf x).toNat)
  case atStart =>
    refine ⟨a + 1, 1, A.take 1, rfl, Nat.le_refl _, by omega, by go_num, List.Perm.refl _, ?_, ?_, ?_, Gw.refl _ _⟩
    · unfold Sorted
      cases A with
      | nil => simp
      | cons x A => simp
    · rw [List.append_assoc X, List.take_append_drop]; exact hs
    · rw [List.append_assoc X, List.take_append_drop]; exact hd
  case round =>
    obtain ⟨i, k, S, hik, hk1, hkm, rfl, hp, hso, hst, hdk, hg⟩ := hrel
    have HIK : Hid (i = a + k) := hik
    have HBL2 := HBL.out
    have hkL : i < b → k < L := by omega
    have hkL2 : ¬ i < b → L ≤ k := by omega
    clear hd hs hik HBL2
    by_cases hlt : i < b
    · obtain ⟨x, rest, hx⟩ : ∃ x rest, A.drop k = x :: rest := ⟨_, _, List.drop_eq_getElem_cons (by have := HL.out; have := hkL hlt; omega)⟩
      have hrest : rest = A.drop (k + 1) := by
        have h := congrArg List.tail hx
        rw [List.tail_drop] at h
        exact h.symm
      have hpx : (A.take (k + 1)).Perm (x :: S) := by
        have e : A.take (k + 1) = A.take k ++ [x] := by
          rw [List.take_add_one]
          have : A[k]? = some x := by
            have h := congrArg List.head? hx
            simpa [List.head?_drop] using h
          rw [this]; rfl
        rw [e]
        exact (List.perm_append_comm.trans (List.Perm.cons x hp.symm))
      have hSl : S.length = k := by rw [hp.length_eq, List.length_take]; have := HL.out; have := hkL hlt; omega
      rw [hx] at hst hdk
      have hst' : Stab (pl E) (X ++ S ++ x :: [] ++ (rest ++ Y)) := by simpa using hst
      have hdk' : Dat wr g E (X ++ S ++ x :: [] ++ (rest ++ Y)) := by simpa using hdk
      have HR : Hid (rest = A.drop (k + 1)) := hrest
      have HS : Hid (S.length = k) := hSl
      have HP : Hid ((A.take (k + 1)).Perm (x :: S)) := hpx
      have HK : Hid (k < L) := hkL hlt
      clear hx hrest hpx hSl hst hdk hp hkL hkL2
      go_wp2
      go_loopw [9] (fun y wi => ∃ (j : Nat) (S1 S2 : List Nat), a + S1.length = j ∧ j ≤ i ∧ y = .int .i64 (j : Int) ∧ S1 ++ S2 = S ∧ (∀ s ∈ S2, lt (pl E) x s) ∧ Stab (pl E) (X ++ S1 ++ x :: S2 ++ (rest ++ Y)) ∧ Dat wi g E (X ++ S1 ++ x :: S2 ++ (rest ++ Y)) ∧ Gw g w wi) (fun y _ => (intOf y).toNat)
      case atStart => exact ⟨i, S, [], by rw [HS.out, HIK.out], Nat.le_refl _, by go_num, by simp, by simp, hst', hdk', hg⟩
      case round =>
        obtain ⟨j, S1, S2, hl, hlk, rfl, hSS, hx2, hst2, hd2, hg2⟩ := hrel
        clear hst' hdk' hg
        by_cases hl0 : a < j
        · obtain ⟨T1, z, rfl⟩ : ∃ T1 z, S1 = T1 ++ [z] := by
            rcases List.eq_nil_or_concat S1 with h | ⟨T, z, h⟩
            · subst h; simp at hl; omega
            · exact ⟨T, z, by simpa using h⟩
          have hgx : (X ++ (T1 ++ [z]) ++ x :: S2 ++ (rest ++ Y))[j]? = some x := by
            have e : j = (X ++ (T1 ++ [z])).length := by rw [List.length_append, ← HA.out, hl]
            rw [e, List.append_assoc (X ++ (T1 ++ [z])), List.cons_append]; exact get_mid _ _ _
          have hgz : (X ++ (T1 ++ [z]) ++ x :: S2 ++ (rest ++ Y))[j - 1]? = some z := by
            have e : j - 1 = (X ++ T1).length := by rw [List.length_append, ← HA.out]; simp at hl; omega
            have e2 : X ++ (T1 ++ [z]) ++ x :: S2 ++ (rest ++ Y) = (X ++ T1) ++ z :: (x :: S2 ++ (rest ++ Y)) := by simp
            rw [e, e2]; exact get_mid _ _ _
          obtain ⟨c0, c1, c2, c3, c4, c5⟩ := hd2.at hgx
          obtain ⟨d0, d1, d2, d3, d4, d5⟩ := hd2.at hgz
          have hf := hd2.free
          have hw1 : IntKind.i64.wrap ((j : Int) - 1) = ((j - 1 : Nat) : Int) := by rw [IntKind.wrap_i64]; omega
          have hi1 : (j : Int) < (N : Int) := by omega
          have hi2 : ((j - 1 : Nat) : Int) < (N : Int) := by omega
          have hja : (a : Int) < (j : Int) := by omega
          have Hl : Hid (a + (T1 ++ [z]).length = j) := hl
          have HSS : Hid (T1 ++ [z] ++ S2 = S) := hSS
          have HGX : Hid ((X ++ (T1 ++ [z]) ++ x :: S2 ++ (rest ++ Y))[j]? = some x) := hgx
          have HGZ : Hid ((X ++ (T1 ++ [z]) ++ x :: S2 ++ (rest ++ Y))[j - 1]? = some z) := hgz
          have HTN : Hid (N = (X ++ (T1 ++ [z]) ++ x :: S2 ++ (rest ++ Y)).length) := by
            show _ = _
            have h1 := congrArg List.length hSS
            have h2 := HR.out
            have h3 := HS.out
            rw [h2, ← HN.out]
            simp only [List.length_append, List.length_cons, List.length_nil, List.length_drop] at h1 ⊢
            have := HL.out
            have := HK.out
            omega
          clear hgx hgz hl hSS
          go_wp2_with fail
          go_region_held3 (fun w' => w'.cell? ⟨g, j * 6, none⟩ = some (.string (E x).file) ∧ w'.cell? ⟨g, j * 6 + 1, none⟩ = some (.string (E x).entry) ∧ w'.cell? ⟨g, j * 6 + 2, none⟩ = some (.string (E x).rule) ∧ w'.cell? ⟨g, j * 6 + 3, none⟩ = some (.string (E x).msg) ∧ w'.cell? ⟨g, j * 6 + 4, none⟩ = some (.int .i64 (E x).line) ∧ w'.cell? ⟨g, j * 6 + 5, none⟩ = some (.int .i64 (E x).col) ∧ w'.cell? ⟨g, (j - 1) * 6, none⟩ = some (.string (E z).file) ∧ w'.cell? ⟨g, (j - 1) * 6 + 1, none⟩ = some (.string (E z).entry) ∧ w'.cell? ⟨g, (j - 1) * 6 + 2, none⟩ = some (.string (E z).rule) ∧ w'.cell? ⟨g, (j - 1) * 6 + 3, none⟩ = some (.string (E z).msg) ∧ w'.cell? ⟨g, (j - 1) * 6 + 4, none⟩ = some (.int .i64 (E z).line) ∧ w'.cell? ⟨g, (j - 1) * 6 + 5, none⟩ = some (.int .i64 (E z).col)) (first | go_keep | exact keep12 (by assumption) (by assumption))
            (first | (go_at_call 17; refine (less_any _ _ _ _ _ _ _ _ _ _ _ _ _).mono ?_; rintro e w1 ⟨rfl, hb1⟩))
          have hd3 := (hd2.drew).below hb1
          have hg3 := hg2.trans (Gw.drew (Gw.refl g _) |>.trans (Gw.below hb1))
          clear c0 c1 c2 c3 c4 c5 d0 d1 d2 d3 d4 d5 hf hb1 hd2 hg2
          by_cases hcmp : lt (pl E) x z
          · have hneg := (or2_lt E x z).2 hcmp
            obtain ⟨c0, c1, c2, c3, c4, c5⟩ := hd3.at HGX.out
            obtain ⟨d0, d1, d2, d3, d4, d5⟩ := hd3.at HGZ.out
            have hf := hd3.free
            go_wp2_with fail
            go_region
            go_wp2
            go_roundw
            case rel =>
              refine ⟨j - 1, T1, z :: S2, by have := Hl.out; simp at this; omega, by omega, by go_num, by rw [← HSS.out]; simp, ?_, ?_, ?_, ?_⟩
              · intro s hs
                rcases List.mem_cons.1 hs with rfl | hs
                · exact hcmp
                · exact hx2 s hs
              · have := stab_swap (X := X ++ T1) (x := z) (y := x) (Y := S2 ++ (rest ++ Y)) (by simpa using hst2) hcmp
                simpa using this
              · have hl2 : (X ++ (T1 ++ [z]) ++ x :: S2 ++ (rest ++ Y)).length = N := by
                  rw [← HTN.out]
                have hj1 : j < N := by omega
                have hset := (hd3.set j z (by omega)).set (j - 1) x (by rw [List.length_set]; omega)
                have e := swap_down (X ++ T1) (S2 ++ (rest ++ Y)) z x j (by have := Hl.out; rw [List.length_append, ← HA.out]; simp at this; omega)
                have e2 : X ++ (T1 ++ [z]) ++ x :: S2 ++ (rest ++ Y) = (X ++ T1) ++ z :: x :: (S2 ++ (rest ++ Y)) := by simp
                rw [e2, e] at hset
                have e3 : X ++ T1 ++ x :: (z :: S2) ++ (rest ++ Y) = (X ++ T1) ++ x :: z :: (S2 ++ (rest ++ Y)) := by simp
                rw [e3]
                exact hset.drew
              · exact ((((((((((((hg3.setCell _ _).setCell _ _).setCell _ _).setCell _ _).setCell _ _).setCell _ _).setCell _ _).setCell _ _).setCell _ _).setCell _ _).setCell _ _).setCell _ _).drew
            case measure => simp [intOf]; omega
          · have hneg : ¬ or2 (cm (E x).line (E z).line) (cm (E x).col (E z).col) < 0 := fun h => hcmp ((or2_lt E x z).1 h)
            go_wp2_with fail
            go_roundw
            case rel => exact ins_done hso HSS.out hx2 (le_of_last (by have := hso; rw [← HSS.out] at this; exact (List.pairwise_append.1 this).1) hcmp) HP.out HR.out hst2 hd3 hg3 HIK.out hk1 (by omega) (by go_num)
            case measure => simp [intOf]; omega
        · have hS1 : S1 = [] := List.eq_nil_of_length_eq_zero (by omega)
          have hja : decide ((a : Int) < (j : Int)) = false := decide_eq_false (by omega)
          have HSS : Hid (S1 ++ S2 = S) := hSS
          have H1 : Hid (∀ s ∈ S1, ¬ lt (pl E) x s) := by rw [hS1]; intro s hs; simp at hs
          clear hSS hS1 hl
          go_wp2_with fail
          go_quiet (fail)
          go_wp2_with fail
          go_roundw
          case rel => exact ins_done hso HSS.out hx2 H1.out HP.out HR.out hst2 (hd2.drewN _) (hg2.drewN _) HIK.out hk1 (by omega) (by go_num)
          case measure => simp [intOf]; omega
    · go_wp2
      go_end0
      have hdn : A.drop k = [] := List.drop_eq_nil_of_le (by have := HL.out; have := hkL2 hlt; omega)
      have htk : A.take k = A := List.take_of_length_le (by have := HL.out; have := hkL2 hlt; omega)
      rw [hdn, List.append_nil] at hst hdk
      rw [htk] at hp
      exact ⟨rfl, ⟨S, hp, hso, hst, hdk⟩, hg⟩
end Go.Proofs.Qxb6613698a.srt
