/-
  The walks of stableCmpFunc and SortStableFunc.
-/
import Derived.Test.Qxb6613698aSym
import Derived.Test.Qxb6613698aRun
namespace Go.Proofs.Qxb6613698a.srt
open Go.RowKit Go.Proofs.Qxb6613698a.lst
set_option linter.unusedSimpArgs false

/-- what the sort leaves -/
def SPost (g : Nat) (E : Nat → El) (P : List Nat) (w : World) (e : Ending) (w' : World) : Prop :=
  e = .returned (.tuple #[]) ∧ (∃ S, S.Perm P ∧ Sorted (pl E) S ∧ Stab (pl E) S ∧ Dat w' g E S) ∧ Gw g w w'
/-- the row as it stands -/
def St (g : Nat) (E : Nat → El) (P : List Nat) (w : World) (wr : World) (Q : List Nat) : Prop :=
  Q.Perm P ∧ Stab (pl E) Q ∧ Dat wr g E Q ∧ Gw g w wr

set_option maxHeartbeats 4000000 in
set_option maxRecDepth 20000 in
theorem stable_any (g : Nat) (E : Nat → El) (P : List Nat) (N cap : Nat) (w : World) (hN : N = P.length) (hd : Dat w g E P) (hs : Stab (pl E) P) (hn : N ≤ 65536) :
    Calls Try.prog 20 #[.slice (some ⟨g, 0, none⟩) N cap, .int .i64 N, .func (.func 17) #[] #[]] w (SPost g E P w) := by
  have HN : Hid (N = P.length) := hN
  clear hN
  have hst : St g E P w w P := ⟨List.Perm.refl _, hs, hd, Gw.refl _ _⟩
  clear hs hd
  go_enter Try.func20, Try.ntmps20
  go_wp2
  go_loopw [7, 8] (fun y z wr => ∃ (a b : Nat) (Q : List Nat), b = a + 20 ∧ a ≤ N ∧ y = .int .i64 (a : Int) ∧ z = .int .i64 (b : Int) ∧ L1 (pl E) 20 a Q ∧ St g E P w wr Q) (fun y _ _ => N + 20 - (intOf y).toNat)
  case atStart => exact ⟨0, 20, P, rfl, Nat.zero_le _, rfl, rfl, L1_start _ _, hst⟩
  case round =>
    obtain ⟨a, b, Q, hb, haN, rfl, rfl, hL, hp, hss, hd, hg⟩ := hrel
    have hQl : Q.length = N := by rw [HN.out]; exact hp.length_eq
    clear hst
    by_cases hlt : b ≤ N
    · obtain ⟨X, A, Y, rfl, ha, hA, hnext⟩ := L1_step hL (by omega)
      have hc := insertion_any g E X A Y N a b cap wr hQl.symm ha (by omega) hd hss (by omega)
      have HB : Hid (b = a + 20) := hb
      have hbN : b ≤ 65536 := by omega
      clear hb ha hA hd hss hL hQl
      go_wp2_with (go_at_call 22; refine hc.mono ?_; rintro e w1 ⟨rfl, ⟨S, p1, s1, st1, hd1⟩, hg1⟩)
      go_roundw
      case rel =>
        have h := hnext S p1 s1
        rw [← HB.out] at h
        exact ⟨b, b + 20, X ++ S ++ Y, rfl, hlt, rfl, by go_num, h, ((p1.append_left X).append_right Y).trans hp, st1, hd1, hg.trans hg1⟩
      case measure => have := HB.out; simp [intOf]; omega
    · obtain ⟨X, A, rfl, ha, hnext⟩ := L1_end hL (by omega)
      have hc := insertion_any g E X A [] N a N cap wr hQl.symm ha (by rw [← hQl]; simp) hd hss (by omega)
      have HB : Hid (b = a + 20) := hb
      have hbN : b ≤ 65556 := by omega
      clear hb ha hd hss hL hQl
      go_wp2_with (go_at_call 22; refine hc.mono ?_; rintro e w1 ⟨rfl, ⟨S, p1, s1, st1, hd1⟩, hg1⟩)
      have h2 := hnext S p1 s1
      have hst : St g E P w w1 (X ++ S ++ []) := ⟨((p1.append_left X).append_right []).trans hp, st1, hd1, hg.trans hg1⟩
      clear hc hnext hp hg hg1 p1 s1 st1 hd1
      go_loopw [6, 7, 8, 9] (fun x _ _ _ wr => ∃ (k : Nat) (Q : List Nat), 0 < k ∧ k ≤ 131092 ∧ x = .int .i64 (k : Int) ∧ L2 (pl E) k Q ∧ St g E P w wr Q) (fun x _ _ _ _ => N + N - (intOf x).toNat)
      case atStart => exact ⟨20, _, by omega, by omega, rfl, h2, hst⟩
      case round =>
        obtain ⟨k, Q, hk0, hk, rfl, hL, hst2⟩ := hrel
        clear h2 hst
        by_cases hlt : k < N
        · obtain ⟨k2, hk2⟩ : ∃ k2, k2 = 2 * k := ⟨_, rfl⟩
          have ek1 : 2 * (k : Int) = (k2 : Int) := by omega
          have ek2 : (k : Int) * 2 = (k2 : Int) := by omega
          have hk2b : k2 ≤ 131072 := by omega
          have HK2 : Hid (k2 = 2 * k) := hk2
          have hL3 := L3_start hL
          clear hk2 hL
          go_wp2_with fail
          go_loopw [7, 8] (fun y z wi => ∃ (a b : Nat) (Q : List Nat), b = a + k2 ∧ a ≤ N ∧ y = .int .i64 (a : Int) ∧ z = .int .i64 (b : Int) ∧ L3 (pl E) k a Q ∧ St g E P w wi Q) (fun y _ _ => N + 20 - (intOf y).toNat)
          case atStart => exact ⟨0, k2, Q, by omega, Nat.zero_le _, rfl, rfl, hL3, hst2⟩
          case round =>
            clear hL3 hst2
            obtain ⟨a, b, Q, hb, haN, rfl, rfl, hL, hp, hss, hd, hg⟩ := hrel
            have hQl : Q.length = N := by rw [HN.out]; exact hp.length_eq
            obtain ⟨m, hm⟩ : ∃ m, m = a + k := ⟨_, rfl⟩
            have em : (a : Int) + (k : Int) = (m : Int) := by omega
            have hmb : m ≤ 131072 := by omega
            have HM : Hid (m = a + k) := hm
            have HB : Hid (b = a + k2) := hb
            have hbb : b ≤ 196608 := by omega
            clear hm hb
            by_cases hlt2 : b ≤ N
            · obtain ⟨X, A, B, Y, rfl, ha, hA, hB, sA, sB, hnext⟩ := L3_step hL (by rw [hQl, ← HK2.out, ← HB.out]; exact hlt2)
              have hc := merge_all g E N cap (by omega) _ X A B Y a m b wr (Nat.le_refl _) hQl.symm ha (by rw [HM.out, ha, hA]) (by rw [HB.out, HK2.out, ha, hA, hB]; omega) (by omega) (by omega) hd hss sA sB
              clear ha hA hB hd hss hL hQl
              obtain ⟨b9, hb9⟩ : ∃ b9, b9 = b + k2 := ⟨_, rfl⟩
              have eb9 : (b : Int) + (k2 : Int) = (b9 : Int) := by omega
              have hb9b : b9 ≤ 327680 := by omega
              have HB9 : Hid (b9 = b + k2) := hb9
              clear hb9
              go_wp2_with (go_at_call 23; refine hc.mono ?_; rintro e w2 ⟨rfl, ⟨S, p1, s1, st1, hd1⟩, hg1⟩)
              go_roundw
              case rel =>
                have h := hnext S p1 s1
                rw [← HK2.out, ← HB.out] at h
                refine ⟨b, b9, X ++ S ++ Y, HB9.out, hlt2, rfl, rfl, h, ?_, st1, hd1, hg.trans hg1⟩
                have := ((p1.append_left X).append_right Y)
                rw [← List.append_assoc] at this
                exact this.trans hp
              case measure => have := HB.out; have := HK2.out; simp [intOf]; omega
            · by_cases hlt3 : m < N
              · obtain ⟨X, A, B, rfl, ha, hA, hB, sA, sB, hnext⟩ := L3_end1 hL (by rw [hQl, ← HK2.out, ← HB.out]; omega) (by rw [hQl, ← HM.out]; exact hlt3)
                have hc := merge_all g E N cap (by omega) _ X A B [] a m N wr (Nat.le_refl _) hQl.symm ha (by rw [HM.out, ha, hA]) (by rw [← hQl]; simp; omega) (by omega) (by omega) hd hss sA sB
                clear ha hA hB hd hss hL hQl
                go_wp2_with (go_at_call 23; refine hc.mono ?_; rintro e w2 ⟨rfl, ⟨S, p1, s1, st1, hd1⟩, hg1⟩)
                go_roundw
                case rel =>
                  have h := hnext S p1 s1
                  rw [← HK2.out] at h
                  refine ⟨k2, X ++ S ++ [], by have := HK2.out; omega, by omega, rfl, h, ?_, st1, hd1, hg.trans hg1⟩
                  have := ((p1.append_left X).append_right [])
                  rw [← List.append_assoc] at this
                  exact this.trans hp
                case measure => have := HK2.out; simp [intOf]; omega
              · have h2 := L3_end2 hL (by rw [hQl, ← HK2.out, ← HB.out]; omega) (by rw [hQl, ← HM.out]; omega)
                go_wp2_with fail
                go_roundw
                case rel =>
                  rw [← HK2.out] at h2
                  exact ⟨k2, Q, by have := HK2.out; omega, by omega, rfl, h2, hp, hss, hd, hg⟩
                case measure => have := HK2.out; simp [intOf]; omega
        · have hfin : SPost g E P w (.returned (.tuple #[])) wr := ⟨rfl, ⟨Q, hst2.1, L2_fin hL (by have := hst2.1.length_eq; rw [this, ← HN.out]; omega), hst2.2.1, hst2.2.2.1⟩, hst2.2.2.2⟩
          go_wp2
          go_end0
          exact hfin

theorem sort_any (g : Nat) (E : Nat → El) (P : List Nat) (N cap : Nat) (w : World) (hN : N = P.length) (hd : Dat w g E P) (hs : Stab (pl E) P) (hn : N ≤ 65536) :
    Calls Try.prog 16 #[.slice (some ⟨g, 0, none⟩) N cap, .func (.func 17) #[] #[]] w (SPost g E P w) := by
  have hc := stable_any g E P N cap w hN hd hs hn
  clear hN hd hs
  go_enter Try.func16, Try.ntmps16
  go_wp2_with (go_at_call 20; refine hc.mono ?_; rintro e w2 ⟨rfl, h1, hg1⟩)
  go_end0
  exact ⟨rfl, h1, hg1⟩
end Go.Proofs.Qxb6613698a.srt
