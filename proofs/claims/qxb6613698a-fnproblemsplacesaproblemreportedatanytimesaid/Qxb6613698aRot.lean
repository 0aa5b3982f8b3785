/-
  The walk of rotateCmpFunc.
-/
import Derived.Test.Qxb6613698aRow
namespace Go.Proofs.Qxb6613698a.srt
open Go.RowKit Go.Proofs.Qxb6613698a.lst

/-- the rotation's state: what is still to be exchanged -/
def Rt (g : Nat) (E : Nat → El) (T : List Nat) (m N : Nat) (i j : Nat) (wr : World) : Prop :=
  ∃ X U V Y : List Nat, U.length = i ∧ V.length = j ∧ X.length + i = m ∧ 0 < i ∧ 0 < j ∧ (X ++ U ++ V ++ Y).length = N ∧ Dat wr g E (X ++ U ++ V ++ Y) ∧ X ++ V ++ U ++ Y = T

set_option maxHeartbeats 1000000 in
theorem rotate_any (g : Nat) (E : Nat → El) (X A B Y : List Nat) (N a m b cap : Nat) (f : Value) (w : World) (hN : N = (X ++ A ++ B ++ Y).length) (ha : a = X.length) (hm : m = X.length + A.length) (hb : b = X.length + A.length + B.length)
    (hA : 0 < A.length) (hB : 0 < B.length) (hd : Dat w g E (X ++ A ++ B ++ Y)) (hn : N ≤ 1048576) :
    Calls Try.prog 24 #[.slice (some ⟨g, 0, none⟩) N cap, .int .i64 a, .int .i64 m, .int .i64 b, f] w fun e w' =>
      e = .returned (.tuple #[]) ∧ Dat w' g E (X ++ B ++ A ++ Y) ∧ Gw g w w' := by
  obtain ⟨i0, hi0⟩ : ∃ i0, i0 = A.length := ⟨_, rfl⟩
  obtain ⟨j0, hj0⟩ : ∃ j0, j0 = B.length := ⟨_, rfl⟩
  have hst : Rt g E (X ++ B ++ A ++ Y) m N i0 j0 w := ⟨X, A, B, Y, hi0.symm, hj0.symm, by omega, by omega, by omega, hN.symm, hd, rfl⟩
  have hml : X.length + A.length + B.length ≤ N := by rw [hN]; simp only [List.length_append]; omega
  have e1 : (m : Int) - (a : Int) = (i0 : Int) := by omega
  have e2 : (b : Int) - (m : Int) = (j0 : Int) := by omega
  have hmN : m ≤ 1048576 := by omega
  have hbN : b ≤ 1048576 := by omega
  have hij : i0 + j0 ≤ 1048576 := by omega
  obtain ⟨T, hT⟩ : ∃ T, T = X ++ B ++ A ++ Y := ⟨_, rfl⟩
  rw [← hT] at hst ⊢
  clear hT hi0 hj0 hN ha hm hb hA hB hd hml
  go_enter Try.func24, Try.ntmps24
  go_wp2
  go_loopw [10, 11] (fun x y wr => ∃ i j : Nat, i + j ≤ 1048576 ∧ x = .int .i64 i ∧ y = .int .i64 j ∧ Rt g E T m N i j wr ∧ Gw g w wr) (fun x y _ => (intOf x).toNat + (intOf y).toNat)
  case atStart => exact ⟨i0, j0, hij, rfl, rfl, hst, Gw.refl _ _⟩
  case round =>
    clear e1 e2 hst
    obtain ⟨i, j, hij, rfl, rfl, ⟨X, U, V, Y, hU, hV, hX, h0, h1, hNN, hd, hT⟩, hg⟩ := hrel
    obtain ⟨xl, hxl⟩ : ∃ xl, xl = X.length := ⟨_, rfl⟩
    have hml : xl + i + j ≤ N := by rw [← hNN]; simp only [List.length_append]; omega
    have e1 : (m : Int) - (i : Int) = (xl : Int) := by omega
    have hxm : xl + i = m := by omega
    have HU : Hid (U.length = i) := hU
    have HV : Hid (V.length = j) := hV
    have HX : Hid (xl = X.length) := hxl
    have HN : Hid ((X ++ U ++ V ++ Y).length = N) := hNN
    have HM : Hid (xl + i = m) := hxm
    have HT : Hid (X ++ V ++ U ++ Y = T) := hT
    have hxm1 : xl + i ≤ m := by omega
    have hxm2 : m ≤ xl + i := by omega
    clear hU hV hX hxl hNN hT hxm
    by_cases hgt : j < i
    · have e3 : (i : Int) - (j : Int) = ((i - j : Nat) : Int) := by omega
      have hne : ((i : Int) != (j : Int)) = true := by simp; omega
      have hs1 : X ++ U ++ V ++ Y = X ++ U.take j ++ U.drop j ++ V ++ Y := by rw [List.append_assoc X (U.take j), List.take_append_drop]
      rw [hs1] at hd
      have hl1 : (U.take j).length = j := by rw [List.length_take, HU.out]; omega
      have hl2 : (U.drop j).length = i - j := by rw [List.length_drop, HU.out]
      have hc := swap_range g E X (U.take j) (U.drop j) V Y N xl m j cap f wr (by rw [hl1, HV.out]) (by rw [← hs1]; exact HN.out.symm) HX.out (by rw [hl1, hl2, ← HX.out, ← HM.out]; omega) hl1.symm hd hn
      clear hs1 hd
      go_wp2_with (go_at_call 25; refine hc.mono ?_; rintro e w1 ⟨rfl, hd1, hg1⟩)
      go_roundw
      case rel =>
        refine ⟨i - j, j, by omega, rfl, rfl, ⟨X ++ V, U.drop j, U.take j, Y, hl2, hl1, by rw [List.length_append, HV.out, ← HX.out, ← HM.out]; omega, by omega, h1, ?_, hd1, ?_⟩, hg.trans hg1⟩
        · rw [← HN.out]; simp only [List.length_append, hl1, hl2, HU.out, HV.out]; omega
        · rw [← HT.out, List.append_assoc (X ++ V) (U.take j), List.take_append_drop]
      case measure => simp [intOf]; omega
    · by_cases hlt : i < j
      · have e3 : (j : Int) - (i : Int) = ((j - i : Nat) : Int) := by omega
        have e4 : (m : Int) + (j : Int) - (i : Int) = ((xl + j : Nat) : Int) := by omega
        have hne : ((i : Int) != (j : Int)) = true := by simp; omega
        have hs1 : X ++ U ++ V ++ Y = X ++ U ++ V.take (j - i) ++ V.drop (j - i) ++ Y := by rw [List.append_assoc (X ++ U) (V.take (j - i)), List.take_append_drop]
        rw [hs1] at hd
        have hl1 : (V.take (j - i)).length = j - i := by rw [List.length_take, HV.out]; omega
        have hl2 : (V.drop (j - i)).length = i := by rw [List.length_drop, HV.out]; omega
        have hc := swap_range g E X U (V.take (j - i)) (V.drop (j - i)) Y N xl (xl + j) i cap f wr (by rw [hl2, HU.out]) (by rw [← hs1]; exact HN.out.symm) HX.out (by rw [hl1, HU.out, ← HX.out]; omega) HU.out.symm hd hn
        clear hs1 hd
        go_wp2_with (go_at_call 25; refine hc.mono ?_; rintro e w1 ⟨rfl, hd1, hg1⟩)
        go_roundw
        case rel =>
          refine ⟨i, j - i, by omega, rfl, rfl, ⟨X, V.drop (j - i), V.take (j - i), U ++ Y, hl2, hl1, by rw [← HX.out, ← HM.out], h0, by omega, ?_, ?_, ?_⟩, hg.trans hg1⟩
          · rw [← HN.out]; simp only [List.length_append, hl1, hl2, HU.out, HV.out]; omega
          · simpa only [List.append_assoc] using hd1
          · rw [← HT.out]
            have := List.take_append_drop (j - i) V
            simp only [List.append_assoc]
            rw [← List.append_assoc (V.take (j - i)), this]
        case measure => simp [intOf]; omega
      · obtain rfl : i = j := by omega
        have hne : ((i : Int) != (i : Int)) = false := by simp
        have hs1 : X ++ U ++ V ++ Y = X ++ U ++ [] ++ V ++ Y := by simp
        rw [hs1] at hd
        have hc := swap_range g E X U [] V Y N xl m i cap f wr (by rw [HU.out, HV.out]) (by rw [← hs1]; exact HN.out.symm) HX.out (by rw [HU.out, ← HX.out, ← HM.out]; rfl) HU.out.symm hd hn
        clear hs1 hd
        go_wp2_with (go_at_call 25; refine hc.mono ?_; rintro e w1 ⟨rfl, hd1, hg1⟩)
        go_end0
        refine ⟨rfl, ?_, hg.trans hg1⟩
        rw [← HT.out]
        simpa using hd1
end Go.Proofs.Qxb6613698a.srt
