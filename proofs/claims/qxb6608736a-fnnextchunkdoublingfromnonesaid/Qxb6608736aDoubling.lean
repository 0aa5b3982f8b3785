/-
  The walk of FnNextChunkDoublingFromNone.
-/
import Derived.Test.Qxb6608736aChunk
namespace Go.Proofs.Qxb6608736a.chunk
open Go.RowKit

/-- the chunk behind n rounds, and the total of the first n chunks -/
def cc (n : Nat) : Int := if n = 0 then 0 else if n = 1 then 8 else if n = 2 then 16 else if n = 3 then 32 else if n = 4 then 64 else 128
def tt (n : Nat) : Int := if n = 0 then 0 else if n = 1 then 8 else if n = 2 then 24 else if n = 3 then 56 else 120 + 128 * ((n : Int) - 4)
theorem cc_bd (n : Nat) : 0 ≤ cc n ∧ cc n ≤ 128 := by unfold cc; repeat' split
                                                      all_goals omega
theorem tt_bd (n : Nat) (h : n ≤ 65537) : 0 ≤ tt n ∧ tt n ≤ 8388800 := by unfold tt; repeat' split
                                                                          all_goals omega
theorem cc_succ (n : Nat) : cc (n + 1) = nx (cc n) := by unfold cc nx; repeat' split
                                                         all_goals omega
theorem tt_succ (n : Nat) : tt (n + 1) = tt n + cc (n + 1) := by unfold tt cc; repeat' split
                                                                 all_goals omega

theorem lo_c (k : Nat) (h : k < 4) : (cc (k + 1) == wrap64 (8 * 2 ^ k)) = true := by
  rcases k with _ | _ | _ | _ | k <;> first | omega | decide +kernel
theorem lo_t (k : Nat) (h : k < 4) : (tt (k + 1) == wrap64 (8 * wrap64 (wrap64 (2 ^ (k + 1)) - 1))) = true := by
  rcases k with _ | _ | _ | _ | k <;> first | omega | decide +kernel
theorem hi_c (k : Nat) (h : 4 ≤ k) : (cc (k + 1) == 128) = true := by
  unfold cc; simp; omega
theorem hi_t (k : Nat) (h : 4 ≤ k) : (tt (k + 1) == 120 + 128 * ((k : Int) - 3)) = true := by
  unfold tt; simp; omega

set_option maxHeartbeats 400000 in
theorem doubling_walk (a0 : Int) (w : World) :
    Calls Try.prog 4 #[.int .i64 a0] w fun e w' => e = .returned (.bool true) ∧ Grown w w' := by
  by_cases c1 : a0 < 0
  · go_enter Try.func4, Try.ntmps4
    go_wp2
    go_ret
    exact ⟨rfl, Grown.refl _⟩
  · by_cases c2 : 65536 < a0
    · go_enter Try.func4, Try.ntmps4
      go_wp2
      go_ret
      exact ⟨rfl, Grown.refl _⟩
    · obtain ⟨k, rfl⟩ : ∃ k : Nat, a0 = (k : Int) := ⟨a0.toNat, by omega⟩
      go_enter Try.func4, Try.ntmps4
      go_wp2
      go_loop [3, 4, 5] (fun c t j => ∃ n : Nat, n ≤ k + 1 ∧ j = .int .i64 n ∧ c = .int .i64 (cc n) ∧ t = .int .i64 (tt n)) (fun _ _ j => k + 1 - (intOf j).toNat)
      case atStart => exact ⟨0, Nat.zero_le _, rfl, rfl, rfl⟩
      case round =>
        obtain ⟨n, hn, rfl, rfl, rfl⟩ := hrel
        have hcb := cc_bd n
        have htb := tt_bd n (by omega)
        have HC : Hid (cc (n + 1) = nx (cc n)) := cc_succ n
        have HT : Hid (tt (n + 1) = tt n + nx (cc n)) := by rw [← cc_succ]; exact tt_succ n
        have hnb := nx_bd (cc n)
        by_cases hlt : n < k + 1
        · go_wp2_with (go_at_call 9; refine (znext_any _ _ (by omega) (by omega)).mono ?_; rintro e w' ⟨rfl, rfl⟩)
          go_round
          case rel => exact ⟨n + 1, by omega, by go_num, by rw [HC.out], by rw [HT.out]⟩
          case measure => simp [intOf]; omega
        · obtain rfl : n = k + 1 := by omega
          clear HC HT hlt hn
          by_cases h4 : k < 4
          · have e1 := lo_c k h4
            have e2 := lo_t k h4
            go_wp2
            go_ret
            exact ⟨rfl, Grown.refl _⟩
          · have e1 := hi_c k (by omega)
            have e2 := hi_t k (by omega)
            go_wp2
            go_ret
            exact ⟨rfl, Grown.refl _⟩
end Go.Proofs.Qxb6608736a.chunk
