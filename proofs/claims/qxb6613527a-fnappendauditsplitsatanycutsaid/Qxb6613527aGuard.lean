/-
  The walks of the law's two guards.
-/
import Derived.Test.Qxb6613527aClone
namespace Go.Proofs.Qxb6613527a.app
open Go.RowKit Go.Proofs.Qxb6613527a.plain

theorem add_any (s n : Int) (w : World) (s0 : 0 ≤ s) (s9 : s ≤ 2097152) (n0 : 0 ≤ n) :
    Calls Try.prog 12 #[.int .i64 s, .int .i64 n] w fun e w' => ∃ t : Int, e = .returned (.int .i64 t) ∧ 0 ≤ t ∧ t ≤ 2097152 ∧ (t ≤ 1048576 → s + n ≤ t) ∧ w = w' := by
  by_cases c1 : 1048576 < s
  · go_enter Try.func12, Try.ntmps12
    go_wp2
    go_ret
    exact ⟨_, rfl, by omega, by omega, by omega, rfl⟩
  · by_cases c2 : 1048576 < n
    · go_enter Try.func12, Try.ntmps12
      go_wp2
      go_ret
      exact ⟨_, rfl, by omega, by omega, by omega, rfl⟩
    · go_enter Try.func12, Try.ntmps12
      go_wp2
      go_ret
      exact ⟨_, rfl, by omega, by omega, by omega, rfl⟩

/-- what the first k policies weigh -/
def sm (rs : List (ByteArray × ByteArray)) (k : Nat) : Nat := ((rs.take k).map fun r => 32 + r.1.size + r.2.size).sum
theorem sm_zero (rs : List (ByteArray × ByteArray)) : sm rs 0 = 0 := by simp [sm]
theorem sm_succ (rs : List (ByteArray × ByteArray)) (k : Nat) (h : k < rs.length) : sm rs (k + 1) = sm rs k + (32 + rs[k].1.size + rs[k].2.size) := by
  unfold sm
  rw [List.take_succ_eq_append_getElem h, List.map_append, List.sum_append]
  simp

/-- what the guard grants -/
structure Fit (zs : Nat) (sep : ByteArray) (rs : List (ByteArray × ByteArray)) : Prop where
  bytes : zs + sep.size + sm rs rs.length ≤ 1048576
  seps : rs.length * (sep.size + 1) ≤ 16777216

theorem quo_fit {l s : Nat} (h : decide ((l : Int) ≤ 16777216 / ((s : Int) + 1)) = true) : l * (s + 1) ≤ 16777216 := by
  have h' := of_decide_eq_true h
  have h2 := (Int.le_ediv_iff_mul_le (by omega : (0 : Int) < (s : Int) + 1)).1 h'
  have h3 : ((l * (s + 1) : Nat) : Int) = (l : Int) * ((s : Int) + 1) := by simp
  omega
def FitPost (bn : Nat) (sep : ByteArray) (rs : List (ByteArray × ByteArray)) (w : World) (e : Ending) (w' : World) : Prop := ∃ f : Bool, e = .returned (.bool f) ∧ w = w' ∧ (f = true → Fit bn sep rs)
theorem fit_no {bn : Nat} {sep : ByteArray} {rs : List (ByteArray × ByteArray)} {w : World} {e : Ending} (h : e = .returned (.bool false)) : FitPost bn sep rs w e w := ⟨false, h, rfl, fun h => by cases h⟩

theorem srcA_form {w : World} {v : Value} {rs : List (ByteArray × ByteArray)} (h : SrcA w v rs) :
    ∃ a cap, v = .slice a rs.length cap ∧ (rs = [] ∨ ∃ b off, a = some ⟨b, off, none⟩ ∧ ∀ i (h : i < rs.length), w.cell? ⟨b, off + i * 2, none⟩ = some (.string rs[i].1) ∧ w.cell? ⟨b, off + i * 2 + 1, none⟩ = some (.string rs[i].2)) := by
  rcases h with ⟨rfl, rfl⟩ | ⟨a, cap, rfl, rfl | ⟨b, off, rfl, hc⟩⟩
  · exact ⟨_, _, rfl, .inl rfl⟩
  · exact ⟨_, _, rfl, .inl rfl⟩
  · exact ⟨_, _, rfl, .inr ⟨b, off, rfl, hc⟩⟩

set_option maxHeartbeats 1000000 in
theorem fit_any (s0 s1 s2 s3 s4 s5 s6 : ByteArray) (v : Value) (rs : List (ByteArray × ByteArray)) (ba : Option Addr) (bn bc : Nat) (sep : ByteArray) (w : World) (hA : SrcA w v rs)
    (l0 : s0.size ≤ maxLen) (l1 : s1.size ≤ maxLen) (l2 : s2.size ≤ maxLen) (l3 : s3.size ≤ maxLen) (l4 : s4.size ≤ maxLen) (l5 : s5.size ≤ maxLen) (l6 : s6.size ≤ maxLen) (l7 : sep.size ≤ maxLen)
    (lr : rs.length ≤ maxLen) (lb : bn ≤ maxLen) (ls : ∀ i (h : i < rs.length), rs[i].1.size ≤ maxLen ∧ rs[i].2.size ≤ maxLen) :
    Calls Try.prog 5 #[.string s0, .string s1, .string s2, .string s3, .string s4, .string s5, .string s6, v, .slice ba bn bc, .string sep] w (FitPost bn sep rs w) := by
  obtain ⟨a, cap, rfl, hc⟩ := srcA_form hA
  clear hA
  unfold maxLen at l0 l1 l2 l3 l4 l5 l6 l7 lr lb ls
  go_enter Try.func5, Try.ntmps5
  go_wp2_with (go_at_call 12; refine (add_any _ _ _ (by omega) (by omega) (by omega)).mono ?_; rintro e w' ⟨t, rfl, _, _, _, hw'⟩; subst w')
  have hb0 : t ≤ 1048576 → (bn : Int) + sep.size ≤ t := by intro h; omega
  go_loop [21, 22] (fun x i => ∃ (k : Nat) (y : Int), k ≤ rs.length ∧ i = .int .i64 k ∧ x = .int .i64 y ∧ 0 ≤ y ∧ y ≤ 2097152 ∧ (y ≤ 1048576 → (bn : Int) + sep.size + (sm rs k : Int) ≤ y)) (fun _ i => rs.length - (intOf i).toNat)
  case atStart => exact ⟨0, t, Nat.zero_le _, rfl, rfl, by omega, by omega, by rw [sm_zero]; intro h; have := hb0 h; omega⟩
  case round =>
    obtain ⟨k, y, hk, rfl, rfl, y0, y9, hy⟩ := hrel
    by_cases hlt : k < rs.length
    · by_cases hyl : y ≤ 1048576
      · rcases hc with h0 | ⟨b, off, rfl, hc⟩
        · rw [h0] at hlt; simp at hlt
        obtain ⟨c0, c1⟩ := hc k hlt
        obtain ⟨m0, m1⟩ := ls k hlt
        have hss := sm_succ rs k hlt
        obtain ⟨ns, hns⟩ : ∃ ns, ns = rs[k].1 := ⟨_, rfl⟩
        obtain ⟨na, hna⟩ : ∃ na, na = rs[k].2 := ⟨_, rfl⟩
        rw [← hns] at c0 m0 hss
        rw [← hna] at c1 m1 hss
        have HS : Hid (sm rs (k + 1) = sm rs k + (32 + ns.size + na.size)) := hss
        clear hns hna hss hc ls
        go_wp2_with (go_at_call 12; refine (add_any _ _ _ (by omega) (by omega) (by omega)).mono ?_; rintro e w' ⟨t, rfl, _, _, _, hw'⟩; subst w')
        go_round
        case rel => exact ⟨k + 1, _, by omega, by go_num, rfl, by omega, by omega, by have := HS.out; intro h; omega⟩
        case measure => simp [intOf]; omega
      · go_wp2
        go_ret
        exact fit_no rfl
    · obtain rfl : k = rs.length := by omega
      by_cases hyl : y ≤ 1048576
      · have hyy := hy hyl
        have hs1 : (sep.size : Int) ≤ 1048576 := by omega
        clear hy hb0
        go_wp2
        go_ret
        refine ⟨_, rfl, rfl, fun h => ⟨by omega, ?_⟩⟩
        exact quo_fit h
      · go_wp2
        go_ret
        exact fit_no rfl

def BytesPost (w : World) (e : Ending) (w' : World) : Prop := ∃ f : Bool, e = .returned (.bool f) ∧ w = w'

set_option maxHeartbeats 2000000 in
set_option maxRecDepth 20000 in
theorem bytes_any (s0 s1 s2 s3 s4 s5 s6 : ByteArray) (v : Value) (rs : List (ByteArray × ByteArray)) (df : Bool) (ba : Option Addr) (bn bc : Nat) (sep : ByteArray) (k : Int) (w : World) (hA : SrcA w v rs)
    (l0 : s0.size ≤ maxLen) (l1 : s1.size ≤ maxLen) (l2 : s2.size ≤ maxLen) (l3 : s3.size ≤ maxLen) (l4 : s4.size ≤ maxLen) (l5 : s5.size ≤ maxLen) (l6 : s6.size ≤ maxLen) (l7 : sep.size ≤ maxLen)
    (lr : rs.length ≤ maxLen) (lb : bn ≤ maxLen) (ls : ∀ i (h : i < rs.length), rs[i].1.size ≤ maxLen ∧ rs[i].2.size ≤ maxLen) :
    Calls Try.prog 4 #[.string s0, .string s1, .string s2, .string s3, .string s4, .string s5, .string s6, v, .bool df, .slice ba bn bc, .string sep, .int .i64 k] w (BytesPost w) := by
  obtain ⟨a, cap, rfl, hc⟩ := srcA_form hA
  clear hA
  unfold maxLen at l0 l1 l2 l3 l4 l5 l6 l7 lr lb ls
  go_enter Try.func4, Try.ntmps4
  go_wp2
  all_goals first
    | (go_ret; exact ⟨_, rfl, rfl⟩)
    | skip
  go_loop [25, 26] (fun x i => ∃ (k : Nat) (y : Int), k ≤ rs.length ∧ i = .int .i64 k ∧ x = .int .i64 y ∧ 0 ≤ y ∧ y ≤ 1048576) (fun _ i => rs.length - (intOf i).toNat)
  case atStart => exact ⟨0, _, Nat.zero_le _, rfl, rfl, by omega, by omega⟩
  case round =>
    obtain ⟨k, y, hk, rfl, rfl, y0, y9⟩ := hrel
    by_cases hlt : k < rs.length
    · rcases hc with h0 | ⟨b, off, rfl, hc⟩
      · rw [h0] at hlt; simp at hlt
      obtain ⟨c0, c1⟩ := hc k hlt
      obtain ⟨m0, m1⟩ := ls k hlt
      obtain ⟨ns, hns⟩ : ∃ ns, ns = rs[k].1 := ⟨_, rfl⟩
      obtain ⟨na, hna⟩ : ∃ na, na = rs[k].2 := ⟨_, rfl⟩
      rw [← hns] at c0 m0
      rw [← hna] at c1 m1
      clear hns hna hc ls
      go_wp2
      all_goals first
        | (go_ret; exact ⟨_, rfl, rfl⟩)
        | skip
      go_round
      case rel => exact ⟨k + 1, _, by omega, by go_num, rfl, by omega, by omega⟩
      case measure => simp [intOf]; omega
    · go_wp2
      all_goals (go_ret; exact ⟨_, rfl, rfl⟩)
end Go.Proofs.Qxb6613527a.app
