/-
  The walk of FnAppendAuditSplitsAtAnyCut.
-/
import Derived.Test.Qxb6613527aGuard
import Derived.Deep.DeepCutAuto
namespace Go.Proofs.Qxb6613527a.app
open Go.RowKit Go.Proofs.Qxb6613527a.plain

theorem Row.below {t : TypeId} {w w' : World} {a : Option Addr} {rs : List (ByteArray × ByteArray)} (h : Row t w a rs) (hb : Below w.heap.size w w') : Row t w' a rs := by
  rcases h with h | ⟨r, R, h1, h2, h3⟩
  · exact .inl h
  · exact .inr ⟨r, R, h1, (hb.block r (Array.getElem?_eq_some_iff.1 h2).1).trans h2, h3⟩
theorem Own.below {base : Nat} {w w' : World} {v : Value} {zs : List Int} (h : Own base w v zs) (hb : Below w.heap.size w w') : Own base w' v zs := by
  refine ⟨h.1, ?_⟩
  rcases h.2 with hn | ⟨g, cap, cur, rfl, hbg, hgg, rest⟩
  · exact .inl hn
  · exact .inr ⟨g, cap, cur, rfl, hbg, (hb.block g (Array.getElem?_eq_some_iff.1 hgg).1).trans hgg, rest⟩
theorem Below.drewN {N : Nat} {a w : World} (h : Below N a w) (n : Nat) : Below N a (w.drewN n) := ⟨h.os, h.tape, h.output, h.size, h.block⟩
theorem Row.src {t : TypeId} {w : World} {a : Option Addr} {rs : List (ByteArray × ByteArray)} (h : Row t w a rs) : SrcA w (.slice a rs.length rs.length) rs := by
  rcases h with ⟨rfl, rfl⟩ | ⟨r, R, rfl, h2, _, h3⟩
  · exact .inl ⟨rfl, rfl⟩
  · exact .inr ⟨_, _, rfl, .inr ⟨r, 0, rfl, fun i hi => ⟨by rw [Nat.zero_add]; exact (cell_of_row w r _ R t (0, 0) h2).trans (h3 i hi).1, by rw [Nat.zero_add]; exact (cell_of_row w r _ R t (0, 0) h2).trans (h3 i hi).2⟩⟩⟩
/-- parts of a row -/
theorem Row.take {w : World} {g : Nat} {R : Array Value} {rs : List (ByteArray × ByteArray)} (h2 : w.heap[g]? = some (.cells R 37 (0, 0)))
    (h3 : ∀ i (h : i < rs.length), R[i * 2]? = some (.string rs[i].1) ∧ R[i * 2 + 1]? = some (.string rs[i].2)) (k : Nat) : Refs w (some ⟨g, 0, none⟩) (rs.take k) :=
  .inr ⟨g, 0, R, rfl, h2, fun i hi => by
    have h' : i < rs.length := by simp at hi; omega
    have e : (rs.take k)[i] = rs[i] := List.getElem_take
    rw [e, Nat.zero_add]
    exact h3 i h'⟩
theorem Row.drop {w : World} {g : Nat} {R : Array Value} {rs : List (ByteArray × ByteArray)} (h2 : w.heap[g]? = some (.cells R 37 (0, 0)))
    (h3 : ∀ i (h : i < rs.length), R[i * 2]? = some (.string rs[i].1) ∧ R[i * 2 + 1]? = some (.string rs[i].2)) (k : Nat) : Refs w (some ⟨g, k * 2, none⟩) (rs.drop k) :=
  .inr ⟨g, k * 2, R, rfl, h2, fun i hi => by
    have h' : k + i < rs.length := by simp at hi; omega
    have e : (rs.drop k)[i] = rs[k + i] := List.getElem_drop
    have e2 : k * 2 + i * 2 = (k + i) * 2 := by omega
    rw [e, e2]
    exact h3 (k + i) h'⟩
theorem srcB_form {w : World} {v : Value} {zs : List Int} (h : SrcB w v zs) : ∃ a cap, v = .slice a zs.length cap := by
  rcases h with ⟨rfl, rfl⟩ | ⟨ad, cap, rfl, _⟩
  · exact ⟨none, 0, rfl⟩
  · exact ⟨_, _, rfl⟩

theorem sm_ge (rs : List (ByteArray × ByteArray)) : 32 * rs.length ≤ sm rs rs.length := by
  unfold sm
  rw [List.take_length]
  induction rs with
  | nil => simp
  | cons r rs ih => simp only [List.map_cons, List.sum_cons, List.length_cons]; omega
/-- how long the first k names are -/
def wl (rs : List (ByteArray × ByteArray)) (k : Nat) : Nat := ((rs.take k).map fun r => r.1.size + 1 + r.2.size).sum
theorem wl_succ (rs : List (ByteArray × ByteArray)) (k : Nat) (h : k < rs.length) : wl rs (k + 1) = wl rs k + (rs[k].1.size + 1 + rs[k].2.size) := by
  unfold wl
  rw [List.take_succ_eq_append_getElem h, List.map_append, List.sum_append]
  simp
theorem wl_le (rs : List (ByteArray × ByteArray)) (k : Nat) : wl rs k ≤ sm rs rs.length := by
  unfold wl sm
  rw [List.take_length]
  have h : ∀ l : List (ByteArray × ByteArray), (l.map fun r => r.1.size + 1 + r.2.size).sum ≤ (l.map fun r => 32 + r.1.size + r.2.size).sum := by
    intro l
    induction l with
    | nil => simp
    | cons r l ih => simp only [List.map_cons, List.sum_cons]; omega
  refine Nat.le_trans (h _) ?_
  have e : rs.map (fun r => 32 + r.1.size + r.2.size) = (rs.take k).map (fun r => 32 + r.1.size + r.2.size) ++ (rs.drop k).map (fun r => 32 + r.1.size + r.2.size) := by
    rw [← List.map_append, List.take_append_drop]
  rw [e, List.sum_append]
  omega
theorem total_le {zs : List Int} {sep : ByteArray} {rs : List (ByteArray × ByteArray)} {df : Bool} (h : Fit zs.length sep rs) : (zs ++ body (ints sep) rs df).length ≤ 33554432 := by
  rw [List.length_append, body_length, ints_length]
  have h1 := h.bytes
  have h2 := h.seps
  have h3 := wl_le rs rs.length
  rw [wl, List.take_length] at h3
  rw [Nat.mul_add, Nat.mul_one] at h2
  have h4 : (rs.length + (if df then 1 else 0) - 1) * sep.size ≤ rs.length * sep.size := Nat.mul_le_mul_right _ (by cases df <;> simp)
  cases df <;> simp at h4 ⊢ <;> omega
theorem SrcB.below {w w' : World} {v : Value} {zs : List Int} (h : SrcB w v zs) (hb : Below w.heap.size w w') : SrcB w' v zs := by
  rcases h with h | ⟨ad, cap, h, hc⟩
  · exact .inl h
  · exact .inr ⟨ad, cap, h, fun j u hu => (hb.cell (World.block_lt_of_cell? _ _ (hc j u hu))).trans (hc j u hu)⟩

theorem Row.refs {w : World} {a : Option Addr} {rs : List (ByteArray × ByteArray)} (h : Row 37 w a rs) : Refs w a rs := by
  rcases h with ⟨_, h⟩ | ⟨g, R, rfl, h2, _, h3⟩
  · exact .inl h
  · exact .inr ⟨g, 0, R, rfl, h2, fun i hi => by rw [Nat.zero_add]; exact h3 i hi⟩
theorem own_form' {base : Nat} {w : World} {v : Value} {zs : List Int} (h : Own base w v zs) (T : Nat) (hT : T = zs.length) :
    ∃ a cap, v = .slice a T cap ∧ (zs = [] ∨ ∃ g, a = some ⟨g, 0, none⟩ ∧ ∀ j (hj : j < zs.length), w.cell? ⟨g, j, none⟩ = some (.int .u8 zs[j])) := by
  subst hT; exact own_form h
theorem own_cells {base : Nat} {w : World} {a : Option Addr} {n c : Nat} {zs : List Int} (h : Own base w (.slice a n c) zs) :
    zs = [] ∨ ∃ g, a = some ⟨g, 0, none⟩ ∧ ∀ j (hj : j < zs.length), w.cell? ⟨g, j, none⟩ = some (.int .u8 zs[j]) := by
  obtain ⟨a', cap, hv, hq⟩ := own_form h
  injection hv with h1 h2 h3
  subst h1
  exact hq
theorem dec_facts {w w' : World} {D : Array Value} (h : w' = w.alloc (.cells D 44)) : w'.heap[w.heap.size]? = some (.cells D 44 (0, 0)) ∧ Below w.heap.size w w' ∧ w'.heap.size = w.heap.size + 1 := by
  subst h
  exact ⟨heap_alloc_new w _, (Below.refl _ _).alloc (Nat.le_refl _) _, by simp⟩

/-- the argument of the law, as the walk is told of it -/
structure Args (w : World) (s0 s1 s2 s3 s4 s5 s6 : ByteArray) (v : Value) (rs : List (ByteArray × ByteArray)) (bv : Value) (zs : List Int) (sep : ByteArray) : Prop where
  hA : SrcA w v rs
  hB : SrcB w bv zs
  l0 : s0.size ≤ maxLen
  l1 : s1.size ≤ maxLen
  l2 : s2.size ≤ maxLen
  l3 : s3.size ≤ maxLen
  l4 : s4.size ≤ maxLen
  l5 : s5.size ≤ maxLen
  l6 : s6.size ≤ maxLen
  l7 : sep.size ≤ maxLen
  lr : rs.length ≤ maxLen
  lb : zs.length ≤ maxLen
  ls : ∀ i (h : i < rs.length), rs[i].1.size ≤ maxLen ∧ rs[i].2.size ≤ maxLen

def LawPost (w : World) (e : Ending) (w' : World) : Prop := e = .returned (.bool true) ∧ Below w.heap.size w w'

set_option maxHeartbeats 1000000 in
set_option maxRecDepth 20000 in
theorem law_walk (s0 s1 s2 s3 s4 s5 s6 : ByteArray) (v : Value) (rs : List (ByteArray × ByteArray)) (df : Bool) (bv : Value) (zs : List Int) (sep : ByteArray) (k : Int) (w : World)
    (H : Args w s0 s1 s2 s3 s4 s5 s6 v rs bv zs sep) :
    Calls Try.prog 3 #[.string s0, .string s1, .string s2, .string s3, .string s4, .string s5, .string s6, v, .bool df, bv, .string sep, .int .i64 k] w (LawPost w) := by
  obtain ⟨hA, hB, l0, l1, l2, l3, l4, l5, l6, l7, lr, lb, ls⟩ := H
  have hc4 := fun ba bc k => bytes_any s0 s1 s2 s3 s4 s5 s6 v rs df ba zs.length bc sep k w hA l0 l1 l2 l3 l4 l5 l6 l7 lr lb ls
  have hc5 := fun ba bc => fit_any s0 s1 s2 s3 s4 s5 s6 v rs ba zs.length bc sep w hA l0 l1 l2 l3 l4 l5 l6 l7 lr lb ls
  obtain ⟨va, vcap, rfl, _⟩ := srcA_form hA
  obtain ⟨ba, bc, rfl⟩ := srcB_form hB
  unfold maxLen at lr lb
  clear l0 l1 l2 l3 l4 l5 l6 l7 ls
  by_cases hk : 0 ≤ k ∧ k ≤ (rs.length : Int)
  case neg =>
    by_cases hk0 : k < 0
    · clear hk
      go_enter Try.func3, Try.ntmps3
      go_wp2_with (first
        | (go_at_call 4; refine (hc4 _ _ _).mono ?_; rintro e w' ⟨f, rfl, hw'⟩; subst w')
        | (go_at_call 5; refine (hc5 _ _).mono ?_; rintro e w' ⟨f5, rfl, hw', hfit⟩; subst w')
        | fail)
      all_goals (go_ret; exact ⟨rfl, Below.refl _ _⟩)
    · have hk1 : (rs.length : Int) < k := by omega
      clear hk
      go_enter Try.func3, Try.ntmps3
      go_wp2_with (first
        | (go_at_call 4; refine (hc4 _ _ _).mono ?_; rintro e w' ⟨f, rfl, hw'⟩; subst w')
        | (go_at_call 5; refine (hc5 _ _).mono ?_; rintro e w' ⟨f5, rfl, hw', hfit⟩; subst w')
        | fail)
      all_goals (go_ret; exact ⟨rfl, Below.refl _ _⟩)
  obtain ⟨hk0, hk1⟩ := hk
  obtain ⟨kn, rfl⟩ : ∃ kn : Nat, k = (kn : Int) := ⟨k.toNat, by omega⟩
  go_enter Try.func3, Try.ntmps3
  go_wp2_with (first
    | (go_at_call 4; refine (hc4 _ _ _).mono ?_; rintro e w' ⟨f, rfl, hw'⟩; subst w')
    | (go_at_call 5; refine (hc5 _ _).mono ?_; rintro e w' ⟨f5, rfl, hw', hfit⟩; subst w')
    | fail)
  all_goals first | (go_ret; exact ⟨rfl, Below.refl _ _⟩) | skip
  have h5 : (!f5) = false := by assumption
  have hF : Fit zs.length sep rs := hfit (by simpa using h5)
  clear h5
  have hrl : rs.length ≤ 32768 := by have h1 := hF.bytes; have h2 := sm_ge rs; omega
  have hzl : zs.length ≤ 1048576 := by have h1 := hF.bytes; omega
  have HF : Hid (Fit zs.length sep rs) := hF
  clear hF hfit hc4 hc5
  go_wp2_with (first
    | (go_at_call 6; refine (clone_audit _ rs _ hA (by omega)).mono ?_; rintro e w1 ⟨a1, rfl, hA1, hb1⟩)
    | (go_at_call 7; refine (clone_bytes _ zs _ ?_ (by omega)).mono ?_; exact hB.below hb1; rintro e w2 ⟨v2, rfl, hB2, hb2⟩; obtain ⟨b2, c2, rfl, q2⟩ := own_form hB2)
    | fail)
  have hA2 := hA1.below hb2
  have hbb := hb1.trans (hb2.mono hb1.size)
  clear hA1 hb1 hb2 hA hB
  go_loopw [25, 26, 27] (fun x y i wr => ∃ k n : Nat, k ≤ rs.length ∧ i = .int .i64 k ∧ y = .int .i64 k ∧ x = .int .i64 (zs.length + wl rs k : Nat) ∧ wr = w2.drewN n) (fun _ _ i _ => rs.length - (intOf i).toNat)
  case atStart => exact ⟨0, 0, Nat.zero_le _, rfl, rfl, by simp [wl], rfl⟩
  case round =>
    obtain ⟨k, n, hk, rfl, rfl, rfl, rfl⟩ := hrel
    have hwl := wl_le rs k
    have hsm := HF.out.bytes
    by_cases hlt : k < rs.length
    · rcases hA2 with ⟨_, h0⟩ | ⟨r, R, rfl, hR, _, hRc⟩
      · rw [h0] at hlt; simp at hlt
      obtain ⟨ns, hns⟩ : ∃ ns, ns = rs[k].1 := ⟨_, rfl⟩
      obtain ⟨na, hna⟩ : ∃ na, na = rs[k].2 := ⟨_, rfl⟩
      have c0 : w2.cell? ⟨r, k * 2, none⟩ = some (.string ns) := by rw [hns]; exact (cell_of_row w2 r _ R 29 (0, 0) hR).trans (hRc k hlt).1
      have c1 : w2.cell? ⟨r, k * 2 + 1, none⟩ = some (.string na) := by rw [hna]; exact (cell_of_row w2 r _ R 29 (0, 0) hR).trans (hRc k hlt).2
      have hws := wl_succ rs k hlt
      rw [← hns, ← hna] at hws
      have hwl1 := wl_le rs (k + 1)
      rw [hws] at hwl1
      have HW : Hid (wl rs (k + 1) = wl rs k + (ns.size + 1 + na.size)) := hws
      have hki : (k : Int) < (rs.length : Int) := by omega
      clear hws hns hna hR hRc hB2 q2
      go_wp2_with fail
      go_quiet (fail)
      go_wp2
      go_roundw
      case rel => exact ⟨k + 1, _, by omega, by go_num, by go_num, by rw [HW.out]; go_num, rfl⟩
      case measure => simp [intOf]; omega
    · obtain rfl : k = rs.length := by omega
      have hA3 : Row 29 (w2.drewN n) a1 rs := hA2.below (Below.drewN (Below.refl _ _) n)
      have hB3 : Own w1.heap.size (w2.drewN n) (.slice b2 zs.length c2) zs := hB2.below (Below.drewN (Below.refl _ _) n)
      have hbb3 : Below w.heap.size w (w2.drewN n) := Below.drewN hbb n
      have hk2 : kn ≤ rs.length := by omega
      clear hA2 hB2 hbb q2
      obtain ⟨L, hL⟩ : ∃ L, L = zs.length + wl rs rs.length := ⟨_, rfl⟩
      rw [← hL]
      have hL9 : L ≤ 2097152 := by omega
      obtain ⟨T, hT⟩ : ∃ T, T = (zs ++ body (ints sep) rs df).length := ⟨_, rfl⟩
      have hT9 : T ≤ 33554432 := by rw [hT, hL] at *; exact total_le HF.out
      have HT : Hid (T = (zs ++ body (ints sep) rs df).length) := hT
      have HTL : Hid (T = L + (if df then 22 else 0) + (rs.length + (if df then 1 else 0) - 1) * sep.size) := by
        show _ = _
        rw [hT, hL, List.length_append, body_length, ints_length, wl, List.take_length]
        omega
      clear hT hL hwl hsm
      generalize World.drewN w2 n = w3 at hA3 hB3 hbb3 ⊢
      go_upto_if 97 with fail
      go_cut [25, 26] (fun x y wc => x = .int .i64 ((L + (if df then 22 else 0) : Nat) : Int) ∧ y = .int .i64 ((rs.length + (if df then 1 else 0) : Nat) : Int) ∧ wc = w3)
      case first =>
        cases df
        all_goals
          go_wp2_with fail
          go_meet
          case rel => exact ⟨by go_num, by go_num, rfl⟩
      case rest =>
        obtain ⟨rfl, rfl, hwc⟩ := hcut
        subst wc
        obtain ⟨L2, hL2⟩ : ∃ L2, L2 = L + (if df then 22 else 0) := ⟨_, rfl⟩
        obtain ⟨I2, hI2⟩ : ∃ I2, I2 = rs.length + (if df then 1 else 0) := ⟨_, rfl⟩
        have HTL2 : Hid (T = L2 + (I2 - 1) * sep.size) := by rw [hL2, hI2]; exact HTL
        have hL29 : L2 ≤ 4194304 := by rw [hL2]; cases df <;> simp <;> omega
        have hI29 : I2 ≤ 65536 := by rw [hI2]; cases df <;> simp <;> omega
        rw [← hL2, ← hI2]
        clear hL2 hI2 HTL
        go_upto_if 103 with fail
        go_cut [25] (fun x wc => x = .int .i64 (T : Int) ∧ wc = w3)
        case first =>
          by_cases h1 : 1 < I2
          · obtain ⟨P, hP⟩ : ∃ P : Nat, P = (I2 - 1) * sep.size := ⟨_, rfl⟩
            have hPi : ((I2 : Int) - 1) * (sep.size : Int) = (P : Int) := by
              rw [hP]
              have : ((I2 - 1 : Nat) : Int) = (I2 : Int) - 1 := by omega
              rw [← this]; simp
            have HP : Hid (T = L2 + P) := by rw [hP]; exact HTL2
            have hPb : P ≤ 33554432 := by have := HP.out; omega
            clear hP HTL2
            go_wp2_with fail
            go_meet
            case rel => exact ⟨by rw [HP.out]; go_num, rfl⟩
          · have HP : Hid (T = L2) := by
              show _ = _
              have e : I2 - 1 = 0 := by omega
              have := HTL2.out
              rw [e] at this
              simpa using this
            clear HTL2
            go_wp2_with fail
            go_meet
            case rel => exact ⟨by rw [HP.out], rfl⟩
        case rest =>
          obtain ⟨rfl, hwc⟩ := hcut
          subst wc
          clear HTL2 hL29 hI29 hL9
          go_wp2_with fail
          -- the policies as the engine's own
          refine (refs_any _ rs _ hA3.src (by omega)).mono ?_
          rintro e w4 ⟨a4, rfl, hR4, hb4⟩
          have hB4 := hB3.below hb4
          have hbb4 := hbb3.trans (hb4.mono hbb3.size)
          clear hA3 hB3 hbb3 hb4
          go_wp2_with fail
          -- the whole, written
          refine (dec_any s0 s1 s2 s3 s4 s5 s6 a4 rs.length rs.length df w4).mono ?_
          rintro e w5 ⟨rfl, hw5⟩
          obtain ⟨hD5, hb5, hz5⟩ := dec_facts hw5
          clear hw5
          go_wp2_with fail
          refine (clone_bytes _ zs w5 (hB4.below hb5).src (by omega)).mono ?_
          rintro e w6 ⟨v6, rfl, hO6, hb6⟩
          go_wp2_with fail
          have hb46 := hb5.trans (hb6.mono (by omega))
          refine (plain_any w5.heap.size w4.heap.size _ a4 rs.length rs df v6 zs sep w6 ((hb6.block _ (by omega)).trans hD5) rfl rfl (hR4.below hb46).refs hO6 hb6.size (by have := HT.out; rw [List.length_append] at this; omega) (by omega)).mono ?_
          rintro e w7 ⟨v7, rfl, hO7, hf7⟩
          have hb47 := hb46.trans ((hf7.below hb6.size).mono (by omega))
          have hR7 := hR4.below hb47
          have hB7 := hB4.below hb47
          have hbb7 := hbb4.trans (hb47.mono hbb4.size)
          obtain ⟨b7, c7, rfl, q7⟩ := own_form' hO7 T HT.out
          clear hR4 hB4 hbb4 hD5 hb5 hz5 hO6 hb6 hf7 hb46 hb47
          rcases hR7 with ⟨rfl, hnil⟩ | ⟨g, R, rfl, hRg, hRs, hRc⟩
          · subst hnil
            obtain rfl : kn = 0 := by simpa using hk2
            go_wp2_with fail
            refine (dec_any s0 s1 s2 s3 s4 s5 s6 none 0 0 false w7).mono ?_
            rintro e w8 ⟨rfl, hw8⟩
            obtain ⟨hD8, hb8, hz8⟩ := dec_facts hw8
            clear hw8
            go_wp2_with fail
            refine (clone_bytes _ zs w8 (hB7.below hb8).src (by omega)).mono ?_
            rintro e w9 ⟨v9, rfl, hO9, hb9⟩
            go_wp2_with fail
            have hb79 := hb8.trans (hb9.mono (by omega))
            refine (plain_any w8.heap.size w7.heap.size _ none 0 [] false v9 zs sep w9 ((hb9.block _ (by omega)).trans hD8) rfl rfl (.inl rfl) hO9 hb9.size (by simp [body, items, jn]; omega) (by simp)).mono ?_
            rintro e w10 ⟨v10, rfl, hO10, hf10⟩
            have hb710 := hb79.trans ((hf10.below hb9.size).mono (by omega))
            have hz10 : w8.heap.size ≤ w10.heap.size := Nat.le_trans hb9.size hf10.size
            have he : zs ++ body (ints sep) [] false = zs := by simp [body, items, jn]
            rw [he] at hO10
            clear hD8 hb8 hO9 hb9 hb79 hf10 q7 he
            go_wp2_with fail
            refine (dec_any s0 s1 s2 s3 s4 s5 s6 none 0 0 df w10).mono ?_
            rintro e w11 ⟨rfl, hw11⟩
            obtain ⟨hD11, hb11, hz11⟩ := dec_facts hw11
            clear hw11
            go_wp2_with fail
            have hb711 := hb710.trans (hb11.mono hb710.size)
            refine (plain_any w8.heap.size w10.heap.size _ none 0 [] df _ _ sep w11 hD11 rfl rfl (.inl rfl) (hO10.below hb11) (by omega) (by rw [← List.length_append, ← HT.out]; omega) (by simp)).mono ?_
            rintro e w12 ⟨v12, rfl, hO12, hf12⟩
            have hb712 := hb711.trans ((hf12.below (by omega)).mono (by omega))
            have hfull := hO7.below hb712
            have hbcl := hB7.below hb712
            have hall := hbb7.trans (hb712.mono hbb7.size)
            obtain ⟨b12, c12, rfl, _⟩ := own_form' hO12 T HT.out
            clear hO7 hB7 hbb7 hO10 hb11 hz11 hb711 hD11 hf12 hb712 HF hb710
            have fq := own_cells hfull
            have bq := own_cells hbcl
            have hne : ((T : Int) != (T : Int)) = false := by simp
            go_wp2_with fail
            go_loopw [32] (fun i wr => ∃ k n : Nat, k ≤ zs.length ∧ i = .int .i64 k ∧ wr = w12.drewN n) (fun i _ => zs.length - (intOf i).toNat)
            case atStart => exact ⟨0, 0, Nat.zero_le _, rfl, rfl⟩
            case round =>
              obtain ⟨k, n, hk, rfl, rfl⟩ := hrel
              by_cases hlt : k < zs.length
              · rcases bq with h0 | ⟨gb, rfl, hcb⟩
                · rw [h0] at hlt; simp at hlt
                rcases fq with h0 | ⟨gf, rfl, hcf⟩
                · rw [(List.append_eq_nil_iff.1 h0).1] at hlt; simp at hlt
                have e1 := hcf k (by simp; omega)
                rw [List.getElem_append_left hlt] at e1
                have e2 := hcb k hlt
                have hTl : zs.length ≤ T := by rw [HT.out, List.length_append]; omega
                have hki : (k : Int) < (zs.length : Int) := by omega
                have hkt : (k : Int) < (T : Int) := by omega
                clear hcb hcf hfull hbcl hO12
                go_wp2_with fail
                go_quiet (fail)
                go_wp2_with fail
                go_roundw
                case rel => exact ⟨k + 1, _, by omega, by go_num, rfl⟩
                case measure => simp [intOf]; omega
              · go_wp2_with (go_at_call 11; refine (equal_any _ _ _ _ (zs ++ body (ints sep) [] df) _ (hfull.below (Below.drewN (Below.refl _ _) n)) (hO12.below (Below.drewN (Below.refl _ _) n)) (by rw [← HT.out]; omega)).mono ?_; rintro e w13 ⟨rfl, n', rfl⟩)
                go_ret
                exact ⟨rfl, Below.drewN hall _⟩
          · go_wp2_with fail
            -- the first policies, written
            refine (dec_any s0 s1 s2 s3 s4 s5 s6 (some ⟨g, 0, none⟩) kn rs.length false w7).mono ?_
            rintro e w8 ⟨rfl, hw8⟩
            obtain ⟨hD8, hb8, hz8⟩ := dec_facts hw8
            clear hw8
            go_wp2_with fail
            refine (clone_bytes _ zs w8 (hB7.below hb8).src (by omega)).mono ?_
            rintro e w9 ⟨v9, rfl, hO9, hb9⟩
            go_wp2_with fail
            have hb79 := hb8.trans (hb9.mono (by omega))
            have htl : (rs.take kn).length = kn := by simp; omega
            have hlt := jn_take_le (ints sep) rs df kn (by omega)
            rw [← body_plain] at hlt
            have hTb := HT.out
            rw [List.length_append] at hTb
            refine (plain_any w8.heap.size w7.heap.size _ (some ⟨g, 0, none⟩) rs.length (rs.take kn) false v9 zs sep w9 ((hb9.block _ (by omega)).trans hD8) (by rw [htl]; rfl) rfl (Row.take ((hb79.block g (Array.getElem?_eq_some_iff.1 hRg).1).trans hRg) hRc kn) hO9 hb9.size (by omega) (by omega)).mono ?_
            rintro e w10 ⟨v10, rfl, hO10, hf10⟩
            have hb710 := hb79.trans ((hf10.below hb9.size).mono (by omega))
            have hz10 : w8.heap.size ≤ w10.heap.size := Nat.le_trans hb9.size hf10.size
            have hz7 : w7.heap.size < w8.heap.size := by omega
            clear hD8 hb8 hz8 hO9 hb9 hb79 hf10 hTb hlt htl q7
            obtain ⟨C, hC⟩ : ∃ C : Bool, C = decide (0 < kn ∧ (kn < rs.length ∨ df = true)) := ⟨_, rfl⟩
            have HC : Hid (C = decide (0 < kn ∧ (kn < rs.length ∨ df = true))) := hC
            clear hC
            go_upto_region 24 with fail
            go_cut [152] (fun x wc => x = .bool C ∧ wc = w10)
            case first =>
              by_cases p0 : 0 < kn
              · by_cases p1 : kn < rs.length
                · go_wp2_with fail
                  go_meet
                  case rel => exact ⟨by rw [HC.out]; simp [p0, p1], rfl⟩
                · cases df
                  all_goals
                    go_wp2_with fail
                    go_meet
                    case rel => exact ⟨by rw [HC.out]; simp [p0, p1], rfl⟩
              · go_wp2_with fail
                go_meet
                case rel => exact ⟨by rw [HC.out]; simp [p0], rfl⟩
            case rest =>
              obtain ⟨rfl, hwc⟩ := hcut
              subst wc
              go_upto_if 152 with fail
              go_cut [30] (fun x wc => Own w8.heap.size wc x (zs ++ body (ints sep) (rs.take kn) false ++ (if 0 < kn ∧ (kn < rs.length ∨ df = true) then ints sep else [])) ∧ Fr w8.heap.size w10 wc)
              case first =>
                have hlt := jn_take_le (ints sep) rs df kn (by omega)
                rw [← body_plain] at hlt
                have hTb : zs.length + (body (ints sep) rs df).length ≤ 33554432 := by rw [← List.length_append, ← HT.out]; exact hT9
                have hsb := HF.out.bytes
                cases C with
                | true =>
                  have hc : 0 < kn ∧ (kn < rs.length ∨ df = true) := by have := HC.out; simpa using this.symm
                  have HI : Hid ((if 0 < kn ∧ (kn < rs.length ∨ df = true) then ints sep else []) = ints sep) := if_pos hc
                  clear hc HC
                  go_wp2_with (at_builtin; refine app_str rfl (.tmp 153) (.tmp 154) rfl w8.heap.size _ _ rfl hO10 sep rfl (by rw [List.length_append]; omega) hz10 ?_; intro v11 w11 hO11 hf11)
                  go_meet
                  case rel => exact ⟨by rw [HI.out]; exact hO11, hf11⟩
                | false =>
                  have hc : ¬ (0 < kn ∧ (kn < rs.length ∨ df = true)) := by have := HC.out; intro h; simp [h] at this
                  have HI : Hid ((if 0 < kn ∧ (kn < rs.length ∨ df = true) then ints sep else []) = []) := if_neg hc
                  clear hc HC
                  go_wp2_with fail
                  go_meet
                  case rel => exact ⟨by rw [HI.out, List.append_nil]; exact hO10, Fr.refl _ _⟩
              case rest =>
                obtain ⟨hOc, hfc⟩ := hcut
                have hb7c := hb710.trans ((hfc.below hz10).mono (by omega))
                have hzc : w8.heap.size ≤ wc.heap.size := Nat.le_trans hz10 hfc.size
                clear hO10 hfc hb710 HC hz10
                have HS : Hid (zs ++ body (ints sep) (rs.take kn) false ++ (if 0 < kn ∧ (kn < rs.length ∨ df = true) then ints sep else []) ++ body (ints sep) (rs.drop kn) df = zs ++ body (ints sep) rs df) := by
                  show _ = _
                  rw [split (ints sep) rs df kn (by omega)]
                  simp only [List.append_assoc]
                by_cases hkl : kn < rs.length
                · have hdl : (rs.drop kn).length = rs.length - kn := by simp
                  go_wp2_with fail
                  refine (dec_any s0 s1 s2 s3 s4 s5 s6 _ _ _ df wc).mono ?_
                  rintro e w11 ⟨rfl, hw11⟩
                  obtain ⟨hD11, hb11, hz11⟩ := dec_facts hw11
                  clear hw11
                  go_wp2_with fail
                  have hb711 := hb7c.trans (hb11.mono hb7c.size)
                  refine (plain_any w8.heap.size wc.heap.size _ (some ⟨g, kn * 2, none⟩) _ (rs.drop kn) df _ _ sep w11 hD11 (by rw [hdl]; rfl) rfl (Row.drop ((hb711.block g (Array.getElem?_eq_some_iff.1 hRg).1).trans hRg) hRc kn) (hOc.below hb11) (by omega) (by rw [← List.length_append, HS.out, ← HT.out]; omega) (by first | (simp; omega) | simp)).mono ?_
                  rintro e w12 ⟨v12, rfl, hO12, hf12⟩
                  rw [HS.out] at hO12
                  have hb712 := hb711.trans ((hf12.below (by omega)).mono (by omega))
                  have hfull := hO7.below hb712
                  have hbcl := hB7.below hb712
                  have hall := hbb7.trans (hb712.mono hbb7.size)
                  obtain ⟨b12, c12, rfl, _⟩ := own_form' hO12 T HT.out
                  clear hO7 hB7 hbb7 hRg hRc hRs hb7c hOc hb11 hz11 hb711 hD11 hf12 hb712 HS HF
                  have fq := own_cells hfull
                  have bq := own_cells hbcl
                  have hne : ((T : Int) != (T : Int)) = false := by simp
                  go_wp2_with fail
                  go_loopw [32] (fun i wr => ∃ k n : Nat, k ≤ zs.length ∧ i = .int .i64 k ∧ wr = w12.drewN n) (fun i _ => zs.length - (intOf i).toNat)
                  case atStart => exact ⟨0, 0, Nat.zero_le _, rfl, rfl⟩
                  case round =>
                    obtain ⟨k, n, hk, rfl, rfl⟩ := hrel
                    by_cases hlt : k < zs.length
                    · rcases bq with h0 | ⟨gb, rfl, hcb⟩
                      · rw [h0] at hlt; simp at hlt
                      rcases fq with h0 | ⟨gf, rfl, hcf⟩
                      · rw [(List.append_eq_nil_iff.1 h0).1] at hlt; simp at hlt
                      have e1 := hcf k (by simp; omega)
                      rw [List.getElem_append_left hlt] at e1
                      have e2 := hcb k hlt
                      have hTl : zs.length ≤ T := by rw [HT.out, List.length_append]; omega
                      have hki : (k : Int) < (zs.length : Int) := by omega
                      have hkt : (k : Int) < (T : Int) := by omega
                      clear hcb hcf hfull hbcl hO12
                      go_wp2_with fail
                      go_quiet (fail)
                      go_wp2_with fail
                      go_roundw
                      case rel => exact ⟨k + 1, _, by omega, by go_num, rfl⟩
                      case measure => simp [intOf]; omega
                    · go_wp2_with (go_at_call 11; refine (equal_any _ _ _ _ (zs ++ body (ints sep) rs df) _ (hfull.below (Below.drewN (Below.refl _ _) n)) (hO12.below (Below.drewN (Below.refl _ _) n)) (by rw [← HT.out]; omega)).mono ?_; rintro e w13 ⟨rfl, n', rfl⟩)
                      go_ret
                      exact ⟨rfl, Below.drewN hall _⟩
                · obtain rfl : kn = rs.length := by omega
                  have hdl : (rs.drop rs.length).length = 0 := by simp
                  go_wp2_with fail
                  refine (dec_any s0 s1 s2 s3 s4 s5 s6 _ _ _ df wc).mono ?_
                  rintro e w11 ⟨rfl, hw11⟩
                  obtain ⟨hD11, hb11, hz11⟩ := dec_facts hw11
                  clear hw11
                  go_wp2_with fail
                  have hb711 := hb7c.trans (hb11.mono hb7c.size)
                  refine (plain_any w8.heap.size wc.heap.size _ (some ⟨g, 0, none⟩) _ (rs.drop rs.length) df _ _ sep w11 hD11 (by rw [hdl]; rfl) rfl (.inl (List.eq_nil_of_length_eq_zero hdl)) (hOc.below hb11) (by omega) (by rw [← List.length_append, HS.out, ← HT.out]; omega) (by first | (simp; omega) | simp)).mono ?_
                  rintro e w12 ⟨v12, rfl, hO12, hf12⟩
                  rw [HS.out] at hO12
                  have hb712 := hb711.trans ((hf12.below (by omega)).mono (by omega))
                  have hfull := hO7.below hb712
                  have hbcl := hB7.below hb712
                  have hall := hbb7.trans (hb712.mono hbb7.size)
                  obtain ⟨b12, c12, rfl, _⟩ := own_form' hO12 T HT.out
                  clear hO7 hB7 hbb7 hRg hRc hRs hb7c hOc hb11 hz11 hb711 hD11 hf12 hb712 HS HF
                  have fq := own_cells hfull
                  have bq := own_cells hbcl
                  have hne : ((T : Int) != (T : Int)) = false := by simp
                  go_wp2_with fail
                  go_loopw [32] (fun i wr => ∃ k n : Nat, k ≤ zs.length ∧ i = .int .i64 k ∧ wr = w12.drewN n) (fun i _ => zs.length - (intOf i).toNat)
                  case atStart => exact ⟨0, 0, Nat.zero_le _, rfl, rfl⟩
                  case round =>
                    obtain ⟨k, n, hk, rfl, rfl⟩ := hrel
                    by_cases hlt : k < zs.length
                    · rcases bq with h0 | ⟨gb, rfl, hcb⟩
                      · rw [h0] at hlt; simp at hlt
                      rcases fq with h0 | ⟨gf, rfl, hcf⟩
                      · rw [(List.append_eq_nil_iff.1 h0).1] at hlt; simp at hlt
                      have e1 := hcf k (by simp; omega)
                      rw [List.getElem_append_left hlt] at e1
                      have e2 := hcb k hlt
                      have hTl : zs.length ≤ T := by rw [HT.out, List.length_append]; omega
                      have hki : (k : Int) < (zs.length : Int) := by omega
                      have hkt : (k : Int) < (T : Int) := by omega
                      clear hcb hcf hfull hbcl hO12
                      go_wp2_with fail
                      go_quiet (fail)
                      go_wp2_with fail
                      go_roundw
                      case rel => exact ⟨k + 1, _, by omega, by go_num, rfl⟩
                      case measure => simp [intOf]; omega
                    · go_wp2_with (go_at_call 11; refine (equal_any _ _ _ _ (zs ++ body (ints sep) rs df) _ (hfull.below (Below.drewN (Below.refl _ _) n)) (hO12.below (Below.drewN (Below.refl _ _) n)) (by rw [← HT.out]; omega)).mono ?_; rintro e w13 ⟨rfl, n', rfl⟩)
                      go_ret
                      exact ⟨rfl, Below.drewN hall _⟩
end Go.Proofs.Qxb6613527a.app
