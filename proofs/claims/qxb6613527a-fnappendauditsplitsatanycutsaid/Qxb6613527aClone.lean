/-
  The walks of the law's small helpers.
-/
import Derived.Test.Qxb6613527aApp
import Derived.Deep.QuietTactic
import Derived.BigQuiet
import Derived.Laws.CopyOwn
namespace Go.Proofs.Qxb6613527a.app
open Go.RowKit Go.Proofs.Qxb6613527a.plain

theorem plain_any (base d : Nat) (D : Array Value) (ra : Option Addr) (rc : Nat) (rs : List (ByteArray × ByteArray)) (df : Bool) (v : Value) (zs : List Int) (sep : ByteArray) (w : World)
    (hD : w.heap[d]? = some (.cells D 44 (0, 0))) (hD7 : D[7]? = some (.slice ra rs.length rc)) (hD8 : D[8]? = some (.bool df)) (hR : Refs w ra rs)
    (ho : Own base w v zs) (hb : base ≤ w.heap.size) (hn : zs.length + (body (ints sep) rs df).length ≤ 536870912) (hrn : rs.length ≤ 1073741824) :
    Calls Try.prog 9 #[.pointer (some ⟨d, 0, none⟩), v, .string sep] w fun e w' => ∃ v', e = .returned v' ∧ Own base w' v' (zs ++ body (ints sep) rs df) ∧ Fr base w w' := by
  have hc := fun w (h : _) (h' : _) => audit_any base d D ra rc rs df v zs sep w h hD7 hD8 h'
  go_enter Try.func9, Try.ntmps9
  go_wp2_with (go_at_call 13; refine (hc _ hD hR ho hb hn hrn).mono ?_; rintro e w' ⟨v', rfl, h1, h2⟩)
  go_ret
  exact ⟨_, rfl, h1, h2⟩

theorem dec_any (s0 s1 s2 s3 s4 s5 s6 : ByteArray) (ra : Option Addr) (rn rc : Nat) (df : Bool) (w : World) :
    Calls Try.prog 10 #[.string s0, .string s1, .string s2, .string s3, .string s4, .string s5, .string s6, .slice ra rn rc, .bool df] w fun e w' =>
      e = .returned (.pointer (some ⟨w.heap.size, 0, none⟩)) ∧ w' = w.alloc (.cells #[.string s0, .string s1, .string s2, .string s3, .string s4, .string s5, .string s6, .slice ra rn rc, .bool df] 44) := by
  go_enter Try.func10, Try.ntmps10
  go_wp2
  go_ret
  exact ⟨rfl, rfl⟩

theorem own_form {base : Nat} {w : World} {v : Value} {zs : List Int} (h : Own base w v zs) :
    ∃ a cap, v = .slice a zs.length cap ∧ (zs = [] ∨ ∃ g, a = some ⟨g, 0, none⟩ ∧ ∀ j (hj : j < zs.length), w.cell? ⟨g, j, none⟩ = some (.int .u8 zs[j])) := by
  rcases h.2 with ⟨rfl, h0⟩ | ⟨g, cap, cur, rfl, hbg, hgg, h1, h2, h3, h4⟩
  · refine ⟨none, 0, ?_, .inl (List.eq_nil_of_length_eq_zero h0)⟩
    rw [h0]
  · refine ⟨_, cap, rfl, .inr ⟨g, rfl, fun j hj => ?_⟩⟩
    have := World.ownsRow.cellAt (h : w.ownsRow base 5 1 (.slice (some ⟨g, 0, none⟩) zs.length cap) zs.length _) j (by omega)
    rw [this]
    simp [hj]

set_option maxHeartbeats 400000 in
theorem equal_any (b1 b2 : Nat) (v1 v2 : Value) (zs : List Int) (w : World) (h1 : Own b1 w v1 zs) (h2 : Own b2 w v2 zs) (hn : zs.length ≤ 1073741824) :
    Calls Try.prog 11 #[v1, v2] w fun e w' => e = .returned (.bool true) ∧ ∃ n, w' = w.drewN n := by
  obtain ⟨a1, c1, rfl, q1⟩ := own_form h1
  obtain ⟨a2, c2, rfl, q2⟩ := own_form h2
  clear h1 h2
  go_enter Try.func11, Try.ntmps11
  go_wp2
  go_loopw [5] (fun i wr => ∃ k n : Nat, k ≤ zs.length ∧ i = .int .i64 k ∧ wr = w.drewN n) (fun i _ => zs.length - (intOf i).toNat)
  case atStart => exact ⟨0, 0, Nat.zero_le _, rfl, rfl⟩
  case round =>
    obtain ⟨k, n, hk, rfl, rfl⟩ := hrel
    by_cases hlt : k < zs.length
    · rcases q1 with h0 | ⟨g1, rfl, hc1⟩
      · rw [h0] at hlt; simp at hlt
      rcases q2 with h0 | ⟨g2, rfl, hc2⟩
      · rw [h0] at hlt; simp at hlt
      have e1 := hc1 k hlt
      have e2 := hc2 k hlt
      clear hc1 hc2
      have hki : (k : Int) < (zs.length : Int) := by omega
      go_wp2_with fail
      go_quiet (fail)
      go_wp2
      go_roundw
      case rel => exact ⟨k + 1, _, by omega, by go_num, rfl⟩
      case measure => simp [intOf]; omega
    · go_wp2
      go_ret
      exact ⟨rfl, _, rfl⟩

/-- a slice of bytes that is read -/
def SrcB (w : World) (v : Value) (zs : List Int) : Prop :=
  (v = .slice none 0 0 ∧ zs = []) ∨ ∃ ad cap, v = .slice (some ad) zs.length cap ∧ ∀ j u, (zs.map (Value.int .u8))[j]? = some u → w.cell? (ad.add j) = some u
theorem Own.src {base : Nat} {w : World} {v : Value} {zs : List Int} (h : Own base w v zs) : SrcB w v zs := by
  rcases h.2 with ⟨rfl, h0⟩ | ⟨g, cap, cur, rfl, rest⟩
  · exact .inl ⟨rfl, List.eq_nil_of_length_eq_zero h0⟩
  · exact .inr ⟨_, cap, rfl, World.ownsRow.cells h rfl⟩

theorem row_of {w : World} {base g n : Nat} {e : TypeId} {size : Nat} {xs : List Value} (h : w.ownsRow base e size (.slice (some ⟨g, 0, none⟩) n n) n xs) :
    ∃ cur : List Value, w.heap[g]? = some (.cells cur.toArray e (0, 0)) ∧ cur.length = n * size := by
  rcases h.2 with ⟨h, _⟩ | ⟨g', cap, cur, hv, _, hgg, _, _, hs, _⟩
  · simp at h
  · simp at hv
    obtain ⟨rfl, rfl⟩ := hv
    exact ⟨cur.toList, by simpa using hgg, by simpa using hs⟩
theorem own_of_row {w : World} {base g : Nat} {zs : List Int} (hb : base ≤ g) (hn : zs.length ≤ 1073741824) (h : w.heap[g]? = some (.cells (zs.map (Value.int .u8)).toArray 5 (0, 0))) :
    Own base w (.slice (some ⟨g, 0, none⟩) zs.length zs.length) zs :=
  ⟨by simp, .inr ⟨g, zs.length, _, rfl, hb, h, Nat.le_refl _, by unfold maxLen; omega, by simp, by rw [Nat.mul_one]; exact List.take_of_length_le (by simp)⟩⟩
theorem grownBy.below {w w' : World} (h : w.grownBy w' none) : Below w.heap.size w w' := ⟨h.os, h.tape, h.output, h.size, fun k hk => h.block k hk (by simp)⟩

theorem clone_bytes (v : Value) (zs : List Int) (w : World) (hs : SrcB w v zs) (hn : zs.length ≤ 1073741824) :
    Calls Try.prog 7 #[v] w fun e w' => ∃ v', e = .returned v' ∧ Own w.heap.size w' v' zs ∧ Below w.heap.size w w' := by
  have hq := fun w a n c => Lib.run_eql_slice_nil (P := Try.prog) w 23 5 a n c 0 0 Try.underlying23
  rcases hs with ⟨rfl, rfl⟩ | ⟨ad, cap, rfl, hc⟩
  · go_enter Try.func7, Try.ntmps7
    go_wp2
    go_ret
    exact ⟨_, rfl, World.ownsRow_nil _ _ _ _, Below.refl _ _⟩
  · obtain ⟨i0, hi, hz0, hz1, hz2⟩ := info_parts info5
    have hsz : (Try.prog.info? 5).map (·.size) = some 1 := by kernel_rfl
    obtain ⟨cs, hcs⟩ : ∃ cs, cs = zs.map (Value.int .u8) := ⟨_, rfl⟩
    rw [← hcs] at hc
    have hcl : cs.length = zs.length := by rw [hcs, List.length_map]
    have h1 : ∀ v ∈ cs, v.oneCell' = true := by
      intro v hv; rw [hcs] at hv; obtain ⟨z, _, rfl⟩ := List.mem_map.1 hv; rfl
    have HC : Hid (cs = zs.map (Value.int .u8)) := hcs
    have Hc : Hid (∀ j u, cs[j]? = some u → w.cell? (ad.add j) = some u) := hc
    have HL : Hid (cs.length = zs.length) := hcl
    clear hcs hc hcl
    go_enter Try.func7, Try.ntmps7
    go_wp2_with (first
      | (at_make; refine wpList_make_full _ rfl _ _ 23 rfl w.heap.size 5 i0 (.int .u8 0) 1 Try.underlying23 hi hz0 hz1 _ _ _ _ zs.length rfl rfl rfl rfl (by rw [hz2]; omega) (by unfold maxLen; omega) (Nat.le_refl _) ?_; intro w1 ho1 hg1; obtain ⟨cur, hr, hl⟩ := row_of ho1; have HR : Hid (w1.heap[w.heap.size]? = some (.cells cur.toArray 5 (0, 0))) := hr; have HLL : Hid (cur.length = zs.length) := (by simpa using hl : cur.length = zs.length); clear hr hl ho1)
      | (refine wpList_copy_splice rfl (.tmp 9) (.tmp 10) 23 23 rfl 5 Try.underlying23 hsz (some ⟨w.heap.size, 0, none⟩) (some ad) zs.length zs.length zs.length cap rfl rfl w.heap.size 0 cur 5 HR.out cs (by have := HL.out; simp [this]) (fun _ => ⟨rfl, ad, rfl, fun j v hv => ((grownBy.below hg1).cell (World.block_lt_of_cell? _ _ (Hc.out j v hv))).trans (Hc.out j v hv)⟩) (by have := HL.out; have := HLL.out; omega) h1 w.heap.size w (grownBy.below hg1) (Nat.le_refl _) ?_; intro w2 hr2 hb2)
      | fail)
    go_ret
    refine ⟨_, rfl, own_of_row (Nat.le_refl _) hn ?_, hb2⟩
    have := hr2.out
    rw [this]
    simp only [splice, List.take_zero, List.nil_append, Nat.zero_add]
    rw [List.drop_eq_nil_of_le (by have := HL.out; have := HLL.out; omega), List.append_nil, HC.out]

/-- a slice of policies, whichever of the two types, that came in -/
def SrcA (w : World) (v : Value) (rs : List (ByteArray × ByteArray)) : Prop :=
  (v = .slice none 0 0 ∧ rs = []) ∨ ∃ a cap, v = .slice (some a) rs.length cap ∧ (rs = [] ∨ ∃ b off, a = ⟨b, off, none⟩ ∧ ∀ i (h : i < rs.length), w.cell? ⟨b, off + i * 2, none⟩ = some (.string rs[i].1) ∧ w.cell? ⟨b, off + i * 2 + 1, none⟩ = some (.string rs[i].2))
/-- a slice of policies that the law itself made: nil, or a new row's head -/
def Row (t : TypeId) (w : World) (ra : Option Addr) (rs : List (ByteArray × ByteArray)) : Prop :=
  (ra = none ∧ rs = []) ∨ ∃ r R, ra = some ⟨r, 0, none⟩ ∧ w.heap[r]? = some (.cells R t (0, 0)) ∧ R.size = rs.length * 2 ∧ ∀ i (h : i < rs.length), R[i * 2]? = some (.string rs[i].1) ∧ R[i * 2 + 1]? = some (.string rs[i].2)
/-- a row of policies, or a part of it -/
def AudRow (t : TypeId) (w : World) (ra : Option Addr) (rs : List (ByteArray × ByteArray)) : Prop :=
  rs = [] ∨ ∃ r off R, ra = some ⟨r, off, none⟩ ∧ w.heap[r]? = some (.cells R t (0, 0)) ∧ ∀ i (h : i < rs.length), R[off + i * 2]? = some (.string rs[i].1) ∧ R[off + i * 2 + 1]? = some (.string rs[i].2)
theorem info29 : (Try.prog.info? 29).map (fun i => (i.zero, i.size, i.bytes)) = some (some (.agg #[.string ⟨#[]⟩, .string ⟨#[]⟩]), 2, 32) := by kernel_rfl
theorem info37 : (Try.prog.info? 37).map (fun i => (i.zero, i.size, i.bytes)) = some (some (.agg #[.string ⟨#[]⟩, .string ⟨#[]⟩]), 2, 32) := by kernel_rfl
theorem step_row {rs : List (ByteArray × ByteArray)} {R : Array Value} {k : Nat} {ns na : ByteArray}
    (hRc : ∀ i (h : i < rs.length), i < k → R[i * 2]? = some (.string rs[i].1) ∧ R[i * 2 + 1]? = some (.string rs[i].2)) {hk : k < rs.length} (h0 : rs[k].1 = ns) (h1 : rs[k].2 = na) (hR : R.size = rs.length * 2) (hlt : k < rs.length) :
    ∀ i (h : i < rs.length), i < k + 1 → ((R.setIfInBounds (k * 2) (.string ns)).setIfInBounds (k * 2 + 1) (.string na))[i * 2]? = some (.string rs[i].1) ∧ ((R.setIfInBounds (k * 2) (.string ns)).setIfInBounds (k * 2 + 1) (.string na))[i * 2 + 1]? = some (.string rs[i].2) := by
  intro i h hi
  by_cases e : i = k
  · subst e
    subst h0 h1
    simp [Array.getElem?_setIfInBounds, hR]
    omega
  · obtain ⟨r0, r1⟩ := hRc i h (by omega)
    rw [← r0, ← r1]
    simp only [Array.getElem?_setIfInBounds]
    constructor
    · rw [if_neg (by omega), if_neg (by omega)]
    · rw [if_neg (by omega), if_neg (by omega)]

set_option maxHeartbeats 600000 in
theorem clone_audit (v : Value) (rs : List (ByteArray × ByteArray)) (w : World) (hs : SrcA w v rs) (hn : rs.length ≤ 1073741824) :
    Calls Try.prog 6 #[v] w fun e w' => ∃ a, e = .returned (.slice a rs.length rs.length) ∧ Row 29 w' a rs ∧ Below w.heap.size w w' := by
  have hq := fun w a n c => Lib.run_eql_slice_nil (P := Try.prog) w 22 29 a n c 0 0 Try.underlying22
  rcases hs with ⟨rfl, rfl⟩ | ⟨ad, cap, rfl, hc⟩
  · go_enter Try.func6, Try.ntmps6
    go_wp2
    go_ret
    exact ⟨none, rfl, .inl ⟨rfl, rfl⟩, Below.refl _ _⟩
  · obtain ⟨i0, hi, hz0, hz1, hz2⟩ := info_parts info29
    go_enter Try.func6, Try.ntmps6
    go_wp2_with (at_make; refine wpList_make_full _ rfl _ _ 22 rfl w.heap.size 29 i0 (.agg #[.string ⟨#[]⟩, .string ⟨#[]⟩]) 2 Try.underlying22 hi hz0 hz1 _ _ _ _ rs.length rfl rfl rfl rfl (by rw [hz2]; omega) (by unfold maxLen; omega) (Nat.le_refl _) ?_; intro w1 ho1 hg1; obtain ⟨cur, hr, hl⟩ := row_of ho1; have HR : Hid (w1.heap[w.heap.size]? = some (.cells cur.toArray 29 (0, 0))) := hr; have HLL : Hid (cur.length = rs.length * 2) := hl; clear hr hl ho1; have hb1 := grownBy.below hg1; clear hg1)
    go_loopw [4] (fun i wr => ∃ k R, k ≤ rs.length ∧ i = .int .i64 k ∧ wr.heap[w.heap.size]? = some (.cells R 29 (0, 0)) ∧ R.size = rs.length * 2 ∧ (∀ i (h : i < rs.length), i < k → R[i * 2]? = some (.string rs[i].1) ∧ R[i * 2 + 1]? = some (.string rs[i].2)) ∧ Below w.heap.size w wr) (fun i _ => rs.length - (intOf i).toNat)
    case atStart => exact ⟨0, cur.toArray, Nat.zero_le _, rfl, HR.out, by simpa using HLL.out, fun i _ h => absurd h (by omega), hb1⟩
    case round =>
      obtain ⟨k, R, hk, rfl, hR, hRs, hRc, hb⟩ := hrel
      by_cases hlt : k < rs.length
      · rcases hc with h0 | ⟨b, off, rfl, hc⟩
        · rw [h0] at hlt; simp at hlt
        obtain ⟨ns, hns⟩ : ∃ ns, ns = rs[k].1 := ⟨_, rfl⟩
        obtain ⟨na, hna⟩ : ∃ na, na = rs[k].2 := ⟨_, rfl⟩
        have hcl := World.block_lt_of_cell? _ _ (hc k hlt).1
        have e0 : wr.cell? ⟨b, off + k * 2, none⟩ = some (.string ns) := by rw [hns]; exact (hb.cell (by exact hcl)).trans (hc k hlt).1
        have e1 : wr.cell? ⟨b, off + k * 2 + 1, none⟩ = some (.string na) := by rw [hna]; exact (hb.cell (by exact hcl)).trans (hc k hlt).2
        obtain ⟨u0, d0⟩ : ∃ u0, wr.cell? ⟨w.heap.size, k * 2, none⟩ = some u0 := ⟨_, (cell_of_row wr w.heap.size (k * 2) R 29 (0, 0) hR).trans (Array.getElem?_eq_getElem (by omega))⟩
        obtain ⟨u1, d1⟩ : ∃ u1, wr.cell? ⟨w.heap.size, k * 2 + 1, none⟩ = some u1 := ⟨_, (cell_of_row wr w.heap.size (k * 2 + 1) R 29 (0, 0) hR).trans (Array.getElem?_eq_getElem (by omega))⟩
        have f0 : wr.frozen? ⟨w.heap.size, k * 2, none⟩ = false := by simp [World.frozen?, hR]
        have f1 : wr.frozen? ⟨w.heap.size, k * 2 + 1, none⟩ = false := by simp [World.frozen?, hR]
        have hki : (k : Int) < (rs.length : Int) := by omega
        have HS : Hid (rs[k].1 = ns ∧ rs[k].2 = na) := ⟨hns.symm, hna.symm⟩
        have HR2 : Hid (wr.heap[w.heap.size]? = some (.cells R 29 (0, 0))) := hR
        have HRs : Hid (R.size = rs.length * 2) := hRs
        clear hns hna hc hR hRs HR HLL hb1
        go_wp2_with fail
        go_region
        all_goals go_wp2
        all_goals go_roundw
        case rel => exact ⟨k + 1, _, by omega, by go_num, (heap_setCell_same _ _ _ _ _ _ (heap_setCell_same _ _ _ _ _ _ HR2.out)), by simp [HRs.out], step_row hRc HS.out.1 HS.out.2 HRs.out hlt, ((hb.setCell (p := ⟨w.heap.size, _, none⟩) (Nat.le_refl _) _).setCell (p := ⟨w.heap.size, _, none⟩) (Nat.le_refl _) _).drew⟩
        case measure => simp [intOf]; omega
      · go_wp2
        go_ret
        obtain rfl : k = rs.length := by omega
        exact ⟨_, rfl, .inr ⟨w.heap.size, R, rfl, hR, hRs, fun i h => hRc i h h⟩, hb⟩

set_option maxHeartbeats 600000 in
theorem refs_any (v : Value) (rs : List (ByteArray × ByteArray)) (w : World) (hs : SrcA w v rs) (hn : rs.length ≤ 1073741824) :
    Calls Try.prog 8 #[v] w fun e w' => ∃ a, e = .returned (.slice a rs.length rs.length) ∧ Row 37 w' a rs ∧ Below w.heap.size w w' := by
  have hq := fun w a n c => Lib.run_eql_slice_nil (P := Try.prog) w 22 29 a n c 0 0 Try.underlying22
  rcases hs with ⟨rfl, rfl⟩ | ⟨ad, cap, rfl, hc⟩
  · go_enter Try.func8, Try.ntmps8
    go_wp2
    go_ret
    exact ⟨none, rfl, .inl ⟨rfl, rfl⟩, Below.refl _ _⟩
  · obtain ⟨i0, hi, hz0, hz1, hz2⟩ := info_parts info37
    go_enter Try.func8, Try.ntmps8
    go_wp2_with (at_make; refine wpList_make_full _ rfl _ _ 30 rfl w.heap.size 37 i0 (.agg #[.string ⟨#[]⟩, .string ⟨#[]⟩]) 2 Try.underlying30 hi hz0 hz1 _ _ _ _ rs.length rfl rfl rfl rfl (by rw [hz2]; omega) (by unfold maxLen; omega) (Nat.le_refl _) ?_; intro w1 ho1 hg1; obtain ⟨cur, hr, hl⟩ := row_of ho1; have HR : Hid (w1.heap[w.heap.size]? = some (.cells cur.toArray 37 (0, 0))) := hr; have HLL : Hid (cur.length = rs.length * 2) := hl; clear hr hl ho1; have hb1 := grownBy.below hg1; clear hg1)
    go_loopw [4] (fun i wr => ∃ k R, k ≤ rs.length ∧ i = .int .i64 k ∧ wr.heap[w.heap.size]? = some (.cells R 37 (0, 0)) ∧ R.size = rs.length * 2 ∧ (∀ i (h : i < rs.length), i < k → R[i * 2]? = some (.string rs[i].1) ∧ R[i * 2 + 1]? = some (.string rs[i].2)) ∧ Below w.heap.size w wr) (fun i _ => rs.length - (intOf i).toNat)
    case atStart => exact ⟨0, cur.toArray, Nat.zero_le _, rfl, HR.out, by simpa using HLL.out, fun i _ h => absurd h (by omega), hb1⟩
    case round =>
      obtain ⟨k, R, hk, rfl, hR, hRs, hRc, hb⟩ := hrel
      by_cases hlt : k < rs.length
      · rcases hc with h0 | ⟨b, off, rfl, hc⟩
        · rw [h0] at hlt; simp at hlt
        obtain ⟨ns, hns⟩ : ∃ ns, ns = rs[k].1 := ⟨_, rfl⟩
        obtain ⟨na, hna⟩ : ∃ na, na = rs[k].2 := ⟨_, rfl⟩
        have hcl := World.block_lt_of_cell? _ _ (hc k hlt).1
        have e0 : wr.cell? ⟨b, off + k * 2, none⟩ = some (.string ns) := by rw [hns]; exact (hb.cell (by exact hcl)).trans (hc k hlt).1
        have e1 : wr.cell? ⟨b, off + k * 2 + 1, none⟩ = some (.string na) := by rw [hna]; exact (hb.cell (by exact hcl)).trans (hc k hlt).2
        obtain ⟨u0, d0⟩ : ∃ u0, wr.cell? ⟨w.heap.size, k * 2, none⟩ = some u0 := ⟨_, (cell_of_row wr w.heap.size (k * 2) R 37 (0, 0) hR).trans (Array.getElem?_eq_getElem (by omega))⟩
        obtain ⟨u1, d1⟩ : ∃ u1, wr.cell? ⟨w.heap.size, k * 2 + 1, none⟩ = some u1 := ⟨_, (cell_of_row wr w.heap.size (k * 2 + 1) R 37 (0, 0) hR).trans (Array.getElem?_eq_getElem (by omega))⟩
        have f0 : wr.frozen? ⟨w.heap.size, k * 2, none⟩ = false := by simp [World.frozen?, hR]
        have f1 : wr.frozen? ⟨w.heap.size, k * 2 + 1, none⟩ = false := by simp [World.frozen?, hR]
        have hki : (k : Int) < (rs.length : Int) := by omega
        have HS : Hid (rs[k].1 = ns ∧ rs[k].2 = na) := ⟨hns.symm, hna.symm⟩
        have HR2 : Hid (wr.heap[w.heap.size]? = some (.cells R 37 (0, 0))) := hR
        have HRs : Hid (R.size = rs.length * 2) := hRs
        clear hns hna hc hR hRs HR HLL hb1
        go_wp2_with fail
        go_region
        all_goals go_wp2
        all_goals go_roundw
        case rel => exact ⟨k + 1, _, by omega, by go_num, (heap_setCell_same _ _ _ _ _ _ (heap_setCell_same _ _ _ _ _ _ HR2.out)), by simp [HRs.out], step_row hRc HS.out.1 HS.out.2 HRs.out hlt, ((hb.setCell (p := ⟨w.heap.size, _, none⟩) (Nat.le_refl _) _).setCell (p := ⟨w.heap.size, _, none⟩) (Nat.le_refl _) _).drew⟩
        case measure => simp [intOf]; omega
      · go_wp2
        go_ret
        obtain rfl : k = rs.length := by omega
        exact ⟨_, rfl, .inr ⟨w.heap.size, R, rfl, hR, hRs, fun i h => hRc i h h⟩, hb⟩
end Go.Proofs.Qxb6613527a.app
