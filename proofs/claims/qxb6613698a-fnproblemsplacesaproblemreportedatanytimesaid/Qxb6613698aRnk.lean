/-
  zzBefore, zzSamePlace, zzRank.
-/
import Derived.Test.Qxb6613698aPrb
namespace Go.Proofs.Qxb6613698a.srt
open Go.RowKit Go.Proofs.Qxb6613698a.lst
set_option linter.unusedSimpArgs false

/-- a ZZProblem as a value -/
def zp (x : El) : Value := .agg #[.int .i64 x.line, .int .i64 x.col, .string x.entry, .string x.rule, .string x.msg]
def bef (x y : El) : Bool := decide (x.line < y.line ∨ (x.line = y.line ∧ x.col < y.col))
def sam (x y : El) : Bool := decide (x.line = y.line ∧ x.col = y.col)

theorem before_any (l0 k0 l1 k1 : Int) (a0 b0 c0 a1 b1 c1 : ByteArray) (w : World) (b : Bool) (hb : b = decide (l0 < l1 ∨ (l0 = l1 ∧ k0 < k1))) :
    Calls Try.prog 11 #[.agg #[.int .i64 l0, .int .i64 k0, .string a0, .string b0, .string c0], .agg #[.int .i64 l1, .int .i64 k1, .string a1, .string b1, .string c1]] w fun e w' =>
      e = .returned (.bool b) ∧ Below w.heap.size w w' := by
  have hB : ∀ o1 o2 : Obj, Below w.heap.size w ((w.alloc o1).alloc o2) := fun o1 o2 => ((Below.refl _ _).alloc (Nat.le_refl _) _).alloc (by simp) _
  have HB : Hid (b = decide (l0 < l1 ∨ (l0 = l1 ∧ k0 < k1))) := hb
  clear hb
  go_enter Try.func11, Try.ntmps11
  by_cases h1 : l0 < l1
  · have H9 : Hid (b = true) := HB.out.trans (decide_eq_true (Or.inl h1))
    go_wp2
    go_ret
    exact ⟨by rw [H9.out]; rfl, hB _ _⟩
  · by_cases h2 : l0 = l1
    · subst h2
      have h3 : (l0 == l0) = true := by simp
      by_cases h4 : k0 < k1
      · have H9 : Hid (b = true) := HB.out.trans (decide_eq_true (Or.inr ⟨rfl, h4⟩))
        go_wp2
        go_ret
        exact ⟨by rw [H9.out]; rfl, hB _ _⟩
      · have H9 : Hid (b = false) := HB.out.trans (decide_eq_false (by omega))
        go_wp2
        go_ret
        exact ⟨by rw [H9.out]; rfl, hB _ _⟩
    · have h3 : (l0 == l1) = false := by simp [h2]
      have H9 : Hid (b = false) := HB.out.trans (decide_eq_false (by omega))
      go_wp2
      go_ret
      exact ⟨by rw [H9.out]; rfl, hB _ _⟩
theorem same_any (l0 k0 l1 k1 : Int) (a0 b0 c0 a1 b1 c1 : ByteArray) (w : World) (b : Bool) (hb : b = decide (l0 = l1 ∧ k0 = k1)) :
    Calls Try.prog 12 #[.agg #[.int .i64 l0, .int .i64 k0, .string a0, .string b0, .string c0], .agg #[.int .i64 l1, .int .i64 k1, .string a1, .string b1, .string c1]] w fun e w' =>
      e = .returned (.bool b) ∧ Below w.heap.size w w' := by
  have hB : ∀ o1 o2 : Obj, Below w.heap.size w ((w.alloc o1).alloc o2) := fun o1 o2 => ((Below.refl _ _).alloc (Nat.le_refl _) _).alloc (by simp) _
  have HB : Hid (b = decide (l0 = l1 ∧ k0 = k1)) := hb
  clear hb
  go_enter Try.func12, Try.ntmps12
  by_cases h2 : l0 = l1
  · subst h2
    have h3 : (l0 == l0) = true := by simp
    by_cases h4 : k0 = k1
    · have h5 : (k0 == k1) = true := by simp [h4]
      have H4 : Hid (k0 = k1) := h4
      clear h4
      have H9 : Hid (b = true) := HB.out.trans (decide_eq_true ⟨rfl, H4.out⟩)
      go_wp2
      go_ret
      exact ⟨by rw [H9.out]; rfl, hB _ _⟩
    · have h5 : (k0 == k1) = false := by simp [h4]
      have H9 : Hid (b = false) := HB.out.trans (decide_eq_false (by omega))
      go_wp2
      go_ret
      exact ⟨by rw [H9.out]; rfl, hB _ _⟩
  · have h3 : (l0 == l1) = false := by simp [h2]
    have H9 : Hid (b = false) := HB.out.trans (decide_eq_false (by omega))
    go_wp2
    go_ret
    exact ⟨by rw [H9.out]; rfl, hB _ _⟩

/-- the given list of problems, as it lies: n of them from place o of block s on -/
def Src (w : World) (s o n : Nat) (f : Nat → El) : Prop :=
  ∀ j, j < n → w.cell? ⟨s, o + j * 5, none⟩ = some (.int .i64 (f j).line) ∧ w.cell? ⟨s, o + j * 5 + 1, none⟩ = some (.int .i64 (f j).col) ∧ w.cell? ⟨s, o + j * 5 + 2, none⟩ = some (.string (f j).entry) ∧ w.cell? ⟨s, o + j * 5 + 3, none⟩ = some (.string (f j).rule) ∧ w.cell? ⟨s, o + j * 5 + 4, none⟩ = some (.string (f j).msg)
theorem Src.below {w w' : World} {s o n : Nat} {f : Nat → El} (h : Src w s o n f) (hb : Below w.heap.size w w') : Src w' s o n f := by
  intro j hj
  obtain ⟨a0, a1, a2, a3, a4⟩ := h j hj
  have hg : s < w.heap.size := World.block_lt_of_cell? _ _ a0
  have e : ∀ o, w'.cell? ⟨s, o, none⟩ = w.cell? ⟨s, o, none⟩ := fun o => hb.cell (p := ⟨s, o, none⟩) hg
  simp only [e]
  exact ⟨a0, a1, a2, a3, a4⟩
theorem keep10 {s o j i : Nat} {f : Nat → El} {w1 w2 : World} (hb : Below w1.heap.size w1 w2) (h : w1.cell? ⟨s, o + j * 5, none⟩ = some (.int .i64 (f j).line) ∧ w1.cell? ⟨s, o + j * 5 + 1, none⟩ = some (.int .i64 (f j).col) ∧ w1.cell? ⟨s, o + j * 5 + 2, none⟩ = some (.string (f j).entry) ∧ w1.cell? ⟨s, o + j * 5 + 3, none⟩ = some (.string (f j).rule) ∧ w1.cell? ⟨s, o + j * 5 + 4, none⟩ = some (.string (f j).msg) ∧ w1.cell? ⟨s, o + i * 5, none⟩ = some (.int .i64 (f i).line) ∧ w1.cell? ⟨s, o + i * 5 + 1, none⟩ = some (.int .i64 (f i).col) ∧ w1.cell? ⟨s, o + i * 5 + 2, none⟩ = some (.string (f i).entry) ∧ w1.cell? ⟨s, o + i * 5 + 3, none⟩ = some (.string (f i).rule) ∧ w1.cell? ⟨s, o + i * 5 + 4, none⟩ = some (.string (f i).msg)) :
    w2.cell? ⟨s, o + j * 5, none⟩ = some (.int .i64 (f j).line) ∧ w2.cell? ⟨s, o + j * 5 + 1, none⟩ = some (.int .i64 (f j).col) ∧ w2.cell? ⟨s, o + j * 5 + 2, none⟩ = some (.string (f j).entry) ∧ w2.cell? ⟨s, o + j * 5 + 3, none⟩ = some (.string (f j).rule) ∧ w2.cell? ⟨s, o + j * 5 + 4, none⟩ = some (.string (f j).msg) ∧ w2.cell? ⟨s, o + i * 5, none⟩ = some (.int .i64 (f i).line) ∧ w2.cell? ⟨s, o + i * 5 + 1, none⟩ = some (.int .i64 (f i).col) ∧ w2.cell? ⟨s, o + i * 5 + 2, none⟩ = some (.string (f i).entry) ∧ w2.cell? ⟨s, o + i * 5 + 3, none⟩ = some (.string (f i).rule) ∧ w2.cell? ⟨s, o + i * 5 + 4, none⟩ = some (.string (f i).msg) := by
  obtain ⟨a0, a1, a2, a3, a4, b0, b1, b2, b3, b4⟩ := h
  have hg : s < w1.heap.size := World.block_lt_of_cell? _ _ a0
  have e : ∀ o, w2.cell? ⟨s, o, none⟩ = w1.cell? ⟨s, o, none⟩ := fun o => hb.cell (p := ⟨s, o, none⟩) hg
  simp only [e]
  exact ⟨a0, a1, a2, a3, a4, b0, b1, b2, b3, b4⟩
/-- what comes ahead of number i -/
def ahead (f : Nat → El) (i j : Nat) : Bool := bef (f j) (f i) || (decide (j < i) && sam (f j) (f i))
def rk (f : Nat → El) (i j : Nat) : Nat := (List.range j).countP (ahead f i)
theorem rk_succ (f : Nat → El) (i j : Nat) : rk f i (j + 1) = rk f i j + (if ahead f i j = true then 1 else 0) := by
  unfold rk
  rw [List.range_succ, List.countP_append, List.countP_cons, List.countP_nil]
  omega
theorem rk_le (f : Nat → El) (i j : Nat) : rk f i j ≤ j := by
  have := List.countP_le_length (p := ahead f i) (l := List.range j)
  rw [List.length_range] at this
  exact this

set_option maxHeartbeats 4000000 in
set_option maxRecDepth 20000 in
theorem rank_any (s o n cap i : Nat) (f : Nat → El) (w : World) (hS : Src w s o n f) (hi : i < n) (hn : n ≤ 65536) :
    Calls Try.prog 9 #[.slice (some ⟨s, o, none⟩) n cap, .int .i64 (i : Int)] w fun e w' => e = .returned (.int .i64 (rk f i n : Int)) ∧ Below w.heap.size w w' := by
  obtain ⟨res, hres⟩ : ∃ res, res = rk f i n := ⟨_, rfl⟩
  rw [← hres]
  have HRES : Hid (res = rk f i n) := hres
  clear hres
  go_enter Try.func9, Try.ntmps9
  go_wp2
  go_loopw [5, 6] (fun y z wr => ∃ c j : Nat, j ≤ n ∧ c ≤ j ∧ c = rk f i j ∧ y = .int .i64 (c : Int) ∧ z = .int .i64 (j : Int) ∧ Below w.heap.size w wr) (fun _ z _ => n - (intOf z).toNat)
  case atStart => exact ⟨0, 0, Nat.zero_le _, Nat.le_refl _, rfl, rfl, rfl, Below.refl _ _⟩
  case round =>
    obtain ⟨c, j, hj, hcj, hc, rfl, rfl, hB⟩ := hrel
    have HC : Hid (c = rk f i j) := hc
    clear hc
    by_cases hlt : j < n
    · obtain ⟨c0, c1, c2, c3, c4⟩ := (hS.below hB) j hlt
      obtain ⟨d0, d1, d2, d3, d4⟩ := (hS.below hB) i hi
      have hi1 : (j : Int) < (n : Int) := by omega
      have hi2 : (i : Int) < (n : Int) := by omega
      obtain ⟨bs, hbs⟩ : ∃ bs, bs = sam (f j) (f i) := ⟨_, rfl⟩
      have HSM : Hid (bs = sam (f j) (f i)) := hbs
      have hbw := hB.size
      clear hbs hS
      by_cases hbe : bef (f j) (f i) = true
      · have HBE : Hid (true = bef (f j) (f i)) := hbe.symm
        have HA : Hid (ahead f i j = true) := by show _ = _; unfold ahead; rw [hbe]; rfl
        clear hbe
        go_wp2_with fail
        refine wp_region_held_drew (S := fun w' => w'.cell? ⟨s, o + j * 5, none⟩ = some (.int .i64 (f j).line) ∧ w'.cell? ⟨s, o + j * 5 + 1, none⟩ = some (.int .i64 (f j).col) ∧ w'.cell? ⟨s, o + j * 5 + 2, none⟩ = some (.string (f j).entry) ∧ w'.cell? ⟨s, o + j * 5 + 3, none⟩ = some (.string (f j).rule) ∧ w'.cell? ⟨s, o + j * 5 + 4, none⟩ = some (.string (f j).msg) ∧ w'.cell? ⟨s, o + i * 5, none⟩ = some (.int .i64 (f i).line) ∧ w'.cell? ⟨s, o + i * 5 + 1, none⟩ = some (.int .i64 (f i).col) ∧ w'.cell? ⟨s, o + i * 5 + 2, none⟩ = some (.string (f i).entry) ∧ w'.cell? ⟨s, o + i * 5 + 3, none⟩ = some (.string (f i).rule) ∧ w'.cell? ⟨s, o + i * 5 + 4, none⟩ = some (.string (f i).msg)) (by kernel_rfl) ?_ (fun hHeld => ?_)
        · exact ⟨c0, c1, c2, c3, c4, d0, d1, d2, d3, d4⟩
        refine wpAnyH_take (i := 0) (oi := ⟨some 13, _, _, _, _, _⟩) (v := .slice (some ⟨s, o, none⟩) n cap) rfl (by kernel_rfl) (by kernel_rfl) (by kernel_rfl) (fun _ _ _ h => h) (Or.inl ⟨by rfl, fun w hSw => ?_⟩) (by assumption) ?_
        · dsimp only at hSw
          go_simp
        try simp only [Act.put, List.setIfInBounds_toArray, List.set_cons_zero, List.set_cons_succ]
        refine wpAnyH_take (i := 1) (oi := ⟨some 14, _, _, _, _, _⟩) (v := .int .i64 (j : Int)) rfl (by kernel_rfl) (by kernel_rfl) (by kernel_rfl) (fun _ _ _ h => h) (Or.inl ⟨by rfl, fun w hSw => ?_⟩) (by assumption) ?_
        · dsimp only at hSw
          go_simp
        try simp only [Act.put, List.setIfInBounds_toArray, List.set_cons_zero, List.set_cons_succ]
        refine wpAnyH_take (i := 2) (oi := ⟨some 15, _, _, _, _, _⟩) (v := .pointer (some ⟨s, o + j * 5, none⟩)) rfl (by kernel_rfl) (by kernel_rfl) (by kernel_rfl) (fun _ _ _ h => h) (Or.inl ⟨by rfl, fun w hSw => ?_⟩) (by assumption) ?_
        · dsimp only at hSw
          go_simp
        try simp only [Act.put, List.setIfInBounds_toArray, List.set_cons_zero, List.set_cons_succ]
        refine wpAnyH_take (i := 3) (oi := ⟨some 16, _, _, _, _, _⟩) (v := .agg #[.int .i64 (f j).line, .int .i64 (f j).col, .string (f j).entry, .string (f j).rule, .string (f j).msg]) rfl (by kernel_rfl) (by kernel_rfl) (by kernel_rfl) (fun _ _ _ h => h) (Or.inl ⟨by rfl, fun w hSw => ?_⟩) (by assumption) ?_
        · dsimp only at hSw
          go_simp
        try simp only [Act.put, List.setIfInBounds_toArray, List.set_cons_zero, List.set_cons_succ]
        refine wpAnyH_take (i := 4) (oi := ⟨some 17, _, _, _, _, _⟩) (v := .slice (some ⟨s, o, none⟩) n cap) rfl (by kernel_rfl) (by kernel_rfl) (by kernel_rfl) (fun _ _ _ h => h) (Or.inl ⟨by rfl, fun w hSw => ?_⟩) (by assumption) ?_
        · dsimp only at hSw
          go_simp
        try simp only [Act.put, List.setIfInBounds_toArray, List.set_cons_zero, List.set_cons_succ]
        refine wpAnyH_take (i := 5) (oi := ⟨some 18, _, _, _, _, _⟩) (v := .int .i64 (i : Int)) rfl (by kernel_rfl) (by kernel_rfl) (by kernel_rfl) (fun _ _ _ h => h) (Or.inl ⟨by rfl, fun w hSw => ?_⟩) (by assumption) ?_
        · dsimp only at hSw
          go_simp
        try simp only [Act.put, List.setIfInBounds_toArray, List.set_cons_zero, List.set_cons_succ]
        refine wpAnyH_take (i := 6) (oi := ⟨some 19, _, _, _, _, _⟩) (v := .pointer (some ⟨s, o + i * 5, none⟩)) rfl (by kernel_rfl) (by kernel_rfl) (by kernel_rfl) (fun _ _ _ h => h) (Or.inl ⟨by rfl, fun w hSw => ?_⟩) (by assumption) ?_
        · dsimp only at hSw
          go_simp
        try simp only [Act.put, List.setIfInBounds_toArray, List.set_cons_zero, List.set_cons_succ]
        refine wpAnyH_take (i := 7) (oi := ⟨some 20, _, _, _, _, _⟩) (v := .agg #[.int .i64 (f i).line, .int .i64 (f i).col, .string (f i).entry, .string (f i).rule, .string (f i).msg]) rfl (by kernel_rfl) (by kernel_rfl) (by kernel_rfl) (fun _ _ _ h => h) (Or.inl ⟨by rfl, fun w hSw => ?_⟩) (by assumption) ?_
        · dsimp only at hSw
          go_simp
        try simp only [Act.put, List.setIfInBounds_toArray, List.set_cons_zero, List.set_cons_succ]
        refine wpAnyH_ready (rs := [8]) (by kernel_rfl) (by simp) ?_
        refine AllReadyH.cons (o := ⟨some 21, _, _, _, _, _⟩) rfl (fun K hK => ?_) AllReadyH.nil
        go_simp
        go_at_call 11
        refine (before_any (f j).line (f j).col (f i).line (f i).col (f j).entry (f j).rule (f j).msg (f i).entry (f i).rule (f i).msg _ true HBE.out).mono ?_
        rintro e w5 ⟨rfl, hb5⟩
        go_wp2_with fail
        refine hK.out _ _ ?_ (fun hHeld => ?_)
        · exact keep10 (by assumption) (by assumption)
        clear hK K
        try simp only [Act.put, List.setIfInBounds_toArray, List.set_cons_zero, List.set_cons_succ]
        refine wpAnyH_take (i := 9) (oi := ⟨some 22, _, _, _, _, _⟩) (v := .bool true) rfl (by kernel_rfl) (by kernel_rfl) (by kernel_rfl) (fun _ _ _ h => h) (Or.inl ⟨by rfl, fun w hSw => ?_⟩) (by assumption) ?_
        · dsimp only at hSw
          go_simp
        try simp only [Act.put, List.setIfInBounds_toArray, List.set_cons_zero, List.set_cons_succ]
        refine wpAnyH_take (i := 10) (oi := ⟨some 23, _, _, _, _, _⟩) (v := undef) rfl (by kernel_rfl) (by kernel_rfl) (by kernel_rfl) (fun _ _ _ h => h) (Or.inr ⟨by rfl, rfl⟩) (by assumption) ?_
        try simp only [Act.put, List.setIfInBounds_toArray, List.set_cons_zero, List.set_cons_succ]
        refine wpAnyH_take (i := 11) (oi := ⟨some 24, _, _, _, _, _⟩) (v := undef) rfl (by kernel_rfl) (by kernel_rfl) (by kernel_rfl) (fun _ _ _ h => h) (Or.inr ⟨by rfl, rfl⟩) (by assumption) ?_
        try simp only [Act.put, List.setIfInBounds_toArray, List.set_cons_zero, List.set_cons_succ]
        refine wpAnyH_take (i := 12) (oi := ⟨some 25, _, _, _, _, _⟩) (v := undef) rfl (by kernel_rfl) (by kernel_rfl) (by kernel_rfl) (fun _ _ _ h => h) (Or.inr ⟨by rfl, rfl⟩) (by assumption) ?_
        try simp only [Act.put, List.setIfInBounds_toArray, List.set_cons_zero, List.set_cons_succ]
        refine wpAnyH_take (i := 13) (oi := ⟨some 26, _, _, _, _, _⟩) (v := undef) rfl (by kernel_rfl) (by kernel_rfl) (by kernel_rfl) (fun _ _ _ h => h) (Or.inr ⟨by rfl, rfl⟩) (by assumption) ?_
        try simp only [Act.put, List.setIfInBounds_toArray, List.set_cons_zero, List.set_cons_succ]
        refine wpAnyH_take (i := 14) (oi := ⟨some 27, _, _, _, _, _⟩) (v := undef) rfl (by kernel_rfl) (by kernel_rfl) (by kernel_rfl) (fun _ _ _ h => h) (Or.inr ⟨by rfl, rfl⟩) (by assumption) ?_
        try simp only [Act.put, List.setIfInBounds_toArray, List.set_cons_zero, List.set_cons_succ]
        refine wpAnyH_take (i := 15) (oi := ⟨some 28, _, _, _, _, _⟩) (v := undef) rfl (by kernel_rfl) (by kernel_rfl) (by kernel_rfl) (fun _ _ _ h => h) (Or.inr ⟨by rfl, rfl⟩) (by assumption) ?_
        try simp only [Act.put, List.setIfInBounds_toArray, List.set_cons_zero, List.set_cons_succ]
        refine wpAnyH_take (i := 16) (oi := ⟨some 29, _, _, _, _, _⟩) (v := undef) rfl (by kernel_rfl) (by kernel_rfl) (by kernel_rfl) (fun _ _ _ h => h) (Or.inr ⟨by rfl, rfl⟩) (by assumption) ?_
        try simp only [Act.put, List.setIfInBounds_toArray, List.set_cons_zero, List.set_cons_succ]
        refine wpAnyH_take (i := 17) (oi := ⟨some 30, _, _, _, _, _⟩) (v := undef) rfl (by kernel_rfl) (by kernel_rfl) (by kernel_rfl) (fun _ _ _ h => h) (Or.inr ⟨by rfl, rfl⟩) (by assumption) ?_
        try simp only [Act.put, List.setIfInBounds_toArray, List.set_cons_zero, List.set_cons_succ]
        refine wpAnyH_take (i := 18) (oi := ⟨some 31, _, _, _, _, _⟩) (v := undef) rfl (by kernel_rfl) (by kernel_rfl) (by kernel_rfl) (fun _ _ _ h => h) (Or.inr ⟨by rfl, rfl⟩) (by assumption) ?_
        try simp only [Act.put, List.setIfInBounds_toArray, List.set_cons_zero, List.set_cons_succ]
        refine wpAnyH_take (i := 19) (oi := ⟨some 32, _, _, _, _, _⟩) (v := undef) rfl (by kernel_rfl) (by kernel_rfl) (by kernel_rfl) (fun _ _ _ h => h) (Or.inr ⟨by rfl, rfl⟩) (by assumption) ?_
        try simp only [Act.put, List.setIfInBounds_toArray, List.set_cons_zero, List.set_cons_succ]
        refine wpAnyH_take (i := 20) (oi := ⟨some 33, _, _, _, _, _⟩) (v := undef) rfl (by kernel_rfl) (by kernel_rfl) (by kernel_rfl) (fun _ _ _ h => h) (Or.inr ⟨by rfl, rfl⟩) (by assumption) ?_
        try simp only [Act.put, List.setIfInBounds_toArray, List.set_cons_zero, List.set_cons_succ]
        refine wpAnyH_take (i := 21) (oi := ⟨some 34, _, _, _, _, _⟩) (v := undef) rfl (by kernel_rfl) (by kernel_rfl) (by kernel_rfl) (fun _ _ _ h => h) (Or.inr ⟨by rfl, rfl⟩) (by assumption) ?_
        try simp only [Act.put, List.setIfInBounds_toArray, List.set_cons_zero, List.set_cons_succ]
        refine wpAnyH_take (i := 22) (oi := ⟨some 35, _, _, _, _, _⟩) (v := undef) rfl (by kernel_rfl) (by kernel_rfl) (by kernel_rfl) (fun _ _ _ h => h) (Or.inr ⟨by rfl, rfl⟩) (by assumption) ?_
        try simp only [Act.put, List.setIfInBounds_toArray, List.set_cons_zero, List.set_cons_succ]
        refine wpAnyH_take (i := 23) (oi := ⟨some 36, _, _, _, _, _⟩) (v := undef) rfl (by kernel_rfl) (by kernel_rfl) (by kernel_rfl) (fun _ _ _ h => h) (Or.inr ⟨by rfl, rfl⟩) (by assumption) ?_
        try simp only [Act.put, List.setIfInBounds_toArray, List.set_cons_zero, List.set_cons_succ]
        refine wpAnyH_take (i := 24) (oi := ⟨some 37, _, _, _, _, _⟩) (v := .bool true) rfl (by kernel_rfl) (by kernel_rfl) (by kernel_rfl) (fun _ _ _ h => h) (Or.inl ⟨by rfl, fun w hSw => ?_⟩) (by assumption) ?_
        · dsimp only at hSw
          go_simp
        try simp only [Act.put, List.setIfInBounds_toArray, List.set_cons_zero, List.set_cons_succ]
        refine wpAnyH_done (by kernel_rfl) ?_ _
        go_wp2
        go_roundw
        case rel => exact ⟨c + 1, j + 1, by omega, by omega, by rw [rk_succ, ← HC.out, if_pos HA.out], by go_num, by go_num, hB.drew.trans (hb5.mono hbw)⟩
        case measure => simp [intOf]; omega
      · have hbf : bef (f j) (f i) = false := by simpa using hbe
        have HBE : Hid (false = bef (f j) (f i)) := hbf.symm
        clear hbe
        by_cases hji : j < i
        · have hji' : (j : Int) < (i : Int) := by omega
          have HA : Hid (ahead f i j = bs) := by show _ = _; unfold ahead; rw [hbf, HSM.out, decide_eq_true hji]; rfl
          clear hbf
          go_wp2_with fail
          refine wp_region_held_drew (S := fun w' => w'.cell? ⟨s, o + j * 5, none⟩ = some (.int .i64 (f j).line) ∧ w'.cell? ⟨s, o + j * 5 + 1, none⟩ = some (.int .i64 (f j).col) ∧ w'.cell? ⟨s, o + j * 5 + 2, none⟩ = some (.string (f j).entry) ∧ w'.cell? ⟨s, o + j * 5 + 3, none⟩ = some (.string (f j).rule) ∧ w'.cell? ⟨s, o + j * 5 + 4, none⟩ = some (.string (f j).msg) ∧ w'.cell? ⟨s, o + i * 5, none⟩ = some (.int .i64 (f i).line) ∧ w'.cell? ⟨s, o + i * 5 + 1, none⟩ = some (.int .i64 (f i).col) ∧ w'.cell? ⟨s, o + i * 5 + 2, none⟩ = some (.string (f i).entry) ∧ w'.cell? ⟨s, o + i * 5 + 3, none⟩ = some (.string (f i).rule) ∧ w'.cell? ⟨s, o + i * 5 + 4, none⟩ = some (.string (f i).msg)) (by kernel_rfl) ?_ (fun hHeld => ?_)
          · exact ⟨c0, c1, c2, c3, c4, d0, d1, d2, d3, d4⟩
          refine wpAnyH_take (i := 0) (oi := ⟨some 13, _, _, _, _, _⟩) (v := .slice (some ⟨s, o, none⟩) n cap) rfl (by kernel_rfl) (by kernel_rfl) (by kernel_rfl) (fun _ _ _ h => h) (Or.inl ⟨by rfl, fun w hSw => ?_⟩) (by assumption) ?_
          · dsimp only at hSw
            go_simp
          try simp only [Act.put, List.setIfInBounds_toArray, List.set_cons_zero, List.set_cons_succ]
          refine wpAnyH_take (i := 1) (oi := ⟨some 14, _, _, _, _, _⟩) (v := .int .i64 (j : Int)) rfl (by kernel_rfl) (by kernel_rfl) (by kernel_rfl) (fun _ _ _ h => h) (Or.inl ⟨by rfl, fun w hSw => ?_⟩) (by assumption) ?_
          · dsimp only at hSw
            go_simp
          try simp only [Act.put, List.setIfInBounds_toArray, List.set_cons_zero, List.set_cons_succ]
          refine wpAnyH_take (i := 2) (oi := ⟨some 15, _, _, _, _, _⟩) (v := .pointer (some ⟨s, o + j * 5, none⟩)) rfl (by kernel_rfl) (by kernel_rfl) (by kernel_rfl) (fun _ _ _ h => h) (Or.inl ⟨by rfl, fun w hSw => ?_⟩) (by assumption) ?_
          · dsimp only at hSw
            go_simp
          try simp only [Act.put, List.setIfInBounds_toArray, List.set_cons_zero, List.set_cons_succ]
          refine wpAnyH_take (i := 3) (oi := ⟨some 16, _, _, _, _, _⟩) (v := .agg #[.int .i64 (f j).line, .int .i64 (f j).col, .string (f j).entry, .string (f j).rule, .string (f j).msg]) rfl (by kernel_rfl) (by kernel_rfl) (by kernel_rfl) (fun _ _ _ h => h) (Or.inl ⟨by rfl, fun w hSw => ?_⟩) (by assumption) ?_
          · dsimp only at hSw
            go_simp
          try simp only [Act.put, List.setIfInBounds_toArray, List.set_cons_zero, List.set_cons_succ]
          refine wpAnyH_take (i := 4) (oi := ⟨some 17, _, _, _, _, _⟩) (v := .slice (some ⟨s, o, none⟩) n cap) rfl (by kernel_rfl) (by kernel_rfl) (by kernel_rfl) (fun _ _ _ h => h) (Or.inl ⟨by rfl, fun w hSw => ?_⟩) (by assumption) ?_
          · dsimp only at hSw
            go_simp
          try simp only [Act.put, List.setIfInBounds_toArray, List.set_cons_zero, List.set_cons_succ]
          refine wpAnyH_take (i := 5) (oi := ⟨some 18, _, _, _, _, _⟩) (v := .int .i64 (i : Int)) rfl (by kernel_rfl) (by kernel_rfl) (by kernel_rfl) (fun _ _ _ h => h) (Or.inl ⟨by rfl, fun w hSw => ?_⟩) (by assumption) ?_
          · dsimp only at hSw
            go_simp
          try simp only [Act.put, List.setIfInBounds_toArray, List.set_cons_zero, List.set_cons_succ]
          refine wpAnyH_take (i := 6) (oi := ⟨some 19, _, _, _, _, _⟩) (v := .pointer (some ⟨s, o + i * 5, none⟩)) rfl (by kernel_rfl) (by kernel_rfl) (by kernel_rfl) (fun _ _ _ h => h) (Or.inl ⟨by rfl, fun w hSw => ?_⟩) (by assumption) ?_
          · dsimp only at hSw
            go_simp
          try simp only [Act.put, List.setIfInBounds_toArray, List.set_cons_zero, List.set_cons_succ]
          refine wpAnyH_take (i := 7) (oi := ⟨some 20, _, _, _, _, _⟩) (v := .agg #[.int .i64 (f i).line, .int .i64 (f i).col, .string (f i).entry, .string (f i).rule, .string (f i).msg]) rfl (by kernel_rfl) (by kernel_rfl) (by kernel_rfl) (fun _ _ _ h => h) (Or.inl ⟨by rfl, fun w hSw => ?_⟩) (by assumption) ?_
          · dsimp only at hSw
            go_simp
          try simp only [Act.put, List.setIfInBounds_toArray, List.set_cons_zero, List.set_cons_succ]
          refine wpAnyH_ready (rs := [8]) (by kernel_rfl) (by simp) ?_
          refine AllReadyH.cons (o := ⟨some 21, _, _, _, _, _⟩) rfl (fun K hK => ?_) AllReadyH.nil
          go_simp
          go_at_call 11
          refine (before_any (f j).line (f j).col (f i).line (f i).col (f j).entry (f j).rule (f j).msg (f i).entry (f i).rule (f i).msg _ false HBE.out).mono ?_
          rintro e w5 ⟨rfl, hb5⟩
          go_wp2_with fail
          refine hK.out _ _ ?_ (fun hHeld => ?_)
          · exact keep10 (by assumption) (by assumption)
          clear hK K
          try simp only [Act.put, List.setIfInBounds_toArray, List.set_cons_zero, List.set_cons_succ]
          refine wpAnyH_take (i := 9) (oi := ⟨some 22, _, _, _, _, _⟩) (v := .bool false) rfl (by kernel_rfl) (by kernel_rfl) (by kernel_rfl) (fun _ _ _ h => h) (Or.inl ⟨by rfl, fun w hSw => ?_⟩) (by assumption) ?_
          · dsimp only at hSw
            go_simp
          try simp only [Act.put, List.setIfInBounds_toArray, List.set_cons_zero, List.set_cons_succ]
          refine wpAnyH_take (i := 10) (oi := ⟨some 23, _, _, _, _, _⟩) (v := .int .i64 (j : Int)) rfl (by kernel_rfl) (by kernel_rfl) (by kernel_rfl) (fun _ _ _ h => h) (Or.inl ⟨by rfl, fun w hSw => ?_⟩) (by assumption) ?_
          · dsimp only at hSw
            go_simp
          try simp only [Act.put, List.setIfInBounds_toArray, List.set_cons_zero, List.set_cons_succ]
          refine wpAnyH_take (i := 11) (oi := ⟨some 24, _, _, _, _, _⟩) (v := .int .i64 (i : Int)) rfl (by kernel_rfl) (by kernel_rfl) (by kernel_rfl) (fun _ _ _ h => h) (Or.inl ⟨by rfl, fun w hSw => ?_⟩) (by assumption) ?_
          · dsimp only at hSw
            go_simp
          try simp only [Act.put, List.setIfInBounds_toArray, List.set_cons_zero, List.set_cons_succ]
          refine wpAnyH_take (i := 12) (oi := ⟨some 25, _, _, _, _, _⟩) (v := .bool true) rfl (by kernel_rfl) (by kernel_rfl) (by kernel_rfl) (fun _ _ _ h => h) (Or.inl ⟨by rfl, fun w hSw => ?_⟩) (by assumption) ?_
          · dsimp only at hSw
            go_simp
          try simp only [Act.put, List.setIfInBounds_toArray, List.set_cons_zero, List.set_cons_succ]
          refine wpAnyH_take (i := 13) (oi := ⟨some 26, _, _, _, _, _⟩) (v := .bool true) rfl (by kernel_rfl) (by kernel_rfl) (by kernel_rfl) (fun _ _ _ h => h) (Or.inl ⟨by rfl, fun w hSw => ?_⟩) (by assumption) ?_
          · dsimp only at hSw
            go_simp
          try simp only [Act.put, List.setIfInBounds_toArray, List.set_cons_zero, List.set_cons_succ]
          refine wpAnyH_take (i := 14) (oi := ⟨some 27, _, _, _, _, _⟩) (v := .slice (some ⟨s, o, none⟩) n cap) rfl (by kernel_rfl) (by kernel_rfl) (by kernel_rfl) (fun _ _ _ h => h) (Or.inl ⟨by rfl, fun w hSw => ?_⟩) (by assumption) ?_
          · dsimp only at hSw
            go_simp
          try simp only [Act.put, List.setIfInBounds_toArray, List.set_cons_zero, List.set_cons_succ]
          refine wpAnyH_take (i := 15) (oi := ⟨some 28, _, _, _, _, _⟩) (v := .int .i64 (j : Int)) rfl (by kernel_rfl) (by kernel_rfl) (by kernel_rfl) (fun _ _ _ h => h) (Or.inl ⟨by rfl, fun w hSw => ?_⟩) (by assumption) ?_
          · dsimp only at hSw
            go_simp
          try simp only [Act.put, List.setIfInBounds_toArray, List.set_cons_zero, List.set_cons_succ]
          refine wpAnyH_take (i := 16) (oi := ⟨some 29, _, _, _, _, _⟩) (v := .pointer (some ⟨s, o + j * 5, none⟩)) rfl (by kernel_rfl) (by kernel_rfl) (by kernel_rfl) (fun _ _ _ h => h) (Or.inl ⟨by rfl, fun w hSw => ?_⟩) (by assumption) ?_
          · dsimp only at hSw
            go_simp
          try simp only [Act.put, List.setIfInBounds_toArray, List.set_cons_zero, List.set_cons_succ]
          refine wpAnyH_take (i := 17) (oi := ⟨some 30, _, _, _, _, _⟩) (v := .agg #[.int .i64 (f j).line, .int .i64 (f j).col, .string (f j).entry, .string (f j).rule, .string (f j).msg]) rfl (by kernel_rfl) (by kernel_rfl) (by kernel_rfl) (fun _ _ _ h => h) (Or.inl ⟨by rfl, fun w hSw => ?_⟩) (by assumption) ?_
          · dsimp only at hSw
            go_simp
          try simp only [Act.put, List.setIfInBounds_toArray, List.set_cons_zero, List.set_cons_succ]
          refine wpAnyH_take (i := 18) (oi := ⟨some 31, _, _, _, _, _⟩) (v := .slice (some ⟨s, o, none⟩) n cap) rfl (by kernel_rfl) (by kernel_rfl) (by kernel_rfl) (fun _ _ _ h => h) (Or.inl ⟨by rfl, fun w hSw => ?_⟩) (by assumption) ?_
          · dsimp only at hSw
            go_simp
          try simp only [Act.put, List.setIfInBounds_toArray, List.set_cons_zero, List.set_cons_succ]
          refine wpAnyH_take (i := 19) (oi := ⟨some 32, _, _, _, _, _⟩) (v := .int .i64 (i : Int)) rfl (by kernel_rfl) (by kernel_rfl) (by kernel_rfl) (fun _ _ _ h => h) (Or.inl ⟨by rfl, fun w hSw => ?_⟩) (by assumption) ?_
          · dsimp only at hSw
            go_simp
          try simp only [Act.put, List.setIfInBounds_toArray, List.set_cons_zero, List.set_cons_succ]
          refine wpAnyH_take (i := 20) (oi := ⟨some 33, _, _, _, _, _⟩) (v := .pointer (some ⟨s, o + i * 5, none⟩)) rfl (by kernel_rfl) (by kernel_rfl) (by kernel_rfl) (fun _ _ _ h => h) (Or.inl ⟨by rfl, fun w hSw => ?_⟩) (by assumption) ?_
          · dsimp only at hSw
            go_simp
          try simp only [Act.put, List.setIfInBounds_toArray, List.set_cons_zero, List.set_cons_succ]
          refine wpAnyH_take (i := 21) (oi := ⟨some 34, _, _, _, _, _⟩) (v := .agg #[.int .i64 (f i).line, .int .i64 (f i).col, .string (f i).entry, .string (f i).rule, .string (f i).msg]) rfl (by kernel_rfl) (by kernel_rfl) (by kernel_rfl) (fun _ _ _ h => h) (Or.inl ⟨by rfl, fun w hSw => ?_⟩) (by assumption) ?_
          · dsimp only at hSw
            go_simp
          try simp only [Act.put, List.setIfInBounds_toArray, List.set_cons_zero, List.set_cons_succ]
          refine wpAnyH_ready (rs := [22]) (by kernel_rfl) (by simp) ?_
          refine AllReadyH.cons (o := ⟨some 35, _, _, _, _, _⟩) rfl (fun K hK => ?_) AllReadyH.nil
          go_simp
          go_at_call 12
          refine (same_any (f j).line (f j).col (f i).line (f i).col (f j).entry (f j).rule (f j).msg (f i).entry (f i).rule (f i).msg _ bs HSM.out).mono ?_
          rintro e w6 ⟨rfl, hb6⟩
          go_wp2_with fail
          refine hK.out _ _ ?_ (fun hHeld => ?_)
          · exact keep10 (by assumption) (by assumption)
          clear hK K
          try simp only [Act.put, List.setIfInBounds_toArray, List.set_cons_zero, List.set_cons_succ]
          refine wpAnyH_take (i := 23) (oi := ⟨some 36, _, _, _, _, _⟩) (v := .bool bs) rfl (by kernel_rfl) (by kernel_rfl) (by kernel_rfl) (fun _ _ _ h => h) (Or.inl ⟨by rfl, fun w hSw => ?_⟩) (by assumption) ?_
          · dsimp only at hSw
            go_simp
          try simp only [Act.put, List.setIfInBounds_toArray, List.set_cons_zero, List.set_cons_succ]
          refine wpAnyH_take (i := 24) (oi := ⟨some 37, _, _, _, _, _⟩) (v := .bool bs) rfl (by kernel_rfl) (by kernel_rfl) (by kernel_rfl) (fun _ _ _ h => h) (Or.inl ⟨by rfl, fun w hSw => ?_⟩) (by assumption) ?_
          · dsimp only at hSw
            go_simp
          try simp only [Act.put, List.setIfInBounds_toArray, List.set_cons_zero, List.set_cons_succ]
          refine wpAnyH_done (by kernel_rfl) ?_ _
          have hb7 := (hB.drew.trans (hb5.mono hbw)).trans (hb6.mono (Nat.le_trans hbw hb5.size))
          cases bs with
          | true =>
            go_wp2
            go_roundw
            case rel => exact ⟨c + 1, j + 1, by omega, by omega, by rw [rk_succ, ← HC.out, if_pos HA.out], by go_num, by go_num, hb7⟩
            case measure => simp [intOf]; omega
          | false =>
            go_wp2
            go_roundw
            case rel => exact ⟨c, j + 1, by omega, by omega, by rw [rk_succ, ← HC.out, HA.out]; rfl, rfl, by go_num, hb7⟩
            case measure => simp [intOf]; omega
        · have hji' : ¬ (j : Int) < (i : Int) := by omega
          have HA : Hid (ahead f i j = false) := by show _ = _; unfold ahead; rw [hbf, decide_eq_false hji]; rfl
          clear hbf
          go_wp2_with fail
          refine wp_region_held_drew (S := fun w' => w'.cell? ⟨s, o + j * 5, none⟩ = some (.int .i64 (f j).line) ∧ w'.cell? ⟨s, o + j * 5 + 1, none⟩ = some (.int .i64 (f j).col) ∧ w'.cell? ⟨s, o + j * 5 + 2, none⟩ = some (.string (f j).entry) ∧ w'.cell? ⟨s, o + j * 5 + 3, none⟩ = some (.string (f j).rule) ∧ w'.cell? ⟨s, o + j * 5 + 4, none⟩ = some (.string (f j).msg) ∧ w'.cell? ⟨s, o + i * 5, none⟩ = some (.int .i64 (f i).line) ∧ w'.cell? ⟨s, o + i * 5 + 1, none⟩ = some (.int .i64 (f i).col) ∧ w'.cell? ⟨s, o + i * 5 + 2, none⟩ = some (.string (f i).entry) ∧ w'.cell? ⟨s, o + i * 5 + 3, none⟩ = some (.string (f i).rule) ∧ w'.cell? ⟨s, o + i * 5 + 4, none⟩ = some (.string (f i).msg)) (by kernel_rfl) ?_ (fun hHeld => ?_)
          · exact ⟨c0, c1, c2, c3, c4, d0, d1, d2, d3, d4⟩
          refine wpAnyH_take (i := 0) (oi := ⟨some 13, _, _, _, _, _⟩) (v := .slice (some ⟨s, o, none⟩) n cap) rfl (by kernel_rfl) (by kernel_rfl) (by kernel_rfl) (fun _ _ _ h => h) (Or.inl ⟨by rfl, fun w hSw => ?_⟩) (by assumption) ?_
          · dsimp only at hSw
            go_simp
          try simp only [Act.put, List.setIfInBounds_toArray, List.set_cons_zero, List.set_cons_succ]
          refine wpAnyH_take (i := 1) (oi := ⟨some 14, _, _, _, _, _⟩) (v := .int .i64 (j : Int)) rfl (by kernel_rfl) (by kernel_rfl) (by kernel_rfl) (fun _ _ _ h => h) (Or.inl ⟨by rfl, fun w hSw => ?_⟩) (by assumption) ?_
          · dsimp only at hSw
            go_simp
          try simp only [Act.put, List.setIfInBounds_toArray, List.set_cons_zero, List.set_cons_succ]
          refine wpAnyH_take (i := 2) (oi := ⟨some 15, _, _, _, _, _⟩) (v := .pointer (some ⟨s, o + j * 5, none⟩)) rfl (by kernel_rfl) (by kernel_rfl) (by kernel_rfl) (fun _ _ _ h => h) (Or.inl ⟨by rfl, fun w hSw => ?_⟩) (by assumption) ?_
          · dsimp only at hSw
            go_simp
          try simp only [Act.put, List.setIfInBounds_toArray, List.set_cons_zero, List.set_cons_succ]
          refine wpAnyH_take (i := 3) (oi := ⟨some 16, _, _, _, _, _⟩) (v := .agg #[.int .i64 (f j).line, .int .i64 (f j).col, .string (f j).entry, .string (f j).rule, .string (f j).msg]) rfl (by kernel_rfl) (by kernel_rfl) (by kernel_rfl) (fun _ _ _ h => h) (Or.inl ⟨by rfl, fun w hSw => ?_⟩) (by assumption) ?_
          · dsimp only at hSw
            go_simp
          try simp only [Act.put, List.setIfInBounds_toArray, List.set_cons_zero, List.set_cons_succ]
          refine wpAnyH_take (i := 4) (oi := ⟨some 17, _, _, _, _, _⟩) (v := .slice (some ⟨s, o, none⟩) n cap) rfl (by kernel_rfl) (by kernel_rfl) (by kernel_rfl) (fun _ _ _ h => h) (Or.inl ⟨by rfl, fun w hSw => ?_⟩) (by assumption) ?_
          · dsimp only at hSw
            go_simp
          try simp only [Act.put, List.setIfInBounds_toArray, List.set_cons_zero, List.set_cons_succ]
          refine wpAnyH_take (i := 5) (oi := ⟨some 18, _, _, _, _, _⟩) (v := .int .i64 (i : Int)) rfl (by kernel_rfl) (by kernel_rfl) (by kernel_rfl) (fun _ _ _ h => h) (Or.inl ⟨by rfl, fun w hSw => ?_⟩) (by assumption) ?_
          · dsimp only at hSw
            go_simp
          try simp only [Act.put, List.setIfInBounds_toArray, List.set_cons_zero, List.set_cons_succ]
          refine wpAnyH_take (i := 6) (oi := ⟨some 19, _, _, _, _, _⟩) (v := .pointer (some ⟨s, o + i * 5, none⟩)) rfl (by kernel_rfl) (by kernel_rfl) (by kernel_rfl) (fun _ _ _ h => h) (Or.inl ⟨by rfl, fun w hSw => ?_⟩) (by assumption) ?_
          · dsimp only at hSw
            go_simp
          try simp only [Act.put, List.setIfInBounds_toArray, List.set_cons_zero, List.set_cons_succ]
          refine wpAnyH_take (i := 7) (oi := ⟨some 20, _, _, _, _, _⟩) (v := .agg #[.int .i64 (f i).line, .int .i64 (f i).col, .string (f i).entry, .string (f i).rule, .string (f i).msg]) rfl (by kernel_rfl) (by kernel_rfl) (by kernel_rfl) (fun _ _ _ h => h) (Or.inl ⟨by rfl, fun w hSw => ?_⟩) (by assumption) ?_
          · dsimp only at hSw
            go_simp
          try simp only [Act.put, List.setIfInBounds_toArray, List.set_cons_zero, List.set_cons_succ]
          refine wpAnyH_ready (rs := [8]) (by kernel_rfl) (by simp) ?_
          refine AllReadyH.cons (o := ⟨some 21, _, _, _, _, _⟩) rfl (fun K hK => ?_) AllReadyH.nil
          go_simp
          go_at_call 11
          refine (before_any (f j).line (f j).col (f i).line (f i).col (f j).entry (f j).rule (f j).msg (f i).entry (f i).rule (f i).msg _ false HBE.out).mono ?_
          rintro e w5 ⟨rfl, hb5⟩
          go_wp2_with fail
          refine hK.out _ _ ?_ (fun hHeld => ?_)
          · exact keep10 (by assumption) (by assumption)
          clear hK K
          try simp only [Act.put, List.setIfInBounds_toArray, List.set_cons_zero, List.set_cons_succ]
          refine wpAnyH_take (i := 9) (oi := ⟨some 22, _, _, _, _, _⟩) (v := .bool false) rfl (by kernel_rfl) (by kernel_rfl) (by kernel_rfl) (fun _ _ _ h => h) (Or.inl ⟨by rfl, fun w hSw => ?_⟩) (by assumption) ?_
          · dsimp only at hSw
            go_simp
          try simp only [Act.put, List.setIfInBounds_toArray, List.set_cons_zero, List.set_cons_succ]
          refine wpAnyH_take (i := 10) (oi := ⟨some 23, _, _, _, _, _⟩) (v := .int .i64 (j : Int)) rfl (by kernel_rfl) (by kernel_rfl) (by kernel_rfl) (fun _ _ _ h => h) (Or.inl ⟨by rfl, fun w hSw => ?_⟩) (by assumption) ?_
          · dsimp only at hSw
            go_simp
          try simp only [Act.put, List.setIfInBounds_toArray, List.set_cons_zero, List.set_cons_succ]
          refine wpAnyH_take (i := 11) (oi := ⟨some 24, _, _, _, _, _⟩) (v := .int .i64 (i : Int)) rfl (by kernel_rfl) (by kernel_rfl) (by kernel_rfl) (fun _ _ _ h => h) (Or.inl ⟨by rfl, fun w hSw => ?_⟩) (by assumption) ?_
          · dsimp only at hSw
            go_simp
          try simp only [Act.put, List.setIfInBounds_toArray, List.set_cons_zero, List.set_cons_succ]
          refine wpAnyH_take (i := 12) (oi := ⟨some 25, _, _, _, _, _⟩) (v := .bool false) rfl (by kernel_rfl) (by kernel_rfl) (by kernel_rfl) (fun _ _ _ h => h) (Or.inl ⟨by rfl, fun w hSw => ?_⟩) (by assumption) ?_
          · dsimp only at hSw
            go_simp
          try simp only [Act.put, List.setIfInBounds_toArray, List.set_cons_zero, List.set_cons_succ]
          refine wpAnyH_take (i := 13) (oi := ⟨some 26, _, _, _, _, _⟩) (v := .bool false) rfl (by kernel_rfl) (by kernel_rfl) (by kernel_rfl) (fun _ _ _ h => h) (Or.inl ⟨by rfl, fun w hSw => ?_⟩) (by assumption) ?_
          · dsimp only at hSw
            go_simp
          try simp only [Act.put, List.setIfInBounds_toArray, List.set_cons_zero, List.set_cons_succ]
          refine wpAnyH_take (i := 14) (oi := ⟨some 27, _, _, _, _, _⟩) (v := undef) rfl (by kernel_rfl) (by kernel_rfl) (by kernel_rfl) (fun _ _ _ h => h) (Or.inr ⟨by rfl, rfl⟩) (by assumption) ?_
          try simp only [Act.put, List.setIfInBounds_toArray, List.set_cons_zero, List.set_cons_succ]
          refine wpAnyH_take (i := 15) (oi := ⟨some 28, _, _, _, _, _⟩) (v := undef) rfl (by kernel_rfl) (by kernel_rfl) (by kernel_rfl) (fun _ _ _ h => h) (Or.inr ⟨by rfl, rfl⟩) (by assumption) ?_
          try simp only [Act.put, List.setIfInBounds_toArray, List.set_cons_zero, List.set_cons_succ]
          refine wpAnyH_take (i := 16) (oi := ⟨some 29, _, _, _, _, _⟩) (v := undef) rfl (by kernel_rfl) (by kernel_rfl) (by kernel_rfl) (fun _ _ _ h => h) (Or.inr ⟨by rfl, rfl⟩) (by assumption) ?_
          try simp only [Act.put, List.setIfInBounds_toArray, List.set_cons_zero, List.set_cons_succ]
          refine wpAnyH_take (i := 17) (oi := ⟨some 30, _, _, _, _, _⟩) (v := undef) rfl (by kernel_rfl) (by kernel_rfl) (by kernel_rfl) (fun _ _ _ h => h) (Or.inr ⟨by rfl, rfl⟩) (by assumption) ?_
          try simp only [Act.put, List.setIfInBounds_toArray, List.set_cons_zero, List.set_cons_succ]
          refine wpAnyH_take (i := 18) (oi := ⟨some 31, _, _, _, _, _⟩) (v := undef) rfl (by kernel_rfl) (by kernel_rfl) (by kernel_rfl) (fun _ _ _ h => h) (Or.inr ⟨by rfl, rfl⟩) (by assumption) ?_
          try simp only [Act.put, List.setIfInBounds_toArray, List.set_cons_zero, List.set_cons_succ]
          refine wpAnyH_take (i := 19) (oi := ⟨some 32, _, _, _, _, _⟩) (v := undef) rfl (by kernel_rfl) (by kernel_rfl) (by kernel_rfl) (fun _ _ _ h => h) (Or.inr ⟨by rfl, rfl⟩) (by assumption) ?_
          try simp only [Act.put, List.setIfInBounds_toArray, List.set_cons_zero, List.set_cons_succ]
          refine wpAnyH_take (i := 20) (oi := ⟨some 33, _, _, _, _, _⟩) (v := undef) rfl (by kernel_rfl) (by kernel_rfl) (by kernel_rfl) (fun _ _ _ h => h) (Or.inr ⟨by rfl, rfl⟩) (by assumption) ?_
          try simp only [Act.put, List.setIfInBounds_toArray, List.set_cons_zero, List.set_cons_succ]
          refine wpAnyH_take (i := 21) (oi := ⟨some 34, _, _, _, _, _⟩) (v := undef) rfl (by kernel_rfl) (by kernel_rfl) (by kernel_rfl) (fun _ _ _ h => h) (Or.inr ⟨by rfl, rfl⟩) (by assumption) ?_
          try simp only [Act.put, List.setIfInBounds_toArray, List.set_cons_zero, List.set_cons_succ]
          refine wpAnyH_take (i := 22) (oi := ⟨some 35, _, _, _, _, _⟩) (v := undef) rfl (by kernel_rfl) (by kernel_rfl) (by kernel_rfl) (fun _ _ _ h => h) (Or.inr ⟨by rfl, rfl⟩) (by assumption) ?_
          try simp only [Act.put, List.setIfInBounds_toArray, List.set_cons_zero, List.set_cons_succ]
          refine wpAnyH_take (i := 23) (oi := ⟨some 36, _, _, _, _, _⟩) (v := .bool false) rfl (by kernel_rfl) (by kernel_rfl) (by kernel_rfl) (fun _ _ _ h => h) (Or.inl ⟨by rfl, fun w hSw => ?_⟩) (by assumption) ?_
          · dsimp only at hSw
            go_simp
          try simp only [Act.put, List.setIfInBounds_toArray, List.set_cons_zero, List.set_cons_succ]
          refine wpAnyH_take (i := 24) (oi := ⟨some 37, _, _, _, _, _⟩) (v := .bool false) rfl (by kernel_rfl) (by kernel_rfl) (by kernel_rfl) (fun _ _ _ h => h) (Or.inl ⟨by rfl, fun w hSw => ?_⟩) (by assumption) ?_
          · dsimp only at hSw
            go_simp
          try simp only [Act.put, List.setIfInBounds_toArray, List.set_cons_zero, List.set_cons_succ]
          refine wpAnyH_done (by kernel_rfl) ?_ _
          go_wp2
          go_roundw
          case rel => exact ⟨c, j + 1, by omega, by omega, by rw [rk_succ, ← HC.out, HA.out]; rfl, rfl, by go_num, hB.drew.trans (hb5.mono hbw)⟩
          case measure => simp [intOf]; omega
    · obtain rfl : j = n := by omega
      go_wp2
      go_ret
      exact ⟨by rw [HRES.out, ← HC.out]; rfl, hB⟩
end Go.Proofs.Qxb6613698a.srt
