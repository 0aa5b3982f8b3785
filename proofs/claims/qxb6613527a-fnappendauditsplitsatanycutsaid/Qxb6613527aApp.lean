/-
  The walks of zzPlainEscape and AppendAudit.
-/
import Derived.Test.Qxb6613527aProg
import Derived.Test.Qxb6613527aPlain
import Derived.WalkKit
import Derived.WalkSpells
import Derived.WalkLawsBesides
import Derived.RowKit3
import Derived.Below
import Derived.Outline
import Derived.Lib.AppendStr
import Derived.Deep.RegionWith
namespace Go.Proofs.Qxb6613527a.app
open Go.RowKit Go.Proofs.Qxb6613527a.plain

/-- only rows of bytes from block 'base' on may have been written -/
structure Fr (base : Nat) (w w' : World) : Prop where
  os : w'.os = w.os
  tape : w'.tape = w.tape
  output : w'.output = w.output
  size : w.heap.size ≤ w'.heap.size
  block : ∀ k, k < w.heap.size → (k < base ∨ ¬ ∃ cur, w.heap[k]? = some (.cells cur 5 (0, 0))) → w'.heap[k]? = w.heap[k]?
theorem Fr.refl (base : Nat) (w : World) : Fr base w w := ⟨rfl, rfl, rfl, Nat.le_refl _, fun _ _ _ => rfl⟩
theorem Fr.trans {base : Nat} {a b c : World} (h : Fr base a b) (k : Fr base b c) : Fr base a c :=
  ⟨k.os.trans h.os, k.tape.trans h.tape, k.output.trans h.output, Nat.le_trans h.size k.size, fun i hi hb => by
    have e := h.block i hi hb
    rw [k.block i (Nat.lt_of_lt_of_le hi h.size) (by rw [e]; exact hb), e]⟩
theorem Fr.alloc {base : Nat} {a w : World} (h : Fr base a w) (o : Obj) : Fr base a (w.alloc o) :=
  h.trans ⟨rfl, rfl, rfl, by simp, fun k hk _ => Below.heap_alloc w o k hk⟩
theorem Fr.drew {base : Nat} {a w : World} (h : Fr base a w) : Fr base a w.drew := ⟨h.os, h.tape, h.output, h.size, h.block⟩
theorem Fr.drewN {base : Nat} {a w : World} (h : Fr base a w) (n : Nat) : Fr base a (w.drewN n) := ⟨h.os, h.tape, h.output, h.size, h.block⟩
theorem Fr.grown {base : Nat} {w w' : World} {v : Value} {n : Nat} {xs : List Value} (ho : w.ownsRow base 5 1 v n xs) (hg : w.grownBy w' v.ownBlock) : Fr base w w' :=
  ⟨hg.os, hg.tape, hg.output, hg.size, fun k hk hb => hg.block k hk (fun e => by
    rcases ho.2 with ⟨rfl, _⟩ | ⟨g, cap, cur, rfl, hbg, hgg, _⟩
    · cases e
    · obtain rfl : k = g := by simpa [Value.ownBlock] using e
      rcases hb with hb | hb
      · omega
      · exact hb ⟨cur, hgg⟩)⟩
theorem Fr.below {base : Nat} {w w' : World} (h : Fr base w w') (hb : base ≤ w.heap.size) : Below base w w' := ⟨h.os, h.tape, h.output, h.size, fun k hk => h.block k (by omega) (Or.inl hk)⟩
theorem Fr.other {base : Nat} {w w' : World} (h : Fr base w w') {k : Nat} {C : Array Value} {t : TypeId} (hk : w.heap[k]? = some (.cells C t (0, 0))) (ht : t ≠ 5) : w'.heap[k]? = some (.cells C t (0, 0)) := by
  rw [h.block k (Array.getElem?_eq_some_iff.1 hk).1 (Or.inr (fun ⟨cur, e⟩ => by rw [hk] at e; simp at e; exact ht e.2)), hk]

/-- the slice value v owns the bytes zs, in a block from 'base' on -/
def Own (base : Nat) (w : World) (v : Value) (zs : List Int) : Prop := w.ownsRow base 5 1 v zs.length (zs.map (Value.int .u8))

theorem info5 : (Try.prog.info? 5).map (fun i => (i.zero, i.size, i.bytes)) = some (some (.int .u8 0), 1, 1) := by kernel_rfl

/-- 'append(b, s...)', for the walk -/
theorem app_str {w : World} {ops : Array Oper} {rest : List Oper} {o : Oper} {a : Act} {Q : Exit → Act → World → Prop} (hgd : o.guard = none) (sl x : Operand)
    (ho : o.op = .call { callee := .builtin .append, args := #[sl, x], argTypes := #[23, 9] }) (base : Nat) (v : Value) (zs : List Int) (hs : a.eval sl = v) (hown : Own base w v zs)
    (s : ByteArray) (hx : a.eval x = .string s) (hn : zs.length + s.size ≤ 1073741824) (hb : base ≤ w.heap.size)
    (h : ∀ v' w', Own base w' v' (zs ++ ints s) → Fr base w w' → wpList Try.prog ops Q rest (a.put o.dst v') w') : wpList Try.prog ops Q (o :: rest) a w := by
  obtain ⟨i0, hi, hz0, hz1, hz2⟩ := info_parts info5
  refine Lib.wpList_append_own_string w hgd sl x 23 9 ho base 5 i0 Try.underlying23 Try.underlying9 hi hz0 hz1 hz2 v _ _ hs hown s hx (by unfold maxLen; omega) (by omega) hb ?_
  intro v' w' h1 h2 _
  refine h v' w' ?_ (Fr.grown hown h2)
  unfold Own
  rw [List.length_append, ints_length, List.map_append, ← strCells_ints]
  exact h1
/-- 'append(b, c)', c a byte that lies in a block of its own, for the walk -/
theorem app_byte {w : World} {ops : Array Oper} {rest : List Oper} {o : Oper} {a : Act} {Q : Exit → Act → World → Prop} (hgd : o.guard = none) (sl x : Operand)
    (ho : o.op = .call { callee := .builtin .append, args := #[sl, x], argTypes := #[23, 23] }) (base : Nat) (v : Value) (zs : List Int) (hs : a.eval sl = v) (hown : Own base w v zs)
    (q : Nat) (c : Int) (hx : a.eval x = .slice (some ⟨q, 0, none⟩) 1 1) (hq : w.cell? ⟨q, 0, none⟩ = some (.int .u8 c)) (hn : zs.length ≤ 1073741824) (hb : base ≤ w.heap.size)
    (h : ∀ v' w', Own base w' v' (zs ++ [c]) → Fr base w w' → wpList Try.prog ops Q rest (a.put o.dst v') w') : wpList Try.prog ops Q (o :: rest) a w := by
  obtain ⟨i0, hi, hz0, hz1, hz2⟩ := info_parts info5
  refine wpList_append_own w hgd sl x 23 ho base 5 i0 (.int .u8 0) 1 1 Try.underlying23 hi hz0 hz1 hz2 rfl (by decide) v _ _ hs hown ⟨q, 0, none⟩ 1 1 [.int .u8 c] hx rfl ?_ ?_ (by unfold maxLen; omega) (by omega) hb ?_
  · intro j u hj
    match j, hj with
    | 0, hj => simp at hj; subst hj; simpa [Addr.add] using hq
  · intro u hu; simp at hu; subst hu; rfl
  intro v' w' h1 h2 _
  refine h v' w' ?_ (Fr.grown hown h2)
  unfold Own
  rw [List.length_append, List.map_append]
  exact h1

theorem escape_any (base : Nat) (v : Value) (zs : List Int) (s : ByteArray) (w : World) (ho : Own base w v zs) (hb : base ≤ w.heap.size) (hn : zs.length + s.size ≤ 1073741824) :
    Calls Try.prog 14 #[v, .string s] w fun e w' => ∃ v', e = .returned v' ∧ Own base w' v' (zs ++ ints s) ∧ Fr base w w' := by
  go_enter Try.func14, Try.ntmps14
  go_wp2_with (at_builtin; refine app_str rfl _ _ rfl base _ _ rfl ho s rfl hn hb ?_; intro v' w1 ho1 hf1)
  go_ret
  exact ⟨v', rfl, ho1, hf1⟩

/-- a slice of policies as AppendAudit reads it -/
def Refs (w : World) (ra : Option Addr) (rs : List (ByteArray × ByteArray)) : Prop :=
  rs = [] ∨ ∃ r off R, ra = some ⟨r, off, none⟩ ∧ w.heap[r]? = some (.cells R 37 (0, 0)) ∧ ∀ i (h : i < rs.length), R[off + i * 2]? = some (.string rs[i].1) ∧ R[off + i * 2 + 1]? = some (.string rs[i].2)
theorem Refs.fr {base : Nat} {w w' : World} {ra : Option Addr} {rs : List (ByteArray × ByteArray)} (h : Refs w ra rs) (f : Fr base w w') : Refs w' ra rs := by
  rcases h with h | ⟨r, off, R, h1, h2, h3⟩
  · exact .inl h
  · exact .inr ⟨r, off, R, h1, f.other h2 (by decide), h3⟩
theorem jn_take_le (sep : List Int) (rs : List (ByteArray × ByteArray)) (d : Bool) (k : Nat) (hk : k ≤ rs.length) : (jn sep ((rs.take k).map nm)).length ≤ (body sep rs d).length := by
  rw [split sep rs d k hk, body_plain]
  simp only [List.length_append]
  omega

set_option maxHeartbeats 400000 in
theorem audit_any (base d : Nat) (D : Array Value) (ra : Option Addr) (rc : Nat) (rs : List (ByteArray × ByteArray)) (df : Bool) (v : Value) (zs : List Int) (sep : ByteArray) (w : World)
    (hD : w.heap[d]? = some (.cells D 44 (0, 0))) (hD7 : D[7]? = some (.slice ra rs.length rc)) (hD8 : D[8]? = some (.bool df)) (hR : Refs w ra rs)
    (ho : Own base w v zs) (hb : base ≤ w.heap.size) (hn : zs.length + (body (ints sep) rs df).length ≤ 536870912) (hrn : rs.length ≤ 1073741824) :
    Calls Try.prog 13 #[.pointer (some ⟨d, 0, none⟩), v, .string sep, .func (.func 14) #[] #[]] w fun e w' => ∃ v', e = .returned v' ∧ Own base w' v' (zs ++ body (ints sep) rs df) ∧ Fr base w w' := by
  obtain ⟨i0, hi, hz0, hz1, hz2⟩ := info_parts info5
  have h7 : w.cell? ⟨d, 7, none⟩ = some (.slice ra rs.length rc) := (cell_of_row w d 7 D 44 (0, 0) hD).trans hD7
  go_enter Try.func13, Try.ntmps13
  go_wp2
  go_loopw [1, 16] (fun b i wr => ∃ k : Nat, k ≤ rs.length ∧ i = .int .i64 k ∧ Own base wr b (zs ++ jn (ints sep) ((rs.take k).map nm)) ∧ Fr base w wr) (fun _ i _ => rs.length - (intOf i).toNat)
  case atStart => exact ⟨0, Nat.zero_le _, rfl, by simpa [jn] using ho, Fr.refl _ _⟩
  case round =>
    obtain ⟨k, hk, rfl, hoK, hf⟩ := hrel
    by_cases hlt : k < rs.length
    · rcases hR.fr hf with h0 | ⟨r, off, R, rfl, hRr, hRc⟩
      · rw [h0] at hlt; simp at hlt
      obtain ⟨ns, hns⟩ : ∃ ns, ns = rs[k].1 := ⟨_, rfl⟩
      obtain ⟨na, hna⟩ : ∃ na, na = rs[k].2 := ⟨_, rfl⟩
      have c0 : wr.cell? ⟨r, off + k * 2, none⟩ = some (.string ns) := by rw [hns]; exact (cell_of_row wr r (off + k * 2) R 37 (0, 0) hRr).trans (hRc k hlt).1
      have c1 : wr.cell? ⟨r, off + k * 2 + 1, none⟩ = some (.string na) := by rw [hna]; exact (cell_of_row wr r (off + k * 2 + 1) R 37 (0, 0) hRr).trans (hRc k hlt).2
      have hN : Hid (nm rs[k] = ints ns ++ 47 :: ints na) := by rw [hns, hna]; rfl
      have hl1 := jn_take_le (ints sep) rs df (k + 1) (by omega)
      have hl0 := jn_take_le (ints sep) rs df k (by omega)
      clear hns hna hD7 h7 hR hRr hRc
      obtain ⟨cz, hcz⟩ : ∃ cz, cz = zs ++ jn (ints sep) ((rs.take k).map nm) := ⟨_, rfl⟩
      rw [← hcz] at hoK
      have hsz := hf.size
      by_cases hk0 : 0 < k
      · have hs := step_next (ints sep) rs k hlt hk0
        rw [hs, hN.out] at hl1
        simp only [List.length_append, List.length_cons, ints_length] at hl1
        have hcl : cz.length = zs.length + (jn (ints sep) ((rs.take k).map nm)).length := by rw [hcz, List.length_append]
        have HC : Hid (zs ++ jn (ints sep) ((rs.take (k + 1)).map nm) = cz ++ ints sep ++ ints ns ++ [47] ++ ints na) := by
          show _ = _
          rw [hs, hN.out, hcz]; simp only [List.append_assoc, List.cons_append, List.nil_append]
        have hL : cz.length + sep.size + ns.size + 1 + na.size ≤ 536870912 := by omega
        clear hs hcz hN hl0 hl1 hcl hn
        go_wp2_with (first
          | (at_builtin; refine app_str rfl (.tmp 23) (.tmp 24) rfl base _ cz rfl (hoK.alloc _) sep rfl (by omega) (by simp; omega) ?_; intro v1 w1 ho1 hf1; have r1 := hf1.other (heap_alloc_new wr _) (by decide); have q0 := cell_of_row w1 wr.heap.size 0 _ 37 (0, 0) r1; have q1 := cell_of_row w1 wr.heap.size 1 _ 37 (0, 0) r1; simp at q0 q1; have s1 := hf1.size; simp at s1)
          | (go_at_call_of 14 (Value.string ns); refine (escape_any base _ _ ns _ ho1 (by omega) (by rw [List.length_append, ints_length]; omega)).mono ?_; rintro e w2 ⟨v2, rfl, ho2, hf2⟩; have s2 := hf2.size)
          | (at_builtin; refine app_byte rfl (.tmp 31) (.tmp 32) rfl base _ _ rfl (ho2.alloc _) w2.heap.size 47 rfl (by simp) (by simp only [List.length_append, ints_length]; omega) (by simp; omega) ?_; intro v3 w3 ho3 hf3; have r3 := (hf2.trans ((Fr.refl _ _).alloc _ |>.trans hf3)).other r1 (by decide); have t1 := cell_of_row w3 wr.heap.size 1 _ 37 (0, 0) r3; simp at t1; have s3 := hf3.size; simp at s3)
          | (go_at_call_of 14 (Value.string na); refine (escape_any base _ _ na _ ho3 (by omega) (by simp only [List.length_append, ints_length, List.length_cons, List.length_nil]; omega)).mono ?_; rintro e w4 ⟨v4, rfl, ho4, hf4⟩))
        go_roundw
        case rel => exact ⟨k + 1, by omega, by go_num, by rw [HC.out]; exact ho4, hf.trans (((Fr.refl _ _).alloc _).trans (hf1.trans (hf2.trans (((Fr.refl _ _).alloc _).trans (hf3.trans hf4)))))⟩
        case measure => simp [intOf]; omega
      · obtain rfl : k = 0 := by omega
        have hs : jn (ints sep) ((rs.take (0 + 1)).map nm) = nm rs[0] := by
          cases rs with
          | nil => simp at hlt
          | cons r rs => exact step_first (ints sep) r rs
        rw [hs, hN.out] at hl1
        simp only [List.length_append, List.length_cons, ints_length] at hl1
        have hcz' : cz = zs := by rw [hcz]; simp [jn]
        subst hcz'
        have HC : Hid (cz ++ jn (ints sep) ((rs.take (0 + 1)).map nm) = cz ++ ints ns ++ [47] ++ ints na) := by
          show _ = _
          rw [hs, hN.out]; simp only [List.append_assoc, List.cons_append, List.nil_append]
        have hL : cz.length + ns.size + 1 + na.size ≤ 536870912 := by omega
        clear hs hcz hN hl0 hl1 hn
        simp only [Nat.zero_mul, Nat.add_zero] at c0 c1
        go_wp2_with (first
          | (go_at_call_of 14 (Value.string ns); refine (escape_any base _ _ ns _ (hoK.alloc _) (by simp; omega) (by omega)).mono ?_; rintro e w2 ⟨v2, rfl, ho2, hf2⟩; have s2 := hf2.size; simp at s2; have r1 := hf2.other (heap_alloc_new wr _) (by decide))
          | (at_builtin; refine app_byte rfl (.tmp 31) (.tmp 32) rfl base _ _ rfl (ho2.alloc _) w2.heap.size 47 rfl (by simp) (by simp only [List.length_append, ints_length]; omega) (by simp; omega) ?_; intro v3 w3 ho3 hf3; have r3 := ((Fr.refl _ _).alloc _ |>.trans hf3).other r1 (by decide); have t1 := cell_of_row w3 wr.heap.size 1 _ 37 (0, 0) r3; simp at t1; have s3 := hf3.size; simp at s3)
          | (go_at_call_of 14 (Value.string na); refine (escape_any base _ _ na _ ho3 (by omega) (by simp only [List.length_append, ints_length, List.length_cons, List.length_nil]; omega)).mono ?_; rintro e w4 ⟨v4, rfl, ho4, hf4⟩))
        go_roundw
        case rel => exact ⟨0 + 1, by omega, by go_num, by rw [HC.out]; exact ho4, hf.trans (((Fr.refl _ _).alloc _).trans (hf2.trans (((Fr.refl _ _).alloc _).trans (hf3.trans hf4))))⟩
        case measure => simp [intOf]; omega
    · obtain rfl : k = rs.length := by omega
      rw [List.take_length] at hoK
      have rD := hf.other hD (by decide)
      have d7 : wr.cell? ⟨d, 7, none⟩ = some (.slice ra rs.length rc) := (cell_of_row wr d 7 D 44 (0, 0) rD).trans hD7
      have d8 : wr.cell? ⟨d, 8, none⟩ = some (.bool df) := (cell_of_row wr d 8 D 44 (0, 0) rD).trans hD8
      have hsz := hf.size
      clear hD7 hD8 h7 hD rD hR
      cases df with
      | false =>
        go_wp2
        go_ret
        exact ⟨_, rfl, by rw [body_plain]; exact hoK, hf⟩
      | true =>
        by_cases h0 : 0 < rs.length
        · have hb' : Hid (body (ints sep) rs true = jn (ints sep) (rs.map nm) ++ (ints sep ++ dfl)) := body_default (ints sep) rs (by intro h; subst h; simp at h0)
          rw [hb'.out] at hn
          simp only [List.length_append, ints_length, dfl_length] at hn
          go_wp2_with (first
            | (at_builtin; refine app_str rfl (.tmp 50) (.tmp 51) rfl base _ _ rfl hoK sep rfl (by rw [List.length_append]; omega) (by omega) ?_; intro v1 w1 ho1 hf1; have s1 := hf1.size)
            | (go_at_call 14; refine (escape_any base _ _ _ _ ho1 (by omega) (by simp only [List.length_append, ints_length]; show _ + 22 ≤ _; omega)).mono ?_; rintro e w2 ⟨v2, rfl, ho2, hf2⟩))
          go_ret
          refine ⟨v2, rfl, ?_, hf.trans (hf1.trans hf2)⟩
          rw [hb'.out]
          simp only [List.append_assoc] at ho2
          exact ho2
        · have hnil : rs = [] := List.eq_nil_of_length_eq_zero (by omega)
          subst hnil
          rw [body_only, dfl_length] at hn
          go_wp2_with (go_at_call 14; refine (escape_any base _ _ _ _ hoK (by omega) (by simp [jn]; show _ + 22 ≤ _; omega)).mono ?_; rintro e w2 ⟨v2, rfl, ho2, hf2⟩)
          go_ret
          refine ⟨v2, rfl, ?_, hf.trans hf2⟩
          rw [body_only]
          simp only [jn, List.map_nil, List.append_nil] at ho2
          exact ho2
end Go.Proofs.Qxb6613527a.app
