/-
  A reader and what has been reported to it: NewReader, ZZnewReader, ZZaddFound, zzReport.
-/
import Derived.Test.Qxb6613698aRow
import Derived.Deep.RegionLawGrows
namespace Go.Proofs.Qxb6613698a.srt
open Go.RowKit Go.Proofs.Qxb6613698a.lst
set_option linter.unusedSimpArgs false

def em : Value := .string ByteArray.empty
theorem inf46 : (Try.prog.info? 46).map (fun i => (i.zero, i.size, i.bytes)) = some (some (.agg #[em, em, em, em, .int .i64 0, .int .i64 0]), 6, 80) := by kernel_rfl
theorem inf34 : (Try.prog.info? 34).map (fun i => (i.zero, i.size, i.bytes)) = some (some (.agg #[em, em, em, em]), 4, 64) := by kernel_rfl

/-- append to a row of the call's own, as one step of a region that draws -/
theorem step_append_own {P : Program} {ops : Array Oper} {o : Oper} {a : Act} {w : World} {K : Act → World → Prop} {Q : Exit → Act → World → Prop} {E : Prop}
    (hg : o.guard = none) (s x : Operand) (t : TypeId) (hop : o.op = Op.call { callee := Callee.builtin Builtin.append, args := #[s, x], argTypes := #[t, t] })
    (base : Nat) (e : TypeId) (i : TypeInfo) (z : Value) (size bytes : Nat) (h1 : P.underlying t = some (.slice e)) (h2 : P.info? e = some i) (h3 : i.zero = some z) (h4 : i.size = size) (h5 : i.bytes = bytes) (h6 : z.cells.size = size) (h7 : 0 < size)
    (v : Value) (n : Nat) (olds : List Value) (hs : a.eval s = v) (hown : w.ownsRow base e size v n olds)
    (ad : Addr) (m c : Nat) (news : List Value) (hx : a.eval x = .slice (some ad) m c) (hn : news.length = m * size) (hc : ∀ j u, news[j]? = some u → w.cell? (ad.add j) = some u) (h1c : ∀ u ∈ news, u.oneCell' = true)
    (b1 : n + m ≤ maxLen) (b2 : (n + m) * bytes ≤ 140737488355328) (hb : base ≤ w.heap.size)
    (hK : ∀ v' w', w'.ownsRow base e size v' (n + m) (olds ++ news) → w.grownBy w' v.ownBlock → K (a.put o.dst v') w') :
    if Region.wanted o (yielded ops a.tmps) = true then Oper.wp P o a w K Q else E := by
  have hw : Region.wanted o (yielded ops a.tmps) = true := by simp [Region.wanted, hg]
  rw [if_pos hw]
  obtain ⟨v', w', hrun, r1, r2, _⟩ := run_append_own (P := P) w base t o.type e i z size bytes h1 h2 h3 h4 h5 h6 h7 v n olds hown ad m c news hn hc h1c b1 b2 hb
  unfold Oper.wp
  simp [execOp, hop, resolve, invoke, builtin, hs, hx, hrun, Result.andThen]
  exact hK v' w' r1 r2

/-- the reader in block r: its file, and what has been reported to it, in blocks from base on -/
def Rdr (base : Nat) (w : World) (r : Nat) (file : ByteArray) (es : List El) : Prop :=
  base ≤ r ∧ base ≤ w.heap.size ∧ ∃ v, w.heap[r]? = some (.cells #[.string file, .map none, v] 43 (0, 0)) ∧ w.ownsRow base 46 6 v es.length (es.flatMap cel)

theorem Rdr.grown {base r : Nat} {w w' : World} {file : ByteArray} {es : List El} (h : Rdr base w r file es) (hg : Below w.heap.size w w') : Rdr base w' r file es := by
  obtain ⟨h1, h2, v, h3, h4⟩ := h
  have hb : w.grownBy w' none := ⟨hg.os, hg.tape, hg.output, hg.size, fun k hk _ => hg.block k hk⟩
  exact ⟨h1, Nat.le_trans h2 hg.size, v, (hg.block r (Array.getElem?_eq_some_iff.1 h3).1).trans h3, h4.kept hb (by cases hv : v.ownBlock <;> simp)⟩
theorem Rdr.alloc {base r : Nat} {w : World} {file : ByteArray} {es : List El} (h : Rdr base w r file es) (o : Obj) : Rdr base (w.alloc o) r file es :=
  h.grown ((Below.refl _ _).alloc (Nat.le_refl _) o)
theorem new_any (file : ByteArray) (w : World) : Calls Try.prog 13 #[.string file, .map none] w fun e w' =>
    e = .returned (.pointer (some ⟨w.heap.size, 0, none⟩)) ∧ Rdr w.heap.size w' w.heap.size file [] ∧ Below w.heap.size w w' := by
  go_enter Try.func13, Try.ntmps13
  go_wp2
  go_ret
  refine ⟨rfl, ⟨Nat.le_refl _, by simp, .slice none 0 0, ?_, World.ownsRow_nil _ _ _ _⟩, ?_⟩
  · exact heap_alloc_new w _
  · exact (Below.refl _ _).alloc (Nat.le_refl _) _
theorem znew_any (file : ByteArray) (w : World) : Calls Try.prog 6 #[.string file] w fun e w' =>
    e = .returned (.pointer (some ⟨w.heap.size, 0, none⟩)) ∧ Rdr w.heap.size w' w.heap.size file [] ∧ Below w.heap.size w w' := by
  have hc := new_any file w
  go_enter Try.func6, Try.ntmps6
  go_wp2_with (go_at_call 13; refine hc.mono ?_; rintro e w1 ⟨rfl, h1, h2⟩)
  go_ret
  exact ⟨rfl, h1, h2⟩

theorem cel_one (x : El) : ∀ u ∈ cel x, u.oneCell' = true := by
  intro u hu
  simp only [cel, List.mem_cons, List.not_mem_nil, or_false] at hu
  rcases hu with rfl | rfl | rfl | rfl | rfl | rfl <;> rfl
theorem cel_news (w : World) (x : El) : ∀ j u, (cel x)[j]? = some u → (w.alloc (.cells #[.string x.file, .string x.entry, .string x.rule, .string x.msg, .int .i64 x.line, .int .i64 x.col] 46)).cell? ((⟨w.heap.size, 0, none⟩ : Addr).add j) = some u := by
  intro j u hu
  have hl : j < 6 := by
    have := (List.getElem?_eq_some_iff.1 hu).1
    simpa [cel] using this
  have hadd : (⟨w.heap.size, 0, none⟩ : Addr).add j = ⟨w.heap.size, j, none⟩ := by unfold Addr.add; split <;> simp_all
  rw [hadd, cell_of_row _ _ j _ 46 (0, 0) (heap_alloc_new w _), ← hu]
  match j, hl with
  | 0, _ => rfl
  | 1, _ => rfl
  | 2, _ => rfl
  | 3, _ => rfl
  | 4, _ => rfl
  | 5, _ => rfl

theorem own_form {base e size n : Nat} {w : World} {v : Value} {xs : List Value} (h : w.ownsRow base e size v (n + 1) xs) : ∃ g cap, v = .slice (some ⟨g, 0, none⟩) (n + 1) cap := by
  rcases h.2 with ⟨_, h9⟩ | ⟨g, cap, _, hv, _⟩
  · omega
  · exact ⟨g, cap, hv⟩
theorem keep_r {base r n : Nat} {w w' : World} {v : Value} {xs : List Value} {C : Array Value} {o : Obj} (hr : w.heap[r]? = some (.cells C 43 (0, 0))) (hown : w.ownsRow base 46 6 v n xs) (hg : (w.alloc o).drew.grownBy w' v.ownBlock) : w'.heap[r]? = some (.cells C 43 (0, 0)) := by
  have hrl : r < w.heap.size := (Array.getElem?_eq_some_iff.1 hr).1
  rw [hg.block r (by simp; omega) ?_]
  · exact (Below.heap_alloc w o r hrl).trans hr
  · intro e
    rcases hown.2 with ⟨rfl, _⟩ | ⟨g, cap, cur, rfl, _, hgg, _⟩
    · simp [Value.ownBlock] at e
    · simp [Value.ownBlock] at e
      subst e
      rw [hr] at hgg
      simp at hgg
theorem add_end {base r : Nat} {w w' : World} {file : ByteArray} {v v' : Value} {es : List El} {x : El} {o : Obj} (hbr : base ≤ r) (hbw : base ≤ w.heap.size) (hr : w.heap[r]? = some (.cells #[.string file, .map none, v] 43 (0, 0)))
    (hown : w.ownsRow base 46 6 v es.length (es.flatMap cel)) (hg : (w.alloc o).drew.grownBy w' v.ownBlock) (ho : w'.ownsRow base 46 6 v' (es.length + 1) (es.flatMap cel ++ cel x)) :
    Rdr base (w'.setCell ⟨r, 2, none⟩ v') r file (es ++ [x]) ∧ Below base w (w'.setCell ⟨r, 2, none⟩ v') := by
  have hr' := keep_r hr hown hg
  have hsz := hg.size
  simp at hsz
  have hne : v'.ownBlock = none ∨ v'.ownBlock ≠ some r := by
    rcases ho.2 with ⟨rfl, _⟩ | ⟨g, cap, cur, rfl, _, hgg, _⟩
    · left; rfl
    · right
      intro e
      simp [Value.ownBlock] at e
      subst e
      rw [hr'] at hgg
      simp at hgg
  have hset : w'.grownBy (w'.setCell ⟨r, 2, none⟩ v') (some r) := Gw.setCell (Gw.refl r w') 2 v'
  refine ⟨⟨hbr, by simp [World.setCell]; omega, v', ?_, ?_⟩, ?_⟩
  · exact (heap_setCell_same w' r 2 _ 43 v' hr').trans (by simp)
  · have := ho.kept hset hne
    rw [List.length_append, List.flatMap_append]
    simpa using this
  · have h1 : Below base w (w.alloc o).drew := ((Below.refl base w).alloc hbw o).drew
    refine h1.trans ⟨?_, ?_, ?_, ?_, ?_⟩
    · exact hset.os.trans hg.os
    · exact hset.tape.trans hg.tape
    · exact hset.output.trans hg.output
    · exact Nat.le_trans hg.size hset.size
    · intro k hk
      rw [hset.block k (by omega) (by intro e; simp at e; omega)]
      refine hg.block k (by simp; omega) ?_
      intro e
      have := hown.lt k e.symm
      omega

set_option maxHeartbeats 1000000 in
theorem add_any (base r : Nat) (file en ru me : ByteArray) (ln cl : Int) (es : List El) (w : World) (hR : Rdr base w r file es) (hn : es.length ≤ 65536) :
    Calls Try.prog 14 #[.pointer (some ⟨r, 0, none⟩), .int .i64 ln, .int .i64 cl, .string en, .string ru, .string me] w fun e w' =>
      e = .returned (.tuple #[]) ∧ Rdr base w' r file (es ++ [⟨file, en, ru, me, ln, cl⟩]) ∧ Below base w w' := by
  obtain ⟨hbr, hbw, v, hr, hown⟩ := hR
  have hrl : r < w.heap.size := (Array.getElem?_eq_some_iff.1 hr).1
  have hc0 : w.cell? ⟨r, 0, none⟩ = some (.string file) := cell_of_row w r 0 _ 43 (0, 0) hr
  have hc2 : w.cell? ⟨r, 2, none⟩ = some v := cell_of_row w r 2 _ 43 (0, 0) hr
  obtain ⟨i0, hi, hz0, hz1, hz2⟩ := info_parts inf46
  have HR : Hid (w.heap[r]? = some (.cells #[.string file, .map none, v] 43 (0, 0))) := hr
  clear hr
  go_enter Try.func14, Try.ntmps14
  go_wp2_with fail
  go_region_law (refine step_append_own rfl (.tmp 16) (.tmp 28) 41 rfl base 46 i0 (.agg #[em, em, em, em, .int .i64 0, .int .i64 0]) 6 80 Try.underlying41 hi hz0 hz1 hz2 rfl (by decide) v es.length (es.flatMap cel) (by simp [Act.eval, Act.put]) (World.ownsRow.alloc (w := w.drew) hown _) ⟨w.heap.size, 0, none⟩ 1 1 (cel ⟨file, en, ru, me, ln, cl⟩) (by simp [Act.eval, Act.put]) rfl (cel_news w.drew ⟨file, en, ru, me, ln, cl⟩) (cel_one _) (by unfold maxLen; omega) (by omega) (by first | (simp; done) | (simp; omega)) ?_; intro v' w' ho hg; obtain ⟨g', cap', rfl⟩ := own_form ho; have hr' := keep_r HR.out hown hg; have hq2 : w'.cell? ⟨r, 2, none⟩ = some v := cell_of_row w' r 2 _ 43 (0, 0) hr'; have hf2 : w'.frozen? ⟨r, 2, none⟩ = false := (by simp [World.frozen?, hr']); clear hr')
  all_goals go_wp2
  all_goals go_end0
  all_goals exact ⟨rfl, add_end hbr hbw HR.out hown hg ho⟩

theorem report_any (base r : Nat) (file en ru me : ByteArray) (ln cl : Int) (es : List El) (w : World) (hR : Rdr base w r file es) (hn : es.length ≤ 65536) :
    Calls Try.prog 7 #[.pointer (some ⟨r, 0, none⟩), .agg #[.int .i64 ln, .int .i64 cl, .string en, .string ru, .string me]] w fun e w' =>
      e = .returned (.tuple #[]) ∧ Rdr base w' r file (es ++ [⟨file, en, ru, me, ln, cl⟩]) ∧ Below base w w' := by
  have hbw : base ≤ w.heap.size := hR.2.1
  have hc := add_any base r file en ru me ln cl es (w.alloc (.cells #[.int .i64 ln, .int .i64 cl, .string en, .string ru, .string me] 25)) (hR.alloc _) hn
  clear hR hn
  go_enter Try.func7, Try.ntmps7
  go_wp2_with (go_at_call 14; refine hc.mono ?_; rintro e w1 ⟨rfl, h1, h2⟩)
  go_end0
  exact ⟨rfl, h1, ((Below.refl _ _).alloc hbw _).trans h2⟩
end Go.Proofs.Qxb6613698a.srt
