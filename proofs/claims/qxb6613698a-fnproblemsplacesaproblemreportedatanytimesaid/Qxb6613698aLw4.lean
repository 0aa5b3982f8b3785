/-
  FnProblemsPlacesAProblemReportedAtAnyTime: the walk.
-/
import Derived.Test.Qxb6613698aBtt
import Derived.Test.Qxb6613698aMov
namespace Go.Proofs.Qxb6613698a.srt
open Go.RowKit Go.Proofs.Qxb6613698a.lst
set_option linter.unusedSimpArgs false

/-- the problem p in a block of its own -/
def Pc (w : World) (b : Nat) (p : El) : Prop :=
  w.cell? ⟨b, 0, none⟩ = some (.int .i64 p.line) ∧ w.cell? ⟨b, 1, none⟩ = some (.int .i64 p.col) ∧ w.cell? ⟨b, 2, none⟩ = some (.string p.entry) ∧ w.cell? ⟨b, 3, none⟩ = some (.string p.rule) ∧ w.cell? ⟨b, 4, none⟩ = some (.string p.msg)
theorem Pc.below {w w' : World} {b : Nat} {p : El} (h : Pc w b p) (hb : Below w.heap.size w w') : Pc w' b p := by
  obtain ⟨a0, a1, a2, a3, a4⟩ := h
  have hg : b < w.heap.size := World.block_lt_of_cell? _ _ a0
  have e : ∀ o, w'.cell? ⟨b, o, none⟩ = w.cell? ⟨b, o, none⟩ := fun o => hb.cell (p := ⟨b, o, none⟩) hg
  unfold Pc
  simp only [e]
  exact ⟨a0, a1, a2, a3, a4⟩
theorem pc_new (w : World) (p : El) : Pc (w.alloc (.cells #[.int .i64 p.line, .int .i64 p.col, .string p.entry, .string p.rule, .string p.msg] 25)) w.heap.size p := by
  have c := fun j => cell_of_row _ w.heap.size j _ 25 (0, 0) (heap_alloc_new w (.cells #[.int .i64 p.line, .int .i64 p.col, .string p.entry, .string p.rule, .string p.msg] 25))
  exact ⟨(c 0).trans rfl, (c 1).trans rfl, (c 2).trans rfl, (c 3).trans rfl, (c 4).trans rfl⟩

theorem outr_belowB {w w' : World} {h k B : Nat} {E : Nat → El} {S : List Nat} (ho : Outr w h E S k) (hl : h < B) (hb : Below B w w') : Outr w' h E S k := by
  obtain ⟨R, h1, h2⟩ := ho
  exact ⟨R, (hb.block h hl).trans h1, h2⟩
/-- the reports up to number k, with p as number m -/
def wk (es : List El) (m : Nat) (p : El) (k : Nat) : List El := es.take m ++ p :: (es.drop m).take (k - m)
theorem wk_start (es : List El) (m : Nat) (p : El) : es.take m ++ [p] = wk es m p m := by
  unfold wk
  simp
theorem wk_step {es : List El} {m k : Nat} {p : El} (hm : m ≤ k) (hk : k < es.length) : wk es m p k ++ [elAt es k] = wk es m p (k + 1) := by
  unfold wk
  have e : k + 1 - m = (k - m) + 1 := by omega
  have e2 : (es.drop m).take (k - m + 1) = (es.drop m).take (k - m) ++ [elAt es k] := by
    rw [List.take_add_one, List.getElem?_drop]
    have e3 : m + (k - m) = k := by omega
    rw [e3, List.getElem?_eq_getElem hk, elAt_getElem? _ (List.getElem?_eq_getElem hk)]
    rfl
  rw [e, e2]
  simp
theorem wk_end {es : List El} {m : Nat} {p : El} (_hm : m ≤ es.length) : wk es m p es.length = withP es m p := by
  unfold wk withP
  rw [List.take_of_length_le (l := es.drop m) (by rw [List.length_drop]; omega)]
theorem wk_len {es : List El} {m k : Nat} {p : El} : (wk es m p k).length ≤ es.length + 1 := by
  unfold wk
  simp only [List.length_append, List.length_cons, List.length_take, List.length_drop]
  omega
theorem keepP {s o i pb : Nat} {es : List El} {p : El} {w1 w2 : World} (hb : Below w1.heap.size w1 w2) (h : w1.cell? ⟨s, o + i * 5, none⟩ = some (.int .i64 (elAt es i).line) ∧ w1.cell? ⟨s, o + i * 5 + 1, none⟩ = some (.int .i64 (elAt es i).col) ∧ w1.cell? ⟨s, o + i * 5 + 2, none⟩ = some (.string (elAt es i).entry) ∧ w1.cell? ⟨s, o + i * 5 + 3, none⟩ = some (.string (elAt es i).rule) ∧ w1.cell? ⟨s, o + i * 5 + 4, none⟩ = some (.string (elAt es i).msg) ∧ w1.cell? ⟨pb, 0, none⟩ = some (.int .i64 (p).line) ∧ w1.cell? ⟨pb, 1, none⟩ = some (.int .i64 (p).col) ∧ w1.cell? ⟨pb, 2, none⟩ = some (.string (p).entry) ∧ w1.cell? ⟨pb, 3, none⟩ = some (.string (p).rule) ∧ w1.cell? ⟨pb, 4, none⟩ = some (.string (p).msg)) :
    w2.cell? ⟨s, o + i * 5, none⟩ = some (.int .i64 (elAt es i).line) ∧ w2.cell? ⟨s, o + i * 5 + 1, none⟩ = some (.int .i64 (elAt es i).col) ∧ w2.cell? ⟨s, o + i * 5 + 2, none⟩ = some (.string (elAt es i).entry) ∧ w2.cell? ⟨s, o + i * 5 + 3, none⟩ = some (.string (elAt es i).rule) ∧ w2.cell? ⟨s, o + i * 5 + 4, none⟩ = some (.string (elAt es i).msg) ∧ w2.cell? ⟨pb, 0, none⟩ = some (.int .i64 (p).line) ∧ w2.cell? ⟨pb, 1, none⟩ = some (.int .i64 (p).col) ∧ w2.cell? ⟨pb, 2, none⟩ = some (.string (p).entry) ∧ w2.cell? ⟨pb, 3, none⟩ = some (.string (p).rule) ∧ w2.cell? ⟨pb, 4, none⟩ = some (.string (p).msg) := by
  obtain ⟨a0, a1, a2, a3, a4, b0, b1, b2, b3, b4⟩ := h
  have hg : s < w1.heap.size := World.block_lt_of_cell? _ _ a0
  have hp : pb < w1.heap.size := World.block_lt_of_cell? _ _ b0
  have e : ∀ o, w2.cell? ⟨s, o, none⟩ = w1.cell? ⟨s, o, none⟩ := fun o => hb.cell (p := ⟨s, o, none⟩) hg
  have e' : ∀ o, w2.cell? ⟨pb, o, none⟩ = w1.cell? ⟨pb, o, none⟩ := fun o => hb.cell (p := ⟨pb, o, none⟩) hp
  simp only [e, e']
  exact ⟨a0, a1, a2, a3, a4, b0, b1, b2, b3, b4⟩
theorem cnt_succ (es : List El) (m : Nat) (p : El) (i : Nat) : (List.range (i + 1)).countP (cnt es m p) = (List.range i).countP (cnt es m p) + (if cnt es m p i = true then 1 else 0) := by
  rw [List.range_succ, List.countP_append, List.countP_cons, List.countP_nil]
  omega
def QPost (es : List El) (n : Nat) (w : World) (e : Ending) (w' : World) : Prop :=
  Below w.heap.size w w' ∧ ∃ (S : List Nat) (h : Nat) (ao : Option Addr), w.heap.size ≤ h ∧ (n = 0 → ao = none) ∧ (0 < n → ao = some ⟨h, 0, none⟩) ∧ S.Perm (List.range n) ∧ Sorted (pl (elAt es)) S ∧ Stab (pl (elAt es)) S ∧ e = .returned (.slice ao n n) ∧ (0 < n → Outr w' h (elAt es) S n)
theorem problems_any (base r n : Nat) (file : ByteArray) (es : List El) (w : World) (hR : Rdr base w r file es) (hn : n = es.length) (hb : n ≤ 65536) :
    Calls Try.prog 8 #[.pointer (some ⟨r, 0, none⟩)] w (QPost es n w) := by
  subst hn
  by_cases h0 : es.length = 0
  · obtain rfl : es = [] := List.eq_nil_of_length_eq_zero h0
    refine (problems_none base r file w hR).mono ?_
    rintro e w' ⟨rfl, rfl⟩
    exact ⟨Below.refl _ _, [], w'.heap.size, none, Nat.le_refl _, fun _ => rfl, fun h => absurd h (by simp), List.Perm.refl _, List.Pairwise.nil, List.Pairwise.nil, rfl, fun h => absurd h (by simp)⟩
  · refine (problems_some base r file es w hR (by omega) hb).mono ?_
    rintro e w' ⟨hb8, S, h, hh, hS1, hS2, hS3, rfl, hO⟩
    exact ⟨hb8, S, h, some ⟨h, 0, none⟩, hh, fun h => absurd h h0, fun _ => rfl, hS1, hS2, hS3, rfl, fun _ => hO⟩

set_option maxHeartbeats 8000000 in
set_option maxRecDepth 20000 in
theorem law4_any (file : ByteArray) (ao : Option Addr) (s o n cap : Nat) (es : List El) (at_ : Int) (p : El) (w : World) (hn : n = es.length) (hf : ∀ j, j < n → (elAt es j).file = file) (hS : Src w s o n (elAt es)) (hao : 0 < n → ao = some ⟨s, o, none⟩) (hpf : p.file = file) :
    Calls Try.prog 4 #[.string file, .slice ao n cap, .int .i64 at_, .agg #[.int .i64 p.line, .int .i64 p.col, .string p.entry, .string p.rule, .string p.msg]] w (TPost w) := by
  have hbw : Below w.heap.size w (w.alloc (.cells #[.int .i64 p.line, .int .i64 p.col, .string p.entry, .string p.rule, .string p.msg] 25)) := (Below.refl _ _).alloc (Nat.le_refl _) _
  have hS0 := hS.below hbw
  have hP0 := pc_new w p
  have hb10 := bytes10_any file ao s o n cap (elAt es) at_ p.line p.col p.entry p.rule p.msg _ hS0 hao
  have HN : Hid (n = es.length) := hn
  have hws : w.heap.size ≤ (w.alloc (.cells #[.int .i64 p.line, .int .i64 p.col, .string p.entry, .string p.rule, .string p.msg] 25)).heap.size := hbw.size
  clear hn hS
  go_enter Try.func4, Try.ntmps4
  go_upto_if 27 with (go_at_call 10; refine hb10.mono ?_; rintro e w1 ⟨⟨b, rfl⟩, hb1⟩)
  clear hb10
  generalize hw0 : w.alloc (.cells #[.int .i64 p.line, .int .i64 p.col, .string p.entry, .string p.rule, .string p.msg] 25) = w0 at *
  clear hw0
  have hbw1 := hbw.trans (hb1.mono hws)
  generalize hpb : w.heap.size = pb at *
  have HPB : Hid (w.heap.size = pb) := hpb
  clear hpb
  cases b with
  | false =>
    go_wp2
    go_ret
    exact ⟨rfl, by rw [HPB.out]; exact hbw1⟩
  | true =>
    have hfin : ∀ w', Below w0.heap.size w0 w' → TPost w (.returned (.bool true)) w' := fun w' h => ⟨rfl, by rw [HPB.out]; exact hbw.trans (h.mono hws)⟩
    obtain ⟨q0, q1, q2, q3, q4⟩ := hP0.below hb1
    by_cases hn4 : n ≤ 4096
    · go_upto_region 10 with fail
      all_goals first
        | (go_ret; exact hfin _ hb1)
        | skip
      clear q0 q1 q2 q3 q4
      go_wp2_with fail
      go_loopw [9, 10] (fun y x wr => ∃ (c : Int) (j : Nat), j ≤ n ∧ y = .int .i64 c ∧ x = .int .i64 (j : Int) ∧ Below w0.heap.size w0 wr) (fun _ x _ => n - (intOf x).toNat)
      case atStart => exact ⟨_, 0, Nat.zero_le _, rfl, rfl, hb1⟩
      case round =>
        obtain ⟨c, j, hj, rfl, rfl, hB⟩ := hrel
        by_cases hlt : j < n
        · obtain rfl := hao (by omega)
          obtain ⟨c0, c1, c2, c3, c4⟩ := (hS0.below hB) j hlt
          have hi1 : (j : Int) < (n : Int) := by omega
          clear hS0 hao hf
          go_wp2_with fail
          go_quiet (fail)
          go_wp2_with fail
          all_goals first
            | (go_ret; exact hfin _ (Below.drewN hB _))
            | (go_roundw; (case rel => exact ⟨_, j + 1, by omega, rfl, by go_num, Below.drewN hB _⟩); (case measure => simp [intOf]; omega))
        · obtain rfl : n = j := by omega
          by_cases ha0 : at_ < 0
          · go_wp2_with fail
            go_ret
            exact hfin _ hB
          · by_cases ha1 : (n : Int) < at_
            · go_wp2_with fail
              go_ret
              exact hfin _ hB
            · obtain ⟨m, rfl⟩ : ∃ m : Nat, at_ = (m : Int) := ⟨at_.toNat, by omega⟩
              have hmn : m ≤ n := by omega
              clear ha0 ha1
              have hc6 := znew_any file wr
              go_wp2_with (go_at_call 6; refine hc6.mono ?_; rintro e w6 ⟨rfl, hR6, hb6⟩)
              have hB6 := hB.trans (hb6.mono hB.size)
              have hBr := hB.size
              clear hc6 hB hb6 hj hlt
              generalize wr.heap.size = r at *
              go_loopw [12] (fun x wr => ∃ k : Nat, k ≤ n ∧ x = .int .i64 (k : Int) ∧ Rdr r wr r file (es.take k) ∧ Below w0.heap.size w0 wr) (fun x _ => n - (intOf x).toNat)
              case atStart => exact ⟨0, Nat.zero_le _, rfl, hR6, hB6⟩
              case round =>
                clear hR6 hB6
                obtain ⟨k, hk, rfl, hR, hB⟩ := hrel
                by_cases hlt : k < n
                · obtain rfl := hao (by omega)
                  obtain ⟨c0, c1, c2, c3, c4⟩ := (hS0.below hB) k hlt
                  have hi1 : (k : Int) < (n : Int) := by omega
                  have hfk := hf k hlt
                  have hrep := report_any r r file (elAt es k).entry (elAt es k).rule (elAt es k).msg (elAt es k).line (elAt es k).col (es.take k) wr hR (by rw [List.length_take]; omega)
                  have HT : Hid (es.take k ++ [⟨file, (elAt es k).entry, (elAt es k).rule, (elAt es k).msg, (elAt es k).line, (elAt es k).col⟩] = es.take (k + 1)) := by
                    show _ = _
                    rw [take_succ (by rw [← HN.out]; exact hlt), ← hfk]
                  clear hS0 hao hf hfk hR hP0
                  go_wp2_with (go_at_call 7; refine hrep.mono ?_; rintro e w7 ⟨rfl, hR7, hb7⟩)
                  go_roundw
                  case rel => exact ⟨k + 1, by omega, by go_num, by rw [← HT.out]; exact hR7, hB.trans (hb7.mono hBr)⟩
                  case measure => simp [intOf]; omega
                · obtain rfl : n = k := by omega
                  have hes : es.take n = es := by rw [HN.out]; exact List.take_length
                  rw [hes] at hR
                  clear hes
                  have hp := problems_any r r n file es wr hR HN.out (by omega)
                  go_upto_region 24 with (go_at_call 8; refine hp.mono ?_; rintro e w8 ⟨hb8, S1, h1, ao1, hh1, hn1, hs1, hS11, hS12, hS13, rfl, hO1⟩)
                  have hB8 := hB.trans (hb8.mono hB.size)
                  clear hp hR hb8 hB
                  have hc6 := znew_any file w8
                  go_wp2_with (go_at_call 6; refine hc6.mono ?_; rintro e w9 ⟨rfl, hR9, hb9⟩)
                  have hB9 := hB8.trans (hb9.mono hB8.size)
                  have hO9 : 0 < n → Outr w9 h1 (elAt es) S1 n := fun h => (hO1 h).below hb9
                  have hlt9 : 0 < n → h1 < w8.heap.size := fun h => (hO1 h).lt
                  have hBr2 := hB8.size
                  clear hc6 hO1 hB8 hb9 hk hlt
                  generalize w8.heap.size = r2 at *
                  go_loopw [15] (fun x wr => ∃ k : Nat, k ≤ m ∧ x = .int .i64 (k : Int) ∧ Rdr r2 wr r2 file (es.take k) ∧ Below r2 w9 wr ∧ Below w0.heap.size w0 wr) (fun x _ => m - (intOf x).toNat)
                  case atStart => exact ⟨0, Nat.zero_le _, rfl, hR9, Below.refl _ _, hB9⟩
                  case round =>
                    clear hR9 hB9
                    obtain ⟨k, hk, rfl, hR, hb9, hB⟩ := hrel
                    by_cases hlt : k < m
                    · obtain rfl := hao (by omega)
                      have hkn : k < n := by omega
                      obtain ⟨c0, c1, c2, c3, c4⟩ := (hS0.below hB) k hkn
                      have hi1 : (k : Int) < (n : Int) := by omega
                      have hfk := hf k hkn
                      have hrep := report_any r2 r2 file (elAt es k).entry (elAt es k).rule (elAt es k).msg (elAt es k).line (elAt es k).col (es.take k) wr hR (by rw [List.length_take]; omega)
                      have HT : Hid (es.take k ++ [⟨file, (elAt es k).entry, (elAt es k).rule, (elAt es k).msg, (elAt es k).line, (elAt es k).col⟩] = es.take (k + 1)) := by
                        show _ = _
                        rw [take_succ (by rw [← HN.out]; exact hkn), ← hfk]
                      clear hS0 hao hf hfk hR hP0 hn1 hs1 hO9 hlt9
                      go_wp2_with (go_at_call 7; refine hrep.mono ?_; rintro e w7 ⟨rfl, hR7, hb7⟩)
                      go_roundw
                      case rel => exact ⟨k + 1, by omega, by go_num, by rw [← HT.out]; exact hR7, hb9.trans hb7, hB.trans (hb7.mono hBr2)⟩
                      case measure => simp [intOf]; omega
                    · obtain rfl : m = k := by omega
                      have hrep := report_any r2 r2 file p.entry p.rule p.msg p.line p.col (es.take m) wr hR (by rw [List.length_take]; omega)
                      obtain ⟨q0, q1, q2, q3, q4⟩ := hP0.below hB
                      have HT : Hid (es.take m ++ [⟨file, p.entry, p.rule, p.msg, p.line, p.col⟩] = wk es m p m) := by
                        show _ = _
                        rw [← wk_start, ← hpf]
                      clear hR
                      go_upto_region 30 with (go_at_call 7; refine hrep.mono ?_; rintro e w10 ⟨rfl, hR7, hb7⟩)
                      rw [HT.out] at hR7
                      have hb10 := hb9.trans hb7
                      have hB10 := hB.trans (hb7.mono hBr2)
                      clear hrep HT hb9 hB hb7 q0 q1 q2 q3 q4 hk hlt
                      go_wp2_with fail
                      go_loopw [16] (fun x wr => ∃ k : Nat, m ≤ k ∧ k ≤ n ∧ x = .int .i64 (k : Int) ∧ Rdr r2 wr r2 file (wk es m p k) ∧ Below r2 w9 wr ∧ Below w0.heap.size w0 wr) (fun x _ => n - (intOf x).toNat)
                      case atStart => exact ⟨m, Nat.le_refl _, hmn, rfl, hR7, hb10, hB10⟩
                      case round =>
                        clear hR7 hb10 hB10
                        obtain ⟨k, hmk, hk, rfl, hR, hb9, hB⟩ := hrel
                        by_cases hlt : k < n
                        · obtain rfl := hao (by omega)
                          obtain ⟨c0, c1, c2, c3, c4⟩ := (hS0.below hB) k hlt
                          have hi1 : (k : Int) < (n : Int) := by omega
                          have hfk := hf k hlt
                          have hrep := report_any r2 r2 file (elAt es k).entry (elAt es k).rule (elAt es k).msg (elAt es k).line (elAt es k).col (wk es m p k) wr hR (by have := wk_len (es := es) (m := m) (p := p) (k := k); have := HN.out; omega)
                          have HT : Hid (wk es m p k ++ [⟨file, (elAt es k).entry, (elAt es k).rule, (elAt es k).msg, (elAt es k).line, (elAt es k).col⟩] = wk es m p (k + 1)) := by
                            show _ = _
                            rw [← wk_step hmk (by rw [← HN.out]; exact hlt), ← hfk]
                          clear hS0 hao hf hfk hR hP0 hn1 hs1 hO9 hlt9
                          go_wp2_with (go_at_call 7; refine hrep.mono ?_; rintro e w7 ⟨rfl, hR7, hb7⟩)
                          go_roundw
                          case rel => exact ⟨k + 1, by omega, by omega, by go_num, by rw [← HT.out]; exact hR7, hb9.trans hb7, hB.trans (hb7.mono hBr2)⟩
                          case measure => simp [intOf]; omega
                        · obtain rfl : n = k := by omega
                          have hes : wk es m p n = withP es m p := by rw [HN.out]; exact wk_end (by rw [← HN.out]; exact hmn)
                          rw [hes] at hR
                          clear hes
                          obtain ⟨n2, hn2⟩ : ∃ n2, n2 = n + 1 := ⟨_, rfl⟩
                          have HN2 : Hid (n2 = n + 1) := hn2
                          have hn2b : n2 ≤ 4097 := by omega
                          have hn20 : 0 < n2 := by omega
                          have hp := problems_any r2 r2 n2 file (withP es m p) wr hR (by rw [withP_length (by rw [← HN.out]; exact hmn), ← HN.out]; exact hn2) (by omega)
                          clear hn2
                          go_upto_region 35 with (go_at_call 8; refine hp.mono ?_; rintro e w11 ⟨hb11, S2, h2, ao2, hh2, _, hs2, hS21, hS22, hS23, rfl, hO2⟩)
                          have hb12 := hb9.trans (hb11.mono (Nat.le_trans (by have := hR.2.1; omega) (Nat.le_refl _)))
                          have hB12 := hB.trans (hb11.mono hB.size)
                          have hO1 : 0 < n → Outr w11 h1 (elAt es) S1 n := fun h => outr_belowB (hO9 h) (hlt9 h) hb12
                          have hO2' := hO2 hn20
                          obtain rfl := hs2 hn20
                          have hn2' : (n : Int) + 1 = (n2 : Int) := by have := HN2.out; omega
                          clear hp hR hb9 hB hb11 hO9 hlt9 hs2 hO2 hmk hk hlt hb12
                          go_wp2_with fail
                          go_loopw [18, 19] (fun y x wr => ∃ c i : Nat, i ≤ n ∧ c ≤ i ∧ c = (List.range i).countP (cnt es m p) ∧ y = .int .i64 (c : Int) ∧ x = .int .i64 (i : Int) ∧ Below w11.heap.size w11 wr) (fun _ x _ => n - (intOf x).toNat)
                          case atStart => exact ⟨0, 0, Nat.zero_le _, Nat.le_refl _, rfl, rfl, rfl, Below.refl _ _⟩
                          case round =>
                            obtain ⟨c, i, hi, hci, hc, rfl, rfl, hb13⟩ := hrel
                            have HC : Hid (c = (List.range i).countP (cnt es m p)) := hc
                            clear hc
                            have hB13 := hB12.trans (hb13.mono hB12.size)
                            by_cases hlt : i < n
                            · obtain rfl := hao (by omega)
                              obtain ⟨c0, c1, c2, c3, c4⟩ := (hS0.below hB13) i hlt
                              obtain ⟨q0, q1, q2, q3, q4⟩ := hP0.below hB13
                              have hi1 : (i : Int) < (n : Int) := by omega
                              obtain ⟨bs, hbs⟩ : ∃ bs, bs = sam (elAt es i) p := ⟨_, rfl⟩
                              have HSM : Hid (bs = sam (elAt es i) p) := hbs
                              have hbsz := hb13.size
                              clear hbs hS0 hP0 hao hf hn1 hs1 hO1 hO2'
                              by_cases hbe : bef (elAt es i) p = true
                              · have HBE : Hid (true = bef (elAt es i) p) := hbe.symm
                                have HA : Hid (cnt es m p i = true) := by show _ = _; unfold cnt; rw [hbe]; rfl
                                clear hbe
                                go_wp2_with fail
                                refine wp_region_held_drew (S := fun w' => w'.cell? ⟨s, o + i * 5, none⟩ = some (.int .i64 (elAt es i).line) ∧ w'.cell? ⟨s, o + i * 5 + 1, none⟩ = some (.int .i64 (elAt es i).col) ∧ w'.cell? ⟨s, o + i * 5 + 2, none⟩ = some (.string (elAt es i).entry) ∧ w'.cell? ⟨s, o + i * 5 + 3, none⟩ = some (.string (elAt es i).rule) ∧ w'.cell? ⟨s, o + i * 5 + 4, none⟩ = some (.string (elAt es i).msg) ∧ w'.cell? ⟨pb, 0, none⟩ = some (.int .i64 (p).line) ∧ w'.cell? ⟨pb, 1, none⟩ = some (.int .i64 (p).col) ∧ w'.cell? ⟨pb, 2, none⟩ = some (.string (p).entry) ∧ w'.cell? ⟨pb, 3, none⟩ = some (.string (p).rule) ∧ w'.cell? ⟨pb, 4, none⟩ = some (.string (p).msg)) (by kernel_rfl) ?_ (fun hHeld => ?_)
                                · exact ⟨c0, c1, c2, c3, c4, q0, q1, q2, q3, q4⟩
                                refine wpAnyH_take (i := 0) (oi := ⟨some 157, _, _, _, _, _⟩) (v := .slice (some ⟨s, o, none⟩) n cap) rfl (by kernel_rfl) (by kernel_rfl) (by kernel_rfl) (fun _ _ _ h => h) (Or.inl ⟨by rfl, fun w hSw => ?_⟩) (by assumption) ?_
                                · dsimp only at hSw
                                  go_simp
                                try simp only [Act.put, List.setIfInBounds_toArray, List.set_cons_zero, List.set_cons_succ]
                                refine wpAnyH_take (i := 1) (oi := ⟨some 158, _, _, _, _, _⟩) (v := .int .i64 (i : Int)) rfl (by kernel_rfl) (by kernel_rfl) (by kernel_rfl) (fun _ _ _ h => h) (Or.inl ⟨by rfl, fun w hSw => ?_⟩) (by assumption) ?_
                                · dsimp only at hSw
                                  go_simp
                                try simp only [Act.put, List.setIfInBounds_toArray, List.set_cons_zero, List.set_cons_succ]
                                refine wpAnyH_take (i := 2) (oi := ⟨some 159, _, _, _, _, _⟩) (v := .pointer (some ⟨s, o + i * 5, none⟩)) rfl (by kernel_rfl) (by kernel_rfl) (by kernel_rfl) (fun _ _ _ h => h) (Or.inl ⟨by rfl, fun w hSw => ?_⟩) (by assumption) ?_
                                · dsimp only at hSw
                                  go_simp
                                try simp only [Act.put, List.setIfInBounds_toArray, List.set_cons_zero, List.set_cons_succ]
                                refine wpAnyH_take (i := 3) (oi := ⟨some 160, _, _, _, _, _⟩) (v := .agg #[.int .i64 (elAt es i).line, .int .i64 (elAt es i).col, .string (elAt es i).entry, .string (elAt es i).rule, .string (elAt es i).msg]) rfl (by kernel_rfl) (by kernel_rfl) (by kernel_rfl) (fun _ _ _ h => h) (Or.inl ⟨by rfl, fun w hSw => ?_⟩) (by assumption) ?_
                                · dsimp only at hSw
                                  go_simp
                                try simp only [Act.put, List.setIfInBounds_toArray, List.set_cons_zero, List.set_cons_succ]
                                refine wpAnyH_take (i := 4) (oi := ⟨some 161, _, _, _, _, _⟩) (v := .agg #[.int .i64 (p).line, .int .i64 (p).col, .string (p).entry, .string (p).rule, .string (p).msg]) rfl (by kernel_rfl) (by kernel_rfl) (by kernel_rfl) (fun _ _ _ h => h) (Or.inl ⟨by rfl, fun w hSw => ?_⟩) (by assumption) ?_
                                · dsimp only at hSw
                                  go_simp
                                try simp only [Act.put, List.setIfInBounds_toArray, List.set_cons_zero, List.set_cons_succ]
                                refine wpAnyH_ready (rs := [5]) (by kernel_rfl) (by simp) ?_
                                refine AllReadyH.cons (o := ⟨some 162, _, _, _, _, _⟩) rfl (fun K hK => ?_) AllReadyH.nil
                                go_simp
                                go_at_call 11
                                refine (before_any (elAt es i).line (elAt es i).col p.line p.col (elAt es i).entry (elAt es i).rule (elAt es i).msg p.entry p.rule p.msg _ true HBE.out).mono ?_
                                rintro e w15 ⟨rfl, hb15⟩
                                go_wp2_with fail
                                refine hK.out _ _ ?_ (fun hHeld => ?_)
                                · exact keepP (by assumption) (by assumption)
                                clear hK K
                                try simp only [Act.put, List.setIfInBounds_toArray, List.set_cons_zero, List.set_cons_succ]
                                refine wpAnyH_take (i := 6) (oi := ⟨some 163, _, _, _, _, _⟩) (v := .bool true) rfl (by kernel_rfl) (by kernel_rfl) (by kernel_rfl) (fun _ _ _ h => h) (Or.inl ⟨by rfl, fun w hSw => ?_⟩) (by assumption) ?_
                                · dsimp only at hSw
                                  go_simp
                                try simp only [Act.put, List.setIfInBounds_toArray, List.set_cons_zero, List.set_cons_succ]
                                refine wpAnyH_take (i := 7) (oi := ⟨some 164, _, _, _, _, _⟩) (v := undef) rfl (by kernel_rfl) (by kernel_rfl) (by kernel_rfl) (fun _ _ _ h => h) (Or.inr ⟨by rfl, rfl⟩) (by assumption) ?_
                                try simp only [Act.put, List.setIfInBounds_toArray, List.set_cons_zero, List.set_cons_succ]
                                refine wpAnyH_take (i := 8) (oi := ⟨some 165, _, _, _, _, _⟩) (v := undef) rfl (by kernel_rfl) (by kernel_rfl) (by kernel_rfl) (fun _ _ _ h => h) (Or.inr ⟨by rfl, rfl⟩) (by assumption) ?_
                                try simp only [Act.put, List.setIfInBounds_toArray, List.set_cons_zero, List.set_cons_succ]
                                refine wpAnyH_take (i := 9) (oi := ⟨some 166, _, _, _, _, _⟩) (v := undef) rfl (by kernel_rfl) (by kernel_rfl) (by kernel_rfl) (fun _ _ _ h => h) (Or.inr ⟨by rfl, rfl⟩) (by assumption) ?_
                                try simp only [Act.put, List.setIfInBounds_toArray, List.set_cons_zero, List.set_cons_succ]
                                refine wpAnyH_take (i := 10) (oi := ⟨some 167, _, _, _, _, _⟩) (v := undef) rfl (by kernel_rfl) (by kernel_rfl) (by kernel_rfl) (fun _ _ _ h => h) (Or.inr ⟨by rfl, rfl⟩) (by assumption) ?_
                                try simp only [Act.put, List.setIfInBounds_toArray, List.set_cons_zero, List.set_cons_succ]
                                refine wpAnyH_take (i := 11) (oi := ⟨some 168, _, _, _, _, _⟩) (v := undef) rfl (by kernel_rfl) (by kernel_rfl) (by kernel_rfl) (fun _ _ _ h => h) (Or.inr ⟨by rfl, rfl⟩) (by assumption) ?_
                                try simp only [Act.put, List.setIfInBounds_toArray, List.set_cons_zero, List.set_cons_succ]
                                refine wpAnyH_take (i := 12) (oi := ⟨some 169, _, _, _, _, _⟩) (v := undef) rfl (by kernel_rfl) (by kernel_rfl) (by kernel_rfl) (fun _ _ _ h => h) (Or.inr ⟨by rfl, rfl⟩) (by assumption) ?_
                                try simp only [Act.put, List.setIfInBounds_toArray, List.set_cons_zero, List.set_cons_succ]
                                refine wpAnyH_take (i := 13) (oi := ⟨some 170, _, _, _, _, _⟩) (v := undef) rfl (by kernel_rfl) (by kernel_rfl) (by kernel_rfl) (fun _ _ _ h => h) (Or.inr ⟨by rfl, rfl⟩) (by assumption) ?_
                                try simp only [Act.put, List.setIfInBounds_toArray, List.set_cons_zero, List.set_cons_succ]
                                refine wpAnyH_take (i := 14) (oi := ⟨some 171, _, _, _, _, _⟩) (v := undef) rfl (by kernel_rfl) (by kernel_rfl) (by kernel_rfl) (fun _ _ _ h => h) (Or.inr ⟨by rfl, rfl⟩) (by assumption) ?_
                                try simp only [Act.put, List.setIfInBounds_toArray, List.set_cons_zero, List.set_cons_succ]
                                refine wpAnyH_take (i := 15) (oi := ⟨some 172, _, _, _, _, _⟩) (v := undef) rfl (by kernel_rfl) (by kernel_rfl) (by kernel_rfl) (fun _ _ _ h => h) (Or.inr ⟨by rfl, rfl⟩) (by assumption) ?_
                                try simp only [Act.put, List.setIfInBounds_toArray, List.set_cons_zero, List.set_cons_succ]
                                refine wpAnyH_take (i := 16) (oi := ⟨some 173, _, _, _, _, _⟩) (v := undef) rfl (by kernel_rfl) (by kernel_rfl) (by kernel_rfl) (fun _ _ _ h => h) (Or.inr ⟨by rfl, rfl⟩) (by assumption) ?_
                                try simp only [Act.put, List.setIfInBounds_toArray, List.set_cons_zero, List.set_cons_succ]
                                refine wpAnyH_take (i := 17) (oi := ⟨some 174, _, _, _, _, _⟩) (v := undef) rfl (by kernel_rfl) (by kernel_rfl) (by kernel_rfl) (fun _ _ _ h => h) (Or.inr ⟨by rfl, rfl⟩) (by assumption) ?_
                                try simp only [Act.put, List.setIfInBounds_toArray, List.set_cons_zero, List.set_cons_succ]
                                refine wpAnyH_take (i := 18) (oi := ⟨some 175, _, _, _, _, _⟩) (v := .bool true) rfl (by kernel_rfl) (by kernel_rfl) (by kernel_rfl) (fun _ _ _ h => h) (Or.inl ⟨by rfl, fun w hSw => ?_⟩) (by assumption) ?_
                                · dsimp only at hSw
                                  go_simp
                                try simp only [Act.put, List.setIfInBounds_toArray, List.set_cons_zero, List.set_cons_succ]
                                refine wpAnyH_done (by kernel_rfl) ?_ _
                                go_wp2
                                go_roundw
                                case rel => exact ⟨c + 1, i + 1, by omega, by omega, by rw [cnt_succ, ← HC.out, if_pos HA.out], by go_num, by go_num, hb13.drew.trans (hb15.mono hbsz)⟩
                                case measure => simp [intOf]; omega
                              · have hbf : bef (elAt es i) p = false := by simpa using hbe
                                have HBE : Hid (false = bef (elAt es i) p) := hbf.symm
                                clear hbe
                                by_cases hji : i < m
                                · have hji' : (i : Int) < (m : Int) := by omega
                                  have HA : Hid (cnt es m p i = bs) := by show _ = _; unfold cnt; rw [hbf, HSM.out, decide_eq_true hji]; rfl
                                  clear hbf
                                  go_wp2_with fail
                                  refine wp_region_held_drew (S := fun w' => w'.cell? ⟨s, o + i * 5, none⟩ = some (.int .i64 (elAt es i).line) ∧ w'.cell? ⟨s, o + i * 5 + 1, none⟩ = some (.int .i64 (elAt es i).col) ∧ w'.cell? ⟨s, o + i * 5 + 2, none⟩ = some (.string (elAt es i).entry) ∧ w'.cell? ⟨s, o + i * 5 + 3, none⟩ = some (.string (elAt es i).rule) ∧ w'.cell? ⟨s, o + i * 5 + 4, none⟩ = some (.string (elAt es i).msg) ∧ w'.cell? ⟨pb, 0, none⟩ = some (.int .i64 (p).line) ∧ w'.cell? ⟨pb, 1, none⟩ = some (.int .i64 (p).col) ∧ w'.cell? ⟨pb, 2, none⟩ = some (.string (p).entry) ∧ w'.cell? ⟨pb, 3, none⟩ = some (.string (p).rule) ∧ w'.cell? ⟨pb, 4, none⟩ = some (.string (p).msg)) (by kernel_rfl) ?_ (fun hHeld => ?_)
                                  · exact ⟨c0, c1, c2, c3, c4, q0, q1, q2, q3, q4⟩
                                  refine wpAnyH_take (i := 0) (oi := ⟨some 157, _, _, _, _, _⟩) (v := .slice (some ⟨s, o, none⟩) n cap) rfl (by kernel_rfl) (by kernel_rfl) (by kernel_rfl) (fun _ _ _ h => h) (Or.inl ⟨by rfl, fun w hSw => ?_⟩) (by assumption) ?_
                                  · dsimp only at hSw
                                    go_simp
                                  try simp only [Act.put, List.setIfInBounds_toArray, List.set_cons_zero, List.set_cons_succ]
                                  refine wpAnyH_take (i := 1) (oi := ⟨some 158, _, _, _, _, _⟩) (v := .int .i64 (i : Int)) rfl (by kernel_rfl) (by kernel_rfl) (by kernel_rfl) (fun _ _ _ h => h) (Or.inl ⟨by rfl, fun w hSw => ?_⟩) (by assumption) ?_
                                  · dsimp only at hSw
                                    go_simp
                                  try simp only [Act.put, List.setIfInBounds_toArray, List.set_cons_zero, List.set_cons_succ]
                                  refine wpAnyH_take (i := 2) (oi := ⟨some 159, _, _, _, _, _⟩) (v := .pointer (some ⟨s, o + i * 5, none⟩)) rfl (by kernel_rfl) (by kernel_rfl) (by kernel_rfl) (fun _ _ _ h => h) (Or.inl ⟨by rfl, fun w hSw => ?_⟩) (by assumption) ?_
                                  · dsimp only at hSw
                                    go_simp
                                  try simp only [Act.put, List.setIfInBounds_toArray, List.set_cons_zero, List.set_cons_succ]
                                  refine wpAnyH_take (i := 3) (oi := ⟨some 160, _, _, _, _, _⟩) (v := .agg #[.int .i64 (elAt es i).line, .int .i64 (elAt es i).col, .string (elAt es i).entry, .string (elAt es i).rule, .string (elAt es i).msg]) rfl (by kernel_rfl) (by kernel_rfl) (by kernel_rfl) (fun _ _ _ h => h) (Or.inl ⟨by rfl, fun w hSw => ?_⟩) (by assumption) ?_
                                  · dsimp only at hSw
                                    go_simp
                                  try simp only [Act.put, List.setIfInBounds_toArray, List.set_cons_zero, List.set_cons_succ]
                                  refine wpAnyH_take (i := 4) (oi := ⟨some 161, _, _, _, _, _⟩) (v := .agg #[.int .i64 (p).line, .int .i64 (p).col, .string (p).entry, .string (p).rule, .string (p).msg]) rfl (by kernel_rfl) (by kernel_rfl) (by kernel_rfl) (fun _ _ _ h => h) (Or.inl ⟨by rfl, fun w hSw => ?_⟩) (by assumption) ?_
                                  · dsimp only at hSw
                                    go_simp
                                  try simp only [Act.put, List.setIfInBounds_toArray, List.set_cons_zero, List.set_cons_succ]
                                  refine wpAnyH_ready (rs := [5]) (by kernel_rfl) (by simp) ?_
                                  refine AllReadyH.cons (o := ⟨some 162, _, _, _, _, _⟩) rfl (fun K hK => ?_) AllReadyH.nil
                                  go_simp
                                  go_at_call 11
                                  refine (before_any (elAt es i).line (elAt es i).col p.line p.col (elAt es i).entry (elAt es i).rule (elAt es i).msg p.entry p.rule p.msg _ false HBE.out).mono ?_
                                  rintro e w15 ⟨rfl, hb15⟩
                                  go_wp2_with fail
                                  refine hK.out _ _ ?_ (fun hHeld => ?_)
                                  · exact keepP (by assumption) (by assumption)
                                  clear hK K
                                  try simp only [Act.put, List.setIfInBounds_toArray, List.set_cons_zero, List.set_cons_succ]
                                  refine wpAnyH_take (i := 6) (oi := ⟨some 163, _, _, _, _, _⟩) (v := .bool false) rfl (by kernel_rfl) (by kernel_rfl) (by kernel_rfl) (fun _ _ _ h => h) (Or.inl ⟨by rfl, fun w hSw => ?_⟩) (by assumption) ?_
                                  · dsimp only at hSw
                                    go_simp
                                  try simp only [Act.put, List.setIfInBounds_toArray, List.set_cons_zero, List.set_cons_succ]
                                  refine wpAnyH_take (i := 7) (oi := ⟨some 164, _, _, _, _, _⟩) (v := .int .i64 (i : Int)) rfl (by kernel_rfl) (by kernel_rfl) (by kernel_rfl) (fun _ _ _ h => h) (Or.inl ⟨by rfl, fun w hSw => ?_⟩) (by assumption) ?_
                                  · dsimp only at hSw
                                    go_simp
                                  try simp only [Act.put, List.setIfInBounds_toArray, List.set_cons_zero, List.set_cons_succ]
                                  refine wpAnyH_take (i := 8) (oi := ⟨some 165, _, _, _, _, _⟩) (v := .int .i64 (m : Int)) rfl (by kernel_rfl) (by kernel_rfl) (by kernel_rfl) (fun _ _ _ h => h) (Or.inl ⟨by rfl, fun w hSw => ?_⟩) (by assumption) ?_
                                  · dsimp only at hSw
                                    go_simp
                                  try simp only [Act.put, List.setIfInBounds_toArray, List.set_cons_zero, List.set_cons_succ]
                                  refine wpAnyH_take (i := 9) (oi := ⟨some 166, _, _, _, _, _⟩) (v := .bool true) rfl (by kernel_rfl) (by kernel_rfl) (by kernel_rfl) (fun _ _ _ h => h) (Or.inl ⟨by rfl, fun w hSw => ?_⟩) (by assumption) ?_
                                  · dsimp only at hSw
                                    go_simp
                                  try simp only [Act.put, List.setIfInBounds_toArray, List.set_cons_zero, List.set_cons_succ]
                                  refine wpAnyH_take (i := 10) (oi := ⟨some 167, _, _, _, _, _⟩) (v := .bool true) rfl (by kernel_rfl) (by kernel_rfl) (by kernel_rfl) (fun _ _ _ h => h) (Or.inl ⟨by rfl, fun w hSw => ?_⟩) (by assumption) ?_
                                  · dsimp only at hSw
                                    go_simp
                                  try simp only [Act.put, List.setIfInBounds_toArray, List.set_cons_zero, List.set_cons_succ]
                                  refine wpAnyH_take (i := 11) (oi := ⟨some 168, _, _, _, _, _⟩) (v := .slice (some ⟨s, o, none⟩) n cap) rfl (by kernel_rfl) (by kernel_rfl) (by kernel_rfl) (fun _ _ _ h => h) (Or.inl ⟨by rfl, fun w hSw => ?_⟩) (by assumption) ?_
                                  · dsimp only at hSw
                                    go_simp
                                  try simp only [Act.put, List.setIfInBounds_toArray, List.set_cons_zero, List.set_cons_succ]
                                  refine wpAnyH_take (i := 12) (oi := ⟨some 169, _, _, _, _, _⟩) (v := .int .i64 (i : Int)) rfl (by kernel_rfl) (by kernel_rfl) (by kernel_rfl) (fun _ _ _ h => h) (Or.inl ⟨by rfl, fun w hSw => ?_⟩) (by assumption) ?_
                                  · dsimp only at hSw
                                    go_simp
                                  try simp only [Act.put, List.setIfInBounds_toArray, List.set_cons_zero, List.set_cons_succ]
                                  refine wpAnyH_take (i := 13) (oi := ⟨some 170, _, _, _, _, _⟩) (v := .pointer (some ⟨s, o + i * 5, none⟩)) rfl (by kernel_rfl) (by kernel_rfl) (by kernel_rfl) (fun _ _ _ h => h) (Or.inl ⟨by rfl, fun w hSw => ?_⟩) (by assumption) ?_
                                  · dsimp only at hSw
                                    go_simp
                                  try simp only [Act.put, List.setIfInBounds_toArray, List.set_cons_zero, List.set_cons_succ]
                                  refine wpAnyH_take (i := 14) (oi := ⟨some 171, _, _, _, _, _⟩) (v := .agg #[.int .i64 (elAt es i).line, .int .i64 (elAt es i).col, .string (elAt es i).entry, .string (elAt es i).rule, .string (elAt es i).msg]) rfl (by kernel_rfl) (by kernel_rfl) (by kernel_rfl) (fun _ _ _ h => h) (Or.inl ⟨by rfl, fun w hSw => ?_⟩) (by assumption) ?_
                                  · dsimp only at hSw
                                    go_simp
                                  try simp only [Act.put, List.setIfInBounds_toArray, List.set_cons_zero, List.set_cons_succ]
                                  refine wpAnyH_take (i := 15) (oi := ⟨some 172, _, _, _, _, _⟩) (v := .agg #[.int .i64 (p).line, .int .i64 (p).col, .string (p).entry, .string (p).rule, .string (p).msg]) rfl (by kernel_rfl) (by kernel_rfl) (by kernel_rfl) (fun _ _ _ h => h) (Or.inl ⟨by rfl, fun w hSw => ?_⟩) (by assumption) ?_
                                  · dsimp only at hSw
                                    go_simp
                                  try simp only [Act.put, List.setIfInBounds_toArray, List.set_cons_zero, List.set_cons_succ]
                                  refine wpAnyH_ready (rs := [16]) (by kernel_rfl) (by simp) ?_
                                  refine AllReadyH.cons (o := ⟨some 173, _, _, _, _, _⟩) rfl (fun K hK => ?_) AllReadyH.nil
                                  go_simp
                                  go_at_call 12
                                  refine (same_any (elAt es i).line (elAt es i).col p.line p.col (elAt es i).entry (elAt es i).rule (elAt es i).msg p.entry p.rule p.msg _ bs HSM.out).mono ?_
                                  rintro e w16 ⟨rfl, hb16⟩
                                  go_wp2_with fail
                                  refine hK.out _ _ ?_ (fun hHeld => ?_)
                                  · exact keepP (by assumption) (by assumption)
                                  clear hK K
                                  try simp only [Act.put, List.setIfInBounds_toArray, List.set_cons_zero, List.set_cons_succ]
                                  refine wpAnyH_take (i := 17) (oi := ⟨some 174, _, _, _, _, _⟩) (v := .bool bs) rfl (by kernel_rfl) (by kernel_rfl) (by kernel_rfl) (fun _ _ _ h => h) (Or.inl ⟨by rfl, fun w hSw => ?_⟩) (by assumption) ?_
                                  · dsimp only at hSw
                                    go_simp
                                  try simp only [Act.put, List.setIfInBounds_toArray, List.set_cons_zero, List.set_cons_succ]
                                  refine wpAnyH_take (i := 18) (oi := ⟨some 175, _, _, _, _, _⟩) (v := .bool bs) rfl (by kernel_rfl) (by kernel_rfl) (by kernel_rfl) (fun _ _ _ h => h) (Or.inl ⟨by rfl, fun w hSw => ?_⟩) (by assumption) ?_
                                  · dsimp only at hSw
                                    go_simp
                                  try simp only [Act.put, List.setIfInBounds_toArray, List.set_cons_zero, List.set_cons_succ]
                                  refine wpAnyH_done (by kernel_rfl) ?_ _
                                  have hb7 := (hb13.drew.trans (hb15.mono hbsz)).trans (hb16.mono (Nat.le_trans hbsz hb15.size))
                                  cases bs with
                                  | true =>
                                    go_wp2
                                    go_roundw
                                    case rel => exact ⟨c + 1, i + 1, by omega, by omega, by rw [cnt_succ, ← HC.out, if_pos HA.out], by go_num, by go_num, hb7⟩
                                    case measure => simp [intOf]; omega
                                  | false =>
                                    go_wp2
                                    go_roundw
                                    case rel => exact ⟨c, i + 1, by omega, by omega, by rw [cnt_succ, ← HC.out, HA.out]; rfl, rfl, by go_num, hb7⟩
                                    case measure => simp [intOf]; omega
                                · have hji' : ¬ (i : Int) < (m : Int) := by omega
                                  have HA : Hid (cnt es m p i = false) := by show _ = _; unfold cnt; rw [hbf, decide_eq_false hji]; rfl
                                  clear hbf
                                  go_wp2_with fail
                                  refine wp_region_held_drew (S := fun w' => w'.cell? ⟨s, o + i * 5, none⟩ = some (.int .i64 (elAt es i).line) ∧ w'.cell? ⟨s, o + i * 5 + 1, none⟩ = some (.int .i64 (elAt es i).col) ∧ w'.cell? ⟨s, o + i * 5 + 2, none⟩ = some (.string (elAt es i).entry) ∧ w'.cell? ⟨s, o + i * 5 + 3, none⟩ = some (.string (elAt es i).rule) ∧ w'.cell? ⟨s, o + i * 5 + 4, none⟩ = some (.string (elAt es i).msg) ∧ w'.cell? ⟨pb, 0, none⟩ = some (.int .i64 (p).line) ∧ w'.cell? ⟨pb, 1, none⟩ = some (.int .i64 (p).col) ∧ w'.cell? ⟨pb, 2, none⟩ = some (.string (p).entry) ∧ w'.cell? ⟨pb, 3, none⟩ = some (.string (p).rule) ∧ w'.cell? ⟨pb, 4, none⟩ = some (.string (p).msg)) (by kernel_rfl) ?_ (fun hHeld => ?_)
                                  · exact ⟨c0, c1, c2, c3, c4, q0, q1, q2, q3, q4⟩
                                  refine wpAnyH_take (i := 0) (oi := ⟨some 157, _, _, _, _, _⟩) (v := .slice (some ⟨s, o, none⟩) n cap) rfl (by kernel_rfl) (by kernel_rfl) (by kernel_rfl) (fun _ _ _ h => h) (Or.inl ⟨by rfl, fun w hSw => ?_⟩) (by assumption) ?_
                                  · dsimp only at hSw
                                    go_simp
                                  try simp only [Act.put, List.setIfInBounds_toArray, List.set_cons_zero, List.set_cons_succ]
                                  refine wpAnyH_take (i := 1) (oi := ⟨some 158, _, _, _, _, _⟩) (v := .int .i64 (i : Int)) rfl (by kernel_rfl) (by kernel_rfl) (by kernel_rfl) (fun _ _ _ h => h) (Or.inl ⟨by rfl, fun w hSw => ?_⟩) (by assumption) ?_
                                  · dsimp only at hSw
                                    go_simp
                                  try simp only [Act.put, List.setIfInBounds_toArray, List.set_cons_zero, List.set_cons_succ]
                                  refine wpAnyH_take (i := 2) (oi := ⟨some 159, _, _, _, _, _⟩) (v := .pointer (some ⟨s, o + i * 5, none⟩)) rfl (by kernel_rfl) (by kernel_rfl) (by kernel_rfl) (fun _ _ _ h => h) (Or.inl ⟨by rfl, fun w hSw => ?_⟩) (by assumption) ?_
                                  · dsimp only at hSw
                                    go_simp
                                  try simp only [Act.put, List.setIfInBounds_toArray, List.set_cons_zero, List.set_cons_succ]
                                  refine wpAnyH_take (i := 3) (oi := ⟨some 160, _, _, _, _, _⟩) (v := .agg #[.int .i64 (elAt es i).line, .int .i64 (elAt es i).col, .string (elAt es i).entry, .string (elAt es i).rule, .string (elAt es i).msg]) rfl (by kernel_rfl) (by kernel_rfl) (by kernel_rfl) (fun _ _ _ h => h) (Or.inl ⟨by rfl, fun w hSw => ?_⟩) (by assumption) ?_
                                  · dsimp only at hSw
                                    go_simp
                                  try simp only [Act.put, List.setIfInBounds_toArray, List.set_cons_zero, List.set_cons_succ]
                                  refine wpAnyH_take (i := 4) (oi := ⟨some 161, _, _, _, _, _⟩) (v := .agg #[.int .i64 (p).line, .int .i64 (p).col, .string (p).entry, .string (p).rule, .string (p).msg]) rfl (by kernel_rfl) (by kernel_rfl) (by kernel_rfl) (fun _ _ _ h => h) (Or.inl ⟨by rfl, fun w hSw => ?_⟩) (by assumption) ?_
                                  · dsimp only at hSw
                                    go_simp
                                  try simp only [Act.put, List.setIfInBounds_toArray, List.set_cons_zero, List.set_cons_succ]
                                  refine wpAnyH_ready (rs := [5]) (by kernel_rfl) (by simp) ?_
                                  refine AllReadyH.cons (o := ⟨some 162, _, _, _, _, _⟩) rfl (fun K hK => ?_) AllReadyH.nil
                                  go_simp
                                  go_at_call 11
                                  refine (before_any (elAt es i).line (elAt es i).col p.line p.col (elAt es i).entry (elAt es i).rule (elAt es i).msg p.entry p.rule p.msg _ false HBE.out).mono ?_
                                  rintro e w15 ⟨rfl, hb15⟩
                                  go_wp2_with fail
                                  refine hK.out _ _ ?_ (fun hHeld => ?_)
                                  · exact keepP (by assumption) (by assumption)
                                  clear hK K
                                  try simp only [Act.put, List.setIfInBounds_toArray, List.set_cons_zero, List.set_cons_succ]
                                  refine wpAnyH_take (i := 6) (oi := ⟨some 163, _, _, _, _, _⟩) (v := .bool false) rfl (by kernel_rfl) (by kernel_rfl) (by kernel_rfl) (fun _ _ _ h => h) (Or.inl ⟨by rfl, fun w hSw => ?_⟩) (by assumption) ?_
                                  · dsimp only at hSw
                                    go_simp
                                  try simp only [Act.put, List.setIfInBounds_toArray, List.set_cons_zero, List.set_cons_succ]
                                  refine wpAnyH_take (i := 7) (oi := ⟨some 164, _, _, _, _, _⟩) (v := .int .i64 (i : Int)) rfl (by kernel_rfl) (by kernel_rfl) (by kernel_rfl) (fun _ _ _ h => h) (Or.inl ⟨by rfl, fun w hSw => ?_⟩) (by assumption) ?_
                                  · dsimp only at hSw
                                    go_simp
                                  try simp only [Act.put, List.setIfInBounds_toArray, List.set_cons_zero, List.set_cons_succ]
                                  refine wpAnyH_take (i := 8) (oi := ⟨some 165, _, _, _, _, _⟩) (v := .int .i64 (m : Int)) rfl (by kernel_rfl) (by kernel_rfl) (by kernel_rfl) (fun _ _ _ h => h) (Or.inl ⟨by rfl, fun w hSw => ?_⟩) (by assumption) ?_
                                  · dsimp only at hSw
                                    go_simp
                                  try simp only [Act.put, List.setIfInBounds_toArray, List.set_cons_zero, List.set_cons_succ]
                                  refine wpAnyH_take (i := 9) (oi := ⟨some 166, _, _, _, _, _⟩) (v := .bool false) rfl (by kernel_rfl) (by kernel_rfl) (by kernel_rfl) (fun _ _ _ h => h) (Or.inl ⟨by rfl, fun w hSw => ?_⟩) (by assumption) ?_
                                  · dsimp only at hSw
                                    go_simp
                                  try simp only [Act.put, List.setIfInBounds_toArray, List.set_cons_zero, List.set_cons_succ]
                                  refine wpAnyH_take (i := 10) (oi := ⟨some 167, _, _, _, _, _⟩) (v := .bool false) rfl (by kernel_rfl) (by kernel_rfl) (by kernel_rfl) (fun _ _ _ h => h) (Or.inl ⟨by rfl, fun w hSw => ?_⟩) (by assumption) ?_
                                  · dsimp only at hSw
                                    go_simp
                                  try simp only [Act.put, List.setIfInBounds_toArray, List.set_cons_zero, List.set_cons_succ]
                                  refine wpAnyH_take (i := 11) (oi := ⟨some 168, _, _, _, _, _⟩) (v := undef) rfl (by kernel_rfl) (by kernel_rfl) (by kernel_rfl) (fun _ _ _ h => h) (Or.inr ⟨by rfl, rfl⟩) (by assumption) ?_
                                  try simp only [Act.put, List.setIfInBounds_toArray, List.set_cons_zero, List.set_cons_succ]
                                  refine wpAnyH_take (i := 12) (oi := ⟨some 169, _, _, _, _, _⟩) (v := undef) rfl (by kernel_rfl) (by kernel_rfl) (by kernel_rfl) (fun _ _ _ h => h) (Or.inr ⟨by rfl, rfl⟩) (by assumption) ?_
                                  try simp only [Act.put, List.setIfInBounds_toArray, List.set_cons_zero, List.set_cons_succ]
                                  refine wpAnyH_take (i := 13) (oi := ⟨some 170, _, _, _, _, _⟩) (v := undef) rfl (by kernel_rfl) (by kernel_rfl) (by kernel_rfl) (fun _ _ _ h => h) (Or.inr ⟨by rfl, rfl⟩) (by assumption) ?_
                                  try simp only [Act.put, List.setIfInBounds_toArray, List.set_cons_zero, List.set_cons_succ]
                                  refine wpAnyH_take (i := 14) (oi := ⟨some 171, _, _, _, _, _⟩) (v := undef) rfl (by kernel_rfl) (by kernel_rfl) (by kernel_rfl) (fun _ _ _ h => h) (Or.inr ⟨by rfl, rfl⟩) (by assumption) ?_
                                  try simp only [Act.put, List.setIfInBounds_toArray, List.set_cons_zero, List.set_cons_succ]
                                  refine wpAnyH_take (i := 15) (oi := ⟨some 172, _, _, _, _, _⟩) (v := undef) rfl (by kernel_rfl) (by kernel_rfl) (by kernel_rfl) (fun _ _ _ h => h) (Or.inr ⟨by rfl, rfl⟩) (by assumption) ?_
                                  try simp only [Act.put, List.setIfInBounds_toArray, List.set_cons_zero, List.set_cons_succ]
                                  refine wpAnyH_take (i := 16) (oi := ⟨some 173, _, _, _, _, _⟩) (v := undef) rfl (by kernel_rfl) (by kernel_rfl) (by kernel_rfl) (fun _ _ _ h => h) (Or.inr ⟨by rfl, rfl⟩) (by assumption) ?_
                                  try simp only [Act.put, List.setIfInBounds_toArray, List.set_cons_zero, List.set_cons_succ]
                                  refine wpAnyH_take (i := 17) (oi := ⟨some 174, _, _, _, _, _⟩) (v := .bool false) rfl (by kernel_rfl) (by kernel_rfl) (by kernel_rfl) (fun _ _ _ h => h) (Or.inl ⟨by rfl, fun w hSw => ?_⟩) (by assumption) ?_
                                  · dsimp only at hSw
                                    go_simp
                                  try simp only [Act.put, List.setIfInBounds_toArray, List.set_cons_zero, List.set_cons_succ]
                                  refine wpAnyH_take (i := 18) (oi := ⟨some 175, _, _, _, _, _⟩) (v := .bool false) rfl (by kernel_rfl) (by kernel_rfl) (by kernel_rfl) (fun _ _ _ h => h) (Or.inl ⟨by rfl, fun w hSw => ?_⟩) (by assumption) ?_
                                  · dsimp only at hSw
                                    go_simp
                                  try simp only [Act.put, List.setIfInBounds_toArray, List.set_cons_zero, List.set_cons_succ]
                                  refine wpAnyH_done (by kernel_rfl) ?_ _
                                  go_wp2
                                  go_roundw
                                  case rel => exact ⟨c, i + 1, by omega, by omega, by rw [cnt_succ, ← HC.out, HA.out]; rfl, rfl, by go_num, hb13.drew.trans (hb15.mono hbsz)⟩
                                  case measure => simp [intOf]; omega
                            · obtain rfl : n = i := by omega
                              have hes2 : m ≤ es.length := by rw [← HN.out]; exact hmn
                              have hS21' : S2.Perm (List.range (es.length + 1)) := by rw [← HN.out, ← HN2.out]; exact hS21
                              have hcc : c = (List.range es.length).countP (cnt es m p) := by rw [← HN.out]; exact HC.out
                              have hPos : S2[c]? = some m := by
                                rw [hcc, ← pos_eq hes2]
                                exact place hS21' hS22 hS23 (by omega)
                              have HS2L : Hid (S2.length = n2) := by show _ = _; rw [hS21.length_eq, List.length_range]
                              have hcn : c < n2 := by
                                have := (List.getElem?_eq_some_iff.1 hPos).1
                                rw [HS2L.out] at this
                                exact this
                              have hi2 : (c : Int) < (n2 : Int) := by omega
                              have ⟨e0, e1, e2, e3⟩ := outr_at' (hO2'.below hb13) HS2L.out hPos
                              rw [at_p hes2] at e0 e1 e2 e3
                              rw [hpf] at e0
                              obtain ⟨q0, q1, q2, q3, q4⟩ := hP0.below hB13
                              have HMV : Hid (∀ i t, S1[i]? = some t → S2[if c ≤ i then i + 1 else i]? = some (phi m t) ∧ elAt (withP es m p) (phi m t) = elAt es t) := fun i t hit => by
                                have h3 := moved hes2 (by rw [← HN.out]; exact hS11) hS12 hS13 hS21' hS22 hS23 hcc hit
                                exact ⟨h3.2.2, at_phi hes2 h3.1⟩
                              have HS1L : Hid (S1.length = n) := by show _ = _; rw [hS11.length_eq, List.length_range]
                              have hq30 := fun w a n c => Lib.run_eql_slice_nil (P := Try.prog) w 30 34 a n c 0 0 Try.underlying30
                              have hne2 : ((n2 : Int) != (n2 : Int)) = false := by simp
                              clear hcc hS21' hPos hi hci hlt
                              by_cases h0 : n = 0
                              · obtain rfl := hn1 h0
                                have hz0 : ((n : Int) == 0) = true := by simp [h0]
                                have hnle : n ≤ 0 := by omega
                                clear hn1 hs1 hO1 h0
                                go_wp2_with fail
                                go_quiet (fail)
                                go_wp2_with fail
                                go_loopw [20, 21] (fun x _ wr => ∃ i : Nat, x = .int .i64 (i : Int) ∧ Below w11.heap.size w11 wr) (fun x _ _ => n - (intOf x).toNat)
                                case atStart => exact ⟨0, rfl, Below.drewN hb13 _⟩
                                case round =>
                                  obtain ⟨i, rfl, hb14⟩ := hrel
                                  have hni : ¬ (i : Int) < (n : Int) := by omega
                                  go_wp2_with fail
                                  go_ret
                                  exact hfin _ (hB12.trans (hb14.mono hB12.size))
                              · obtain rfl := hs1 (by omega)
                                have hz0 : ((n : Int) == 0) = false := by simp [h0]
                                have hOO := hO1 (by omega)
                                clear hn1 hs1 hO1 h0
                                go_wp2_with fail
                                go_quiet (fail)
                                go_wp2_with fail
                                clear e0 e1 e2 e3 q0 q1 q2 q3 q4
                                go_loopw [20, 21] (fun x _ wr => ∃ i : Nat, i ≤ n ∧ x = .int .i64 (i : Int) ∧ Below w11.heap.size w11 wr) (fun x _ _ => n - (intOf x).toNat)
                                case atStart => exact ⟨0, Nat.zero_le _, rfl, Below.drewN hb13 _⟩
                                case round =>
                                  obtain ⟨i, hi, rfl, hb14⟩ := hrel
                                  by_cases hlt : i < n
                                  · obtain ⟨t, ht⟩ : ∃ t, S1[i]? = some t := ⟨_, List.getElem?_eq_getElem (by rw [HS1L.out]; exact hlt)⟩
                                    obtain ⟨hmv, heq⟩ := HMV.out i t ht
                                    have ⟨f0, f1, f2, f3⟩ := outr_at' (hOO.below hb14) HS1L.out ht
                                    have hi1 : (i : Int) < (n : Int) := by omega
                                    clear ht
                                    by_cases hci : c ≤ i
                                    · rw [if_pos hci] at hmv
                                      have ⟨g0, g1, g2, g3⟩ := outr_at' (hO2'.below hb14) HS2L.out hmv
                                      rw [heq] at g0 g1 g2 g3
                                      obtain ⟨i2, hii⟩ : ∃ i2, i2 = i + 1 := ⟨_, rfl⟩
                                      rw [← hii] at g0 g1 g2 g3
                                      have ei2 : (i : Int) + 1 = (i2 : Int) := by omega
                                      have hi3 : (i2 : Int) < (n2 : Int) := by have := HN2.out; omega
                                      have HII : Hid (i2 = i + 1) := hii
                                      have hi2b : i2 ≤ 4097 := by omega
                                      clear hmv heq hii hO2' hOO
                                      go_wp2_with fail
                                      go_quiet (fail)
                                      go_wp2_with fail
                                      go_roundw
                                      case rel => exact ⟨i2, by have := HII.out; omega, rfl, Below.drewN hb14 _⟩
                                      case measure => have := HII.out; simp [intOf]; omega
                                    · rw [if_neg hci] at hmv
                                      have ⟨g0, g1, g2, g3⟩ := outr_at' (hO2'.below hb14) HS2L.out hmv
                                      rw [heq] at g0 g1 g2 g3
                                      have hi3 : (i : Int) < (n2 : Int) := by have := HN2.out; omega
                                      clear hmv heq hO2' hOO
                                      go_wp2_with fail
                                      go_quiet (fail)
                                      go_wp2_with fail
                                      go_roundw
                                      case rel => exact ⟨i + 1, by omega, by go_num, Below.drewN hb14 _⟩
                                      case measure => simp [intOf]; omega
                                  · obtain rfl : n = i := by omega
                                    go_wp2_with fail
                                    go_ret
                                    exact hfin _ (hB12.trans (hb14.mono hB12.size))
    · go_wp2
      all_goals (go_ret; exact hfin _ hb1)
end Go.Proofs.Qxb6613698a.srt
