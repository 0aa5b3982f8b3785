/-
  FnProblemsListsEveryProblemInFileOrder: the walk.
-/
import Derived.Test.Qxb6613698aByt
import Derived.Test.Qxb6613698aPos
import Derived.BigQuiet
namespace Go.Proofs.Qxb6613698a.srt
open Go.RowKit Go.Proofs.Qxb6613698a.lst
set_option linter.unusedSimpArgs false

def TPost (w : World) (e : Ending) (w' : World) : Prop := e = .returned (.bool true) ∧ Below w.heap.size w w'
theorem Src.belowB {w w' : World} {s o n : Nat} {f : Nat → El} (h : Src w s o n f) (hb : Below w.heap.size w w') : Src w' s o n f := h.below hb
theorem Below.drewN {N : Nat} {a w : World} (h : Below N a w) (n : Nat) : Below N a (w.drewN n) := ⟨h.os, h.tape, h.output, h.size, h.block⟩
theorem outr_at' {w : World} {h n : Nat} {E : Nat → El} {S : List Nat} (ho : Outr w h E S n) (hn : S.length = n) {i t : Nat} (hi : S[i]? = some t) :
    w.cell? ⟨h, i * 4, none⟩ = some (.string (E t).file) ∧ w.cell? ⟨h, i * 4 + 1, none⟩ = some (.string (E t).entry) ∧ w.cell? ⟨h, i * 4 + 2, none⟩ = some (.string (E t).rule) ∧ w.cell? ⟨h, i * 4 + 3, none⟩ = some (.string (E t).msg) := by
  subst hn
  exact ho.at hi
theorem take_succ {es : List El} {k : Nat} (h : k < es.length) : es.take (k + 1) = es.take k ++ [elAt es k] := by
  rw [List.take_add_one]
  unfold elAt
  simp [List.getD, h]

set_option maxHeartbeats 4000000 in
set_option maxRecDepth 20000 in
theorem law3_any (file : ByteArray) (ao : Option Addr) (s o n cap : Nat) (es : List El) (w : World) (hn : n = es.length) (hf : ∀ j, j < n → (elAt es j).file = file) (hS : Src w s o n (elAt es)) (hao : 0 < n → ao = some ⟨s, o, none⟩) :
    Calls Try.prog 3 #[.string file, .slice ao n cap] w (TPost w) := by
  have hb5 := bytes5_any file ao s o n cap (elAt es) w hS hao
  have HN : Hid (n = es.length) := hn
  clear hn
  go_enter Try.func3, Try.ntmps3
  go_upto_if 15 with (go_at_call 5; refine hb5.mono ?_; rintro e w1 ⟨⟨b, rfl⟩, hw1⟩; subst w1)
  clear hb5
  cases b with
  | false =>
    go_wp2
    go_ret
    exact ⟨rfl, Below.refl _ _⟩
  | true =>
    by_cases hz : (file.size : Int) ≤ 65536
    · by_cases hn4 : n ≤ 4096
      · go_wp2_with fail
        go_loopw [5, 6] (fun y x wr => ∃ (c : Int) (j : Nat), j ≤ n ∧ y = .int .i64 c ∧ x = .int .i64 (j : Int) ∧ Below w.heap.size w wr) (fun _ x _ => n - (intOf x).toNat)
        case atStart => exact ⟨_, 0, Nat.zero_le _, rfl, rfl, Below.refl _ _⟩
        case round =>
          obtain ⟨c, j, hj, rfl, rfl, hB⟩ := hrel
          clear hz
          by_cases hlt : j < n
          · obtain rfl := hao (by omega)
            obtain ⟨c0, c1, c2, c3, c4⟩ := (hS.below hB) j hlt
            have hi1 : (j : Int) < (n : Int) := by omega
            clear hS hao hf
            go_wp2_with fail
            go_quiet (fail)
            go_wp2_with fail
            all_goals first
              | (go_ret; exact ⟨rfl, Below.drewN hB _⟩)
              | (go_roundw; (case rel => exact ⟨_, j + 1, by omega, rfl, by go_num, Below.drewN hB _⟩); (case measure => simp [intOf]; omega))
          · obtain rfl : n = j := by omega
            have hc6 := znew_any file wr
            go_wp2_with (go_at_call 6; refine hc6.mono ?_; rintro e w6 ⟨rfl, hR6, hb6⟩)
            have hB6 := hB.trans (hb6.mono hB.size)
            have hBr := hB.size
            clear hc6 hB hb6 hj hlt
            generalize wr.heap.size = r at *
            go_loopw [8] (fun x wr => ∃ k : Nat, k ≤ n ∧ x = .int .i64 (k : Int) ∧ Rdr r wr r file (es.take k) ∧ Below w.heap.size w wr) (fun x _ => n - (intOf x).toNat)
            case atStart => exact ⟨0, Nat.zero_le _, rfl, hR6, hB6⟩
            case round =>
              clear hR6 hB6
              obtain ⟨k, hk, rfl, hR, hB⟩ := hrel
              by_cases hlt : k < n
              · obtain rfl := hao (by omega)
                obtain ⟨c0, c1, c2, c3, c4⟩ := (hS.below hB) k hlt
                have hi1 : (k : Int) < (n : Int) := by omega
                have hfk := hf k hlt
                have hrep := report_any r r file (elAt es k).entry (elAt es k).rule (elAt es k).msg (elAt es k).line (elAt es k).col (es.take k) wr hR (by rw [List.length_take]; omega)
                have HT : Hid (es.take k ++ [⟨file, (elAt es k).entry, (elAt es k).rule, (elAt es k).msg, (elAt es k).line, (elAt es k).col⟩] = es.take (k + 1)) := by
                  show _ = _
                  rw [take_succ (by rw [← HN.out]; exact hlt), ← hfk]
                clear hS hao hf hfk hR
                go_wp2_with (go_at_call 7; refine hrep.mono ?_; rintro e w7 ⟨rfl, hR7, hb7⟩)
                go_roundw
                case rel => exact ⟨k + 1, by omega, by go_num, by rw [← HT.out]; exact hR7, hB.trans (hb7.mono hBr)⟩
                case measure => simp [intOf]; omega
              · obtain rfl : n = k := by omega
                have hes : es.take n = es := by rw [HN.out]; exact List.take_length
                rw [hes] at hR
                clear hes
                by_cases h0 : n = 0
                · subst h0
                  have hes : es = [] := List.eq_nil_of_length_eq_zero HN.out.symm
                  have hp := problems_none r r file wr (by rw [← hes]; exact hR)
                  clear hes
                  have hq := fun w a n c => Lib.run_eql_slice_nil (P := Try.prog) w 30 34 a n c 0 0 Try.underlying30
                  go_wp2_with (go_at_call 8; refine hp.mono ?_; rintro e w8 ⟨rfl, hw8⟩; subst w8)
                  go_ret
                  exact ⟨rfl, hB⟩
                · have hp := problems_some r r file es wr hR (by rw [← HN.out]; omega) (by rw [← HN.out]; omega)
                  have hne : ((n : Int) == 0) = false := by simp; omega
                  obtain rfl := hao (by omega)
                  go_wp2_with (go_at_call 8; refine hp.mono ?_; rintro e w8 ⟨hb8, S, h, hh, hS1, hS2, hS3, rfl, hO⟩; rw [← HN.out])
                  have hB8 := hB.trans (hb8.mono hB.size)
                  rw [← HN.out] at hO hS1
                  have HSL : Hid (S.length = n) := by show _ = _; rw [hS1.length_eq, List.length_range]
                  clear hp hR hb8 hB hao
                  go_loopw [10, 11] (fun x _ wr => ∃ i : Nat, i ≤ n ∧ x = .int .i64 (i : Int) ∧ Outr wr h (elAt es) S n ∧ Below w.heap.size w wr) (fun x _ _ => n - (intOf x).toNat)
                  case atStart => exact ⟨0, Nat.zero_le _, rfl, hO, hB8⟩
                  case round =>
                    clear hO hB8
                    obtain ⟨i, hi, rfl, hO, hB⟩ := hrel
                    by_cases hlt : i < n
                    · have hSr := hS.below hB
                      have hc9 := rank_any s o n cap i (elAt es) wr hSr hlt (by omega)
                      have hpl := place hS1 hS2 hS3 hlt
                      have hrl : rk (elAt es) i n < n := by
                        have := (List.getElem?_eq_some_iff.1 hpl).1
                        rw [HSL.out] at this
                        exact this
                      have hfi := hf i hlt
                      obtain ⟨q, hq⟩ : ∃ q, q = rk (elAt es) i n := ⟨_, rfl⟩
                      rw [← hq] at hc9 hpl hrl
                      have HPL : Hid (S[q]? = some i) := hpl
                      have hi1 : (i : Int) < (n : Int) := by omega
                      have hi2 : (q : Int) < (n : Int) := by omega
                      have hBs := hB.size
                      clear hq hpl hf
                      go_wp2_with (go_at_call 9; refine hc9.mono ?_; rintro e w9 ⟨rfl, hb9⟩; have hO9 := hO.below hb9; have hS9 := hSr.below hb9)
                      have hB9 := hB.trans (hb9.mono hBs)
                      obtain ⟨d0, d1, d2, d3, d4⟩ := hS9 i hlt
                      have ⟨e0, e1, e2, e3⟩ := outr_at' hO9 HSL.out HPL.out
                      rw [hfi] at e0
                      clear hO hB hb9 hc9
                      go_wp2_with fail
                      go_quiet (fail)
                      go_wp2
                      go_roundw
                      case rel => exact ⟨i + 1, by omega, by go_num, hO9.below (Below.drewN (Below.refl _ _) _), Below.drewN hB9 _⟩
                      case measure => simp [intOf]; omega
                    · obtain rfl : i = n := by omega
                      go_wp2
                      go_ret
                      exact ⟨rfl, hB⟩
      · go_wp2
        go_ret
        exact ⟨rfl, Below.refl _ _⟩
    · go_wp2
      go_ret
      exact ⟨rfl, Below.refl _ _⟩
end Go.Proofs.Qxb6613698a.srt
