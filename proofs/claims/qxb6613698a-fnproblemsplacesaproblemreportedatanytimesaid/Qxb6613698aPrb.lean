/-
  Clone, and (*Reader).Problems.
-/
import Derived.Test.Qxb6613698aRdr
import Derived.Test.Qxb6613698aStb
namespace Go.Proofs.Qxb6613698a.srt
open Go.RowKit Go.Proofs.Qxb6613698a.lst
set_option linter.unusedSimpArgs false

theorem flat_get : ∀ (es : List El) (i j : Nat) (hi : i < es.length), j < 6 → (es.flatMap cel)[i * 6 + j]? = (cel es[i])[j]? := by
  intro es
  induction es with
  | nil => intro i j hi; simp at hi
  | cons e es ih =>
    intro i j hi hj
    rw [List.flatMap_cons]
    have hl : (cel e).length = 6 := rfl
    cases i with
    | zero => rw [List.getElem?_append_left (by omega)]; simp
    | succ i =>
      rw [List.getElem?_append_right (by omega), hl]
      have : (i + 1) * 6 + j - 6 = i * 6 + j := by omega
      rw [this, ih i j (by simpa using hi) hj]
      rfl
/-- the reported elements, by number -/
def elAt (es : List El) (i : Nat) : El := es.getD i ⟨ByteArray.empty, ByteArray.empty, ByteArray.empty, ByteArray.empty, 0, 0⟩
theorem dat_of {base : Nat} {w : World} {g n cap : Nat} {es : List El} (h : w.ownsRow base 46 6 (.slice (some ⟨g, 0, none⟩) n cap) es.length (es.flatMap cel)) : Dat w g (elAt es) (List.range es.length) := by
  rcases h.2 with ⟨h, _⟩ | ⟨g', cap', cur, hv, _, hg, hc, _, hs, ht⟩
  · simp at h
  · simp at hv
    obtain ⟨rfl, rfl, rfl⟩ := hv
    refine ⟨cur, hg, by rw [List.length_range, hs]; exact Nat.mul_le_mul_right 6 hc, ?_⟩
    intro i hi j hj
    rw [List.length_range] at hi
    have h1 := flat_get es i j hi hj
    rw [← ht, List.getElem?_take, if_pos (by omega)] at h1
    simp only [List.getElem_range]
    have h2 : elAt es i = es[i] := by unfold elAt; simp [List.getD, hi]
    rw [h2, ← h1]
    simp
theorem grown_below {w w' : World} (h : w.grownBy w' none) : Below w.heap.size w w' := ⟨h.os, h.tape, h.output, h.size, fun k hk => h.block k hk (by simp)⟩

set_option maxHeartbeats 1000000 in
theorem clone_any (base : Nat) (v : Value) (es : List El) (w : World) (ho : w.ownsRow base 46 6 v es.length (es.flatMap cel)) (h0 : 0 < es.length) (hn : es.length ≤ 65536) :
    Calls Try.prog 15 #[v] w fun e w' => ∃ v', e = .returned v' ∧ w'.ownsRow w.heap.size 46 6 v' es.length (es.flatMap cel) ∧ Below w.heap.size w w' := by
  rcases ho.2 with ⟨_, h⟩ | ⟨g, cap, cur, rfl, hb, hg, hc, hm, hs, ht⟩
  · omega
  have hx1 := fun j u h => ho.cells (g := g) rfl j u h
  have hlen : (es.flatMap cel).length = es.length * 6 := ho.1
  have h1c : ∀ u ∈ es.flatMap cel, u.oneCell' = true := by
    intro u hu
    obtain ⟨x, _, hx⟩ := List.mem_flatMap.1 hu
    exact cel_one x u hx
  obtain ⟨i0, hi, hz0, hz1, hz2⟩ := info_parts inf46
  have hgl : g < w.heap.size := (Array.getElem?_eq_some_iff.1 hg).1
  have hx2 : ∀ o : Obj, ∀ j u, (es.flatMap cel)[j]? = some u → (w.alloc o).cell? ((⟨g, 0, none⟩ : Addr).add j) = some u := by
    intro o j u hu
    exact (World.grownBy_alloc w o none).cell (hx1 j u hu) (by simp)
  have HX : Hid (∀ o : Obj, ∀ j u, (es.flatMap cel)[j]? = some u → (w.alloc o).cell? ((⟨g, 0, none⟩ : Addr).add j) = some u) := hx2
  clear hx1 hx2 hg ht hs ho
  have hq := fun w a n c => Lib.run_eql_slice_nil (P := Try.prog) w 41 46 a n c 0 0 Try.underlying41
  go_enter Try.func15, Try.ntmps15
  go_wp2_with (at_builtin; refine wpList_append_own _ rfl _ _ 41 rfl w.heap.size 46 i0 (.agg #[em, em, em, em, .int .i64 0, .int .i64 0]) 6 80 Try.underlying41 hi hz0 hz1 hz2 rfl (by decide) (.slice (some ⟨w.heap.size, 0, none⟩) 0 0) 0 [] rfl (World.ownsRow_made w #[] 0 (Nat.le_refl _) (by unfold maxLen; omega) rfl) ⟨g, 0, none⟩ es.length cap (es.flatMap cel) rfl hlen (HX.out _) h1c (by unfold maxLen; omega) (by omega) (by simp) ?_; intro v' w' ho hg _)
  go_ret
  refine ⟨_, rfl, by simpa using ho, ?_⟩
  have h1 := (Below.refl w.heap.size w).alloc (Nat.le_refl _) (.cells #[] 46)
  refine h1.trans ⟨hg.os, hg.tape, hg.output, hg.size, fun k hk => hg.block k (by simp; omega) (by simp [Value.ownBlock]; omega)⟩

/-- the list that is handed out: of each element of S the problem -/
def Outr (w : World) (h : Nat) (E : Nat → El) (S : List Nat) (k : Nat) : Prop :=
  ∃ R, w.heap[h]? = some (.cells R 34 (0, 0)) ∧ R.size = S.length * 4 ∧ ∀ i (_ : i < S.length), i < k → ∀ j, j < 4 → R[i * 4 + j]? = (cel (E S[i]))[j]?
theorem Outr.at {w : World} {h : Nat} {E : Nat → El} {S : List Nat} (ho : Outr w h E S S.length) {i t : Nat} (hi : S[i]? = some t) :
    w.cell? ⟨h, i * 4, none⟩ = some (.string (E t).file) ∧ w.cell? ⟨h, i * 4 + 1, none⟩ = some (.string (E t).entry) ∧ w.cell? ⟨h, i * 4 + 2, none⟩ = some (.string (E t).rule) ∧ w.cell? ⟨h, i * 4 + 3, none⟩ = some (.string (E t).msg) := by
  obtain ⟨hl, e⟩ := List.getElem?_eq_some_iff.1 hi
  obtain ⟨R, h1, h2, h3⟩ := ho
  have c := fun j => cell_of_row w h (i * 4 + j) R 34 (0, 0) h1
  have h4 := h3 i hl hl
  rw [e] at h4
  exact ⟨(c 0).trans (h4 0 (by omega)), (c 1).trans (h4 1 (by omega)), (c 2).trans (h4 2 (by omega)), (c 3).trans (h4 3 (by omega))⟩
theorem Outr.set {w : World} {h : Nat} {E : Nat → El} {S : List Nat} {k t : Nat} (ho : Outr w h E S k) (hk : S[k]? = some t) :
    Outr ((((w.setCell ⟨h, k * 4, none⟩ (.string (E t).file)).setCell ⟨h, k * 4 + 1, none⟩ (.string (E t).entry)).setCell ⟨h, k * 4 + 2, none⟩ (.string (E t).rule)).setCell ⟨h, k * 4 + 3, none⟩ (.string (E t).msg)) h E S (k + 1) := by
  obtain ⟨hl, e⟩ := List.getElem?_eq_some_iff.1 hk
  obtain ⟨R, h1, h2, h3⟩ := ho
  refine ⟨_, heap_setCell_same _ _ _ _ _ _ (heap_setCell_same _ _ _ _ _ _ (heap_setCell_same _ _ _ _ _ _ (heap_setCell_same _ _ _ _ _ _ h1))), by simpa using h2, ?_⟩
  intro a ha hak j hj
  have hb : a * 4 + 4 ≤ R.size := by omega
  simp only [Array.getElem?_setIfInBounds, Array.size_setIfInBounds]
  by_cases e2 : a = k
  · subst e2
    rw [e]
    match j, hj with
    | 0, _ => simp [cel]; omega
    | 1, _ => simp [cel]; omega
    | 2, _ => simp [cel]; omega
    | 3, _ => simp [cel]; omega
  · repeat rw [if_neg (by omega)]
    exact h3 a ha (by omega) j hj
theorem Outr.lt {w : World} {h : Nat} {E : Nat → El} {S : List Nat} {k : Nat} (ho : Outr w h E S k) : h < w.heap.size := by
  obtain ⟨R, h1, _⟩ := ho
  exact (Array.getElem?_eq_some_iff.1 h1).1
theorem Outr.below {w w' : World} {h : Nat} {E : Nat → El} {S : List Nat} {k : Nat} (ho : Outr w h E S k) (hb : Below w.heap.size w w') : Outr w' h E S k := by
  have hl := ho.lt
  obtain ⟨R, h1, h2⟩ := ho
  exact ⟨R, (hb.block h hl).trans h1, h2⟩
theorem Outr.free {w : World} {h : Nat} {E : Nat → El} {S : List Nat} {k : Nat} (ho : Outr w h E S k) (o : Nat) : w.frozen? ⟨h, o, none⟩ = false := by
  obtain ⟨R, h1, _⟩ := ho
  simp [World.frozen?, h1]
theorem Outr.some {w : World} {h : Nat} {E : Nat → El} {S : List Nat} {k : Nat} (ho : Outr w h E S k) (i j : Nat) (hi : i < S.length) (hj : j < 4) : ∃ u, w.cell? ⟨h, i * 4 + j, none⟩ = some u := by
  obtain ⟨R, h1, h2, _⟩ := ho
  rw [cell_of_row w h _ R 34 (0, 0) h1]
  exact ⟨_, Array.getElem?_eq_getElem (by omega)⟩

/-- what Problems hands out -/
def PPost (es : List El) (w : World) (e : Ending) (w' : World) : Prop :=
  Below w.heap.size w w' ∧ ∃ (S : List Nat) (h : Nat), w.heap.size ≤ h ∧ S.Perm (List.range es.length) ∧ Sorted (pl (elAt es)) S ∧ Stab (pl (elAt es)) S ∧ e = .returned (.slice (some ⟨h, 0, none⟩) es.length es.length) ∧ Outr w' h (elAt es) S es.length

theorem problems_none (base r : Nat) (file : ByteArray) (w : World) (hR : Rdr base w r file []) :
    Calls Try.prog 8 #[.pointer (some ⟨r, 0, none⟩)] w fun e w' => e = .returned (.slice none 0 0) ∧ w' = w := by
  obtain ⟨hbr, hbw, v, hr, hown⟩ := hR
  have hc2 : w.cell? ⟨r, 2, none⟩ = some v := cell_of_row w r 2 _ 43 (0, 0) hr
  rcases hown.2 with ⟨rfl, _⟩ | ⟨g, cap, cur, rfl, _⟩
  · clear hr hown
    go_enter Try.func8, Try.ntmps8
    go_wp2
    go_ret
    exact ⟨rfl, rfl⟩
  · clear hr hown
    go_enter Try.func8, Try.ntmps8
    go_wp2
    go_ret
    exact ⟨rfl, rfl⟩

theorem own_form' {base e size n : Nat} {w : World} {v : Value} {xs : List Value} (h : w.ownsRow base e size v n xs) (h0 : 0 < n) : ∃ g cap, v = .slice (some ⟨g, 0, none⟩) n cap ∧ base ≤ g ∧ g < w.heap.size := by
  rcases h.2 with ⟨_, h9⟩ | ⟨g, cap, _, hv, hb, hg, _⟩
  · omega
  · exact ⟨g, cap, hv, hb, (Array.getElem?_eq_some_iff.1 hg).1⟩
theorem stab_range (k : Pl) (n : Nat) : Stab k (List.range n) := by
  unfold Stab
  exact List.Pairwise.imp (R := fun x y => x < y) (fun {a b} (h : a < b) (_ : same k a b) => h) List.pairwise_lt_range
theorem gw_below {g B : Nat} {w w' : World} (h : Gw g w w') (hB : B ≤ g) (hw : B ≤ w.heap.size) : Below B w w' := ⟨h.os, h.tape, h.output, h.size, fun k hk => h.block k (by omega) (by intro e; simp at e; omega)⟩
theorem Dat.other {w w' : World} {g h : Nat} {E : Nat → El} {P : List Nat} (hd : Dat w g E P) (hg : Gw h w w') (hne : g ≠ h) : Dat w' g E P := by
  have hl := hd.lt
  obtain ⟨R, h1, h2⟩ := hd
  exact ⟨R, (hg.block g hl (by intro e; simp at e; exact hne e)).trans h1, h2⟩
theorem outr_made {base h n : Nat} {w : World} {E : Nat → El} {S : List Nat} {z : Array Value} (ho : w.ownsRow base 34 4 (.slice (some ⟨h, 0, none⟩) n n) n (madeCells z (n * 4)).toList) (hS : S.length = n) : Outr w h E S 0 := by
  rcases ho.2 with ⟨hx, _⟩ | ⟨g', cap', cur, hv, _, hg, hc, _, hs, ht⟩
  · simp at hx
  · simp at hv
    obtain ⟨rfl, rfl⟩ := hv
    exact ⟨cur, hg, by rw [hs, hS], fun i _ hi => absurd hi (by omega)⟩

set_option maxHeartbeats 2000000 in
theorem problems_some (base r : Nat) (file : ByteArray) (es : List El) (w : World) (hR : Rdr base w r file es) (h0 : 0 < es.length) (hn : es.length ≤ 65536) :
    Calls Try.prog 8 #[.pointer (some ⟨r, 0, none⟩)] w (PPost es w) := by
  obtain ⟨hbr, hbw, v, hr, hown⟩ := hR
  have hc2 : w.cell? ⟨r, 2, none⟩ = some v := cell_of_row w r 2 _ 43 (0, 0) hr
  have hc := clone_any base v es w hown h0 hn
  obtain ⟨g0, cap0, rfl, _, _⟩ := own_form' hown h0
  obtain ⟨N, hN⟩ : ∃ N, N = es.length := ⟨_, rfl⟩
  have HN : Hid (N = es.length) := hN
  rw [← hN] at hc2 hc h0 hn
  clear hr hown hN hbr hbw
  have hne : ((N : Int) == 0) = false := by simp; omega
  have hN2 : N ≤ 65536 := hn
  obtain ⟨i0, hi, hz0, hz1, hz2⟩ := info_parts inf34
  go_enter Try.func8, Try.ntmps8
  go_wp2_with (first
    | (go_at_call 15; refine hc.mono ?_; rintro e w1 ⟨v', rfl, ho1, hb1⟩; obtain ⟨g, cap, rfl, hg0, hgl⟩ := own_form' ho1 h0; have hs1 := sort_any g (elAt es) (List.range es.length) N cap w1 (by rw [List.length_range]; exact HN.out) (dat_of (by rw [← HN.out]; exact ho1)) (stab_range _ _) hn; clear ho1)
    | (go_at_call 16; refine hs1.mono ?_; rintro e w2 ⟨rfl, ⟨S, hS1, hS2, hS3, hd2⟩, hgw⟩; clear hs1; have hb2 := hb1.trans (gw_below hgw hg0 hb1.size); have hg2 : g < w2.heap.size := hd2.lt; clear hb1 hgw hgl)
    | (at_make; refine wpList_make_full _ rfl _ _ 30 rfl w.heap.size 34 i0 (.agg #[em, em, em, em]) 4 Try.underlying30 hi hz0 hz1 _ _ _ _ N rfl rfl rfl rfl (by rw [hz2]; omega) (by unfold maxLen; omega) hb2.size ?_; intro w3 ho3 hg3; have hOut := outr_made (E := elAt es) (S := S) ho3 (by rw [hS1.length_eq, List.length_range]; exact HN.out.symm); have hd3 := hd2.below (grown_below hg3); have hb3 := hb2.trans ⟨hg3.os, hg3.tape, hg3.output, hg3.size, fun k hk => hg3.block k (by have := hb2.size; omega) (by simp)⟩; have hhw := hb2.size; clear ho3 hg3 hd2 hb2))
  have hgh : g ≠ w2.heap.size := by omega
  have hSl : S.length = N := by rw [hS1.length_eq, List.length_range]; exact HN.out.symm
  have HSL : Hid (S.length = N) := hSl
  clear hSl hg2 hc hi hz0 hz1 hz2 hc2
  generalize w2.heap.size = h at *
  have HHW : Hid (w.heap.size ≤ h) := hhw
  have hgw : w.heap.size ≤ g := hg0
  clear hhw hg0
  go_loopw [5, 6, 25] (fun _ _ z wr => ∃ k : Nat, k ≤ N ∧ z = .int .i64 (k : Int) ∧ Outr wr h (elAt es) S k ∧ Dat wr g (elAt es) S ∧ Below w.heap.size w wr) (fun _ _ z _ => N - (intOf z).toNat)
  case atStart => exact ⟨0, Nat.zero_le _, rfl, hOut, hd3, hb3⟩
  case round =>
    clear hOut hd3 hb3
    obtain ⟨k, hk, rfl, hO, hD, hB⟩ := hrel
    by_cases hlt : k < N
    · obtain ⟨t, ht⟩ : ∃ t, S[k]? = some t := ⟨_, List.getElem?_eq_getElem (by rw [HSL.out]; exact hlt)⟩
      obtain ⟨c0, c1, c2, c3, c4, c5⟩ := hD.at ht
      obtain ⟨u0, d0⟩ := hO.some k 0 (by rw [HSL.out]; exact hlt) (by omega)
      rw [Nat.add_zero] at d0
      obtain ⟨u1, d1⟩ := hO.some k 1 (by rw [HSL.out]; exact hlt) (by omega)
      obtain ⟨u2, d2⟩ := hO.some k 2 (by rw [HSL.out]; exact hlt) (by omega)
      obtain ⟨u3, d3⟩ := hO.some k 3 (by rw [HSL.out]; exact hlt) (by omega)
      have hf := hO.free
      have hgl := hD.lt
      have hhl := hO.lt
      have hi1 : (k : Int) < (N : Int) := by omega
      have HT : Hid (S[k]? = some t) := ht
      have hBs := hB.size
      clear ht
      go_wp2
      go_roundw
      case rel =>
        have hgg := ((((Gw.refl h wr).setCell (k * 4) (.string (elAt es t).file)).setCell (k * 4 + 1) (.string (elAt es t).entry)).setCell (k * 4 + 2) (.string (elAt es t).rule)).setCell (k * 4 + 3) (.string (elAt es t).msg)
        exact ⟨k + 1, by omega, by go_num, (hO.set HT.out).below ((Below.refl _ _).alloc (Nat.le_refl _) _), (hD.other hgg hgh).below ((Below.refl _ _).alloc (Nat.le_refl _) _), (hB.trans (gw_below hgg HHW.out hBs)).alloc (Nat.le_trans hBs hgg.size) _⟩
      case measure => simp [intOf]; omega
    · obtain rfl : k = N := by omega
      go_wp2
      go_ret
      exact ⟨hB, S, h, HHW.out, hS1, hS2, hS3, by rw [← HN.out]; rfl, by rw [← HN.out]; exact hO⟩
end Go.Proofs.Qxb6613698a.srt
