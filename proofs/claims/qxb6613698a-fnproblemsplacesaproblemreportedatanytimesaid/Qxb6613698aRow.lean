/-
  The row that is sorted, as the walks are told of it; swapRangeCmpFunc.
-/
import Derived.Test.Qxb6613698aCmp
import Derived.Test.Qxb6613698aList
import Derived.BigRegion
namespace Go.Proofs.Qxb6613698a.srt
open Go.RowKit Go.Proofs.Qxb6613698a.lst
set_option linter.unusedSimpArgs false

/-- an element: a problem and its place -/
structure El where
  file : ByteArray
  entry : ByteArray
  rule : ByteArray
  msg : ByteArray
  line : Int
  col : Int
/-- its six cells -/
def cel (e : El) : List Value := [.string e.file, .string e.entry, .string e.rule, .string e.msg, .int .i64 e.line, .int .i64 e.col]
/-- the row in block g holds, place by place, the elements of the tags P -/
def Dat (w : World) (g : Nat) (E : Nat → El) (P : List Nat) : Prop :=
  ∃ R, w.heap[g]? = some (.cells R 46 (0, 0)) ∧ P.length * 6 ≤ R.size ∧ ∀ i (_ : i < P.length) j, j < 6 → R[i * 6 + j]? = (cel (E P[i]))[j]?

/-- nothing but block g has turned, and new blocks -/
def Gw (g : Nat) (w w' : World) : Prop := w.grownBy w' (some g)
theorem Gw.refl (g : Nat) (w : World) : Gw g w w := ⟨rfl, rfl, rfl, Nat.le_refl _, fun _ _ _ => rfl⟩
theorem Gw.trans {g : Nat} {a b c : World} (h : Gw g a b) (h' : Gw g b c) : Gw g a c :=
  ⟨h'.os.trans h.os, h'.tape.trans h.tape, h'.output.trans h.output, Nat.le_trans h.size h'.size, fun k hk hn => (h'.block k (Nat.lt_of_lt_of_le hk h.size) hn).trans (h.block k hk hn)⟩
theorem Gw.drew {g : Nat} {a b : World} (h : Gw g a b) : Gw g a b.drew := ⟨h.os, h.tape, h.output, h.size, h.block⟩
theorem Gw.drewN {g : Nat} {a b : World} (h : Gw g a b) (n : Nat) : Gw g a (b.drewN n) := ⟨h.os, h.tape, h.output, h.size, h.block⟩
theorem Gw.setCell {g : Nat} {a b : World} (h : Gw g a b) (o : Nat) (v : Value) : Gw g a (b.setCell ⟨g, o, none⟩ v) :=
  h.trans ⟨rfl, rfl, rfl, by simp [World.setCell], fun k _ hn => Below.heap_setCell b _ v k (fun e => hn (by rw [e]))⟩
theorem Gw.below {g : Nat} {a b : World} (h : Below a.heap.size a b) : Gw g a b := ⟨h.os, h.tape, h.output, h.size, fun k hk _ => h.block k hk⟩

theorem Dat.lt {w : World} {g : Nat} {E : Nat → El} {P : List Nat} (h : Dat w g E P) : g < w.heap.size := by
  obtain ⟨R, h1, _⟩ := h
  exact (Array.getElem?_eq_some_iff.1 h1).1
theorem Dat.below {w w' : World} {g : Nat} {E : Nat → El} {P : List Nat} (h : Dat w g E P) (hb : Below w.heap.size w w') : Dat w' g E P := by
  have hl := h.lt
  obtain ⟨R, h1, h2⟩ := h
  exact ⟨R, (hb.block g hl).trans h1, h2⟩
theorem Dat.drew {w : World} {g : Nat} {E : Nat → El} {P : List Nat} (h : Dat w g E P) : Dat w.drew g E P := h
theorem Dat.drewN {w : World} {g : Nat} {E : Nat → El} {P : List Nat} (h : Dat w g E P) (n : Nat) : Dat (w.drewN n) g E P := h
/-- the six cells of place i -/
theorem Dat.cells {w : World} {g : Nat} {E : Nat → El} {P : List Nat} (h : Dat w g E P) (i : Nat) (hi : i < P.length) :
    w.cell? ⟨g, i * 6, none⟩ = some (.string (E P[i]).file) ∧ w.cell? ⟨g, i * 6 + 1, none⟩ = some (.string (E P[i]).entry) ∧ w.cell? ⟨g, i * 6 + 2, none⟩ = some (.string (E P[i]).rule) ∧
    w.cell? ⟨g, i * 6 + 3, none⟩ = some (.string (E P[i]).msg) ∧ w.cell? ⟨g, i * 6 + 4, none⟩ = some (.int .i64 (E P[i]).line) ∧ w.cell? ⟨g, i * 6 + 5, none⟩ = some (.int .i64 (E P[i]).col) := by
  obtain ⟨R, h1, h2, h3⟩ := h
  have c := fun j => cell_of_row w g (i * 6 + j) R 46 (0, 0) h1
  exact ⟨(c 0).trans (h3 i hi 0 (by omega)), (c 1).trans (h3 i hi 1 (by omega)), (c 2).trans (h3 i hi 2 (by omega)), (c 3).trans (h3 i hi 3 (by omega)), (c 4).trans (h3 i hi 4 (by omega)), (c 5).trans (h3 i hi 5 (by omega))⟩
theorem Dat.free {w : World} {g : Nat} {E : Nat → El} {P : List Nat} (h : Dat w g E P) (o : Nat) : w.frozen? ⟨g, o, none⟩ = false := by
  obtain ⟨R, h1, _⟩ := h
  simp [World.frozen?, h1]
/-- an element stored at place i -/
theorem Dat.set {w : World} {g : Nat} {E : Nat → El} {P : List Nat} (h : Dat w g E P) (i t : Nat) (hi : i < P.length) :
    Dat ((((((w.setCell ⟨g, i * 6, none⟩ (.string (E t).file)).setCell ⟨g, i * 6 + 1, none⟩ (.string (E t).entry)).setCell ⟨g, i * 6 + 2, none⟩ (.string (E t).rule)).setCell ⟨g, i * 6 + 3, none⟩ (.string (E t).msg)).setCell ⟨g, i * 6 + 4, none⟩ (.int .i64 (E t).line)).setCell ⟨g, i * 6 + 5, none⟩ (.int .i64 (E t).col)) g E (P.set i t) := by
  obtain ⟨R, h1, h2, h3⟩ := h
  refine ⟨_, heap_setCell_same _ _ _ _ _ _ (heap_setCell_same _ _ _ _ _ _ (heap_setCell_same _ _ _ _ _ _ (heap_setCell_same _ _ _ _ _ _ (heap_setCell_same _ _ _ _ _ _ (heap_setCell_same _ _ _ _ _ _ h1))))), by simpa using h2, ?_⟩
  intro a ha j hj
  have ha' : a < P.length := by simpa using ha
  have hb : a * 6 + 6 ≤ R.size := by omega
  simp only [Array.getElem?_setIfInBounds, Array.size_setIfInBounds]
  by_cases e : a = i
  · subst e
    simp only [List.getElem_set_self]
    match j, hj with
    | 0, _ => simp [cel]; omega
    | 1, _ => simp [cel]; omega
    | 2, _ => simp [cel]; omega
    | 3, _ => simp [cel]; omega
    | 4, _ => simp [cel]; omega
    | 5, _ => simp [cel]; omega
  · rw [List.getElem_set_ne (by omega)]
    repeat rw [if_neg (by omega)]
    exact h3 a ha' j hj

theorem Dat.at {w : World} {g : Nat} {E : Nat → El} {P : List Nat} (h : Dat w g E P) {i t : Nat} (hi : P[i]? = some t) :
    w.cell? ⟨g, i * 6, none⟩ = some (.string (E t).file) ∧ w.cell? ⟨g, i * 6 + 1, none⟩ = some (.string (E t).entry) ∧ w.cell? ⟨g, i * 6 + 2, none⟩ = some (.string (E t).rule) ∧
    w.cell? ⟨g, i * 6 + 3, none⟩ = some (.string (E t).msg) ∧ w.cell? ⟨g, i * 6 + 4, none⟩ = some (.int .i64 (E t).line) ∧ w.cell? ⟨g, i * 6 + 5, none⟩ = some (.int .i64 (E t).col) := by
  obtain ⟨hl, e⟩ := List.getElem?_eq_some_iff.1 hi
  have := h.cells i hl
  rw [e] at this
  exact this

set_option maxHeartbeats 1000000 in
theorem swap_range (g : Nat) (E : Nat → El) (X U M V Y : List Nat) (N a b n cap : Nat) (f : Value) (w : World) (hUV : U.length = V.length) (hN : N = (X ++ U ++ M ++ V ++ Y).length) (ha : a = X.length) (hb : b = X.length + U.length + M.length) (hnn : n = U.length)
    (hd : Dat w g E (X ++ U ++ M ++ V ++ Y)) (hn : N ≤ 1048576) :
    Calls Try.prog 25 #[.slice (some ⟨g, 0, none⟩) N cap, .int .i64 a, .int .i64 b, .int .i64 n, f] w fun e w' =>
      e = .returned (.tuple #[]) ∧ Dat w' g E (X ++ V ++ M ++ U ++ Y) ∧ Gw g w w' := by
  have hNN : X.length + U.length + M.length + V.length + Y.length = N := by rw [hN]; simp only [List.length_append]
  have hab : a + n ≤ b := by omega
  have hbn : b + n ≤ N := by omega
  have HA : Hid (a = X.length) := ha
  have HB : Hid (b = X.length + U.length + M.length) := hb
  have HN : Hid (n = U.length) := hnn
  have HUV : Hid (U.length = V.length) := hUV
  have hz : swl X U M V Y 0 = X ++ U ++ M ++ V ++ Y := swl_zero X U M V Y
  rw [← hz] at hd
  have hlen : ∀ k, (swl X U M V Y k).length = N := fun k => by rw [swl_length X U M V Y k hUV]; omega
  clear ha hb hnn hUV hN hNN hz
  go_enter Try.func25, Try.ntmps25
  go_wp2
  go_loopw [10] (fun i wr => ∃ k : Nat, k ≤ n ∧ i = .int .i64 k ∧ Dat wr g E (swl X U M V Y k) ∧ Gw g w wr) (fun i _ => n - (intOf i).toNat)
  case atStart => exact ⟨0, Nat.zero_le _, rfl, hd, Gw.refl _ _⟩
  case round =>
    obtain ⟨k, hk, rfl, hdk, hg⟩ := hrel
    by_cases hlt : k < n
    · obtain ⟨x, hx⟩ : ∃ x, (swl X U M V Y k)[a + k]? = some x := ⟨_, by rw [HA.out]; exact swl_get1 X U M V Y k HUV.out (by have := HN.out; omega)⟩
      obtain ⟨y, hy⟩ : ∃ y, (swl X U M V Y k)[b + k]? = some y := ⟨_, by rw [HB.out]; exact swl_get2 X U M V Y k HUV.out (by have := HN.out; have := HUV.out; omega)⟩
      obtain ⟨c0, c1, c2, c3, c4, c5⟩ := hdk.at hx
      obtain ⟨d0, d1, d2, d3, d4, d5⟩ := hdk.at hy
      have hf := hdk.free
      have hak : (a : Int) + k < N := by omega
      have hbk : (b : Int) + k < N := by omega
      have HX : Hid ((swl X U M V Y k)[a + k]? = some x) := hx
      have HY : Hid ((swl X U M V Y k)[b + k]? = some y) := hy
      have hw1 : IntKind.i64.wrap ((a : Int) + k) = ((a + k : Nat) : Int) := by rw [IntKind.wrap_i64]; omega
      have hw2 : IntKind.i64.wrap ((b : Int) + k) = ((b + k : Nat) : Int) := by rw [IntKind.wrap_i64]; omega
      clear hx hy hd
      go_wp2_with fail
      go_region
      go_wp2
      go_roundw
      case rel =>
        refine ⟨k + 1, by omega, by go_num, ?_, ?_⟩
        · rw [← swl_next X U M V Y k a b x y HUV.out HA.out HB.out (by have := HN.out; omega) HX.out HY.out]
          have hl : (swl X U M V Y k).length = N := hlen k
          exact ((hdk.set (a + k) y (by omega)).set (b + k) x (by rw [List.length_set]; omega)).drew
        · exact ((((((((((((hg.setCell _ _).setCell _ _).setCell _ _).setCell _ _).setCell _ _).setCell _ _).setCell _ _).setCell _ _).setCell _ _).setCell _ _).setCell _ _).setCell _ _).drew
      case measure => simp [intOf]; omega
    · obtain rfl : k = n := by omega
      go_wp2
      go_end0
      refine ⟨rfl, ?_, hg⟩
      rw [← swl_all X U M V Y HUV.out, ← HN.out]
      exact hdk
end Go.Proofs.Qxb6613698a.srt
