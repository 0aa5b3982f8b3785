/-
  The list of problems that came in, and one problem, as the walks are told of them.
-/
import Derived.Test.Qxb6613698aRows
import Derived.WalkKit
import Derived.ProofKit
import Derived.OpenShut
import Derived.ShutString
import Derived.ChangeOld
import Derived.Below
import Derived.Deep.SlicePairs
import Derived.Test.Qxb6613698aLw3
namespace Go.Proofs.Qxb6613698a.srt
open Go.ChangeShapes Go.WideShapes Go.ChangeAt Go.RowKit Go.Deep

theorem cells25 : Try.prog.cellsOf 25 = 5 := by kernel_rfl
theorem cells9 : Try.prog.cellsOf 9 = 1 := by kernel_rfl
theorem cells3 : Try.prog.cellsOf 3 = 1 := by kernel_rfl
theorem add_none (b o j : Nat) : (⟨b, o, none⟩ : Addr).add j = ⟨b, o + j, none⟩ := by unfold Addr.add; split <;> simp_all

theorem open_five {H : Type} {enc : TypeId × Value → H} {W : World} {fuel : Nat} {cs : List Value} {x : DataW H × List MemPlace}
    (h : DataW.trod enc Try.prog W 0 (fun _ => true) true fuel 25 cs = some x) :
    ∃ (ln cl : Int) (en ru me : ByteArray), cs = [.int .i64 ln, .int .i64 cl, .string en, .string ru, .string me] := by
  obtain ⟨xs, k, hk, hxy, hcl, hxl, hf⟩ := DataW.trod_struct Try.underlying25 h
  rw [cells25] at hcl
  match xs, hxl, cs, hcl with
  | [y0, y1, y2, y3, y4], _, [v0, v1, v2, v3, v4], _ =>
    have g0 := hf 0 _ rfl
    have g1 := hf 1 _ rfl
    have g2 := hf 2 _ rfl
    have g3 := hf 3 _ rfl
    have g4 := hf 4 _ rfl
    simp [cells9, cells3] at g0 g1 g2 g3 g4
    obtain ⟨z0, e0, _⟩ := DataW.trod_int Try.underlying3 g0
    obtain ⟨z1, e1, _⟩ := DataW.trod_int Try.underlying3 g1
    obtain ⟨z2, e2, _⟩ := DataW.trod_string Try.underlying9 g2
    obtain ⟨z3, e3, _⟩ := DataW.trod_string Try.underlying9 g3
    obtain ⟨z4, e4, _⟩ := DataW.trod_string Try.underlying9 g4
    simp at e0 e1 e2 e3 e4
    exact ⟨z0, z1, z2, z3, z4, by rw [e0, e1, e2, e3, e4]⟩

theorem open_problems {H : Type} {enc : TypeId × Value → H} {W : World} {a : Option Addr} {len cap fuel : Nat} {x : DataW H × List MemPlace} (file : ByteArray)
    (h : DataW.trod enc Try.prog W 0 (fun _ => true) true fuel 22 (Value.slice a len cap).cells.toList = some x) :
    ∃ (es : List El) (s o : Nat), len = es.length ∧ (∀ j, j < len → (elAt es j).file = file) ∧ Src W s o len (elAt es) ∧ (0 < len → a = some ⟨s, o, none⟩) := by
  rcases open_slice Try.underlying22 h with ⟨hcs, _⟩ | ⟨ad, l, c, m, n, D, Pl, hcs, _, hl, hm, hmm, _, hx⟩
  · simp [Value.cells] at hcs
    obtain ⟨rfl, rfl, rfl⟩ := hcs
    exact ⟨[], 0, 0, rfl, fun j hj => absurd hj (by omega), fun j hj => absurd hj (by omega), fun h => absurd h (by omega)⟩
  · simp [Value.cells] at hcs
    obtain ⟨rfl, rfl, rfl⟩ := hcs
    have hmc : m = cap := by simpa using hmm
    have each : ∀ i, i < len → ∃ q : El, q.file = file ∧ W.cell? (ad.add (i * 5)) = some (.int .i64 q.line) ∧ W.cell? (ad.add (i * 5 + 1)) = some (.int .i64 q.col) ∧ W.cell? (ad.add (i * 5 + 2)) = some (.string q.entry) ∧ W.cell? (ad.add (i * 5 + 3)) = some (.string q.rule) ∧ W.cell? (ad.add (i * 5 + 4)) = some (.string q.msg) := by
      intro i hi
      obtain ⟨cs', h1, h2⟩ := hx i (by omega)
      rw [cells25] at h1
      obtain ⟨_, hlen, hcell⟩ := World.cells?_some h1
      obtain ⟨ln, cl, en, ru, me, rfl⟩ := open_five h2
      have e0 := hcell 0 (by omega)
      have e1 := hcell 1 (by omega)
      have e2 := hcell 2 (by omega)
      have e3 := hcell 3 (by omega)
      have e4 := hcell 4 (by omega)
      rw [add_add] at e0 e1 e2 e3 e4
      exact ⟨⟨file, en, ru, me, ln, cl⟩, rfl, by simpa using e0, by simpa using e1, by simpa using e2, by simpa using e3, by simpa using e4⟩
    have : Inhabited El := ⟨⟨ByteArray.empty, ByteArray.empty, ByteArray.empty, ByteArray.empty, 0, 0⟩⟩
    obtain ⟨q, hq⟩ := choose_lt each
    have hel : ∀ j, j < len → elAt ((List.range len).map q) j = q j := by
      intro j hj
      unfold elAt
      simp [List.getD, hj]
    by_cases h0 : len = 0
    · subst h0
      exact ⟨[], 0, 0, rfl, fun j hj => absurd hj (by omega), fun j hj => absurd hj (by omega), fun h => absurd h (by omega)⟩
    · obtain ⟨b, off, spot⟩ := ad
      have hs : spot = none := by
        have := World.cell?_spot (hq 0 (by omega)).2.1
        simpa [Addr.add] using this
      subst hs
      refine ⟨(List.range len).map q, b, off, by simp, fun j hj => by rw [hel j hj]; exact (hq j hj).1, ?_, fun _ => rfl⟩
      intro j hj
      obtain ⟨_, h1, h2, h3, h4, h5⟩ := hq j hj
      rw [add_none] at h1 h2 h3 h4 h5
      rw [hel j hj]
      exact ⟨h1, h2, h3, h4, h5⟩
end Go.Proofs.Qxb6613698a.srt
