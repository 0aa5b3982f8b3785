/-
  The walks of pass and passJSONChar.
-/
import Derived.Test.Qxb6608736aPass
namespace Go.Proofs.Qxb6608736a.pass
open Go.RowKit

/-- what an input's block holds that is looked at -/
structure Inp (w : World) (b : Nat) (pos valid : Int) (stop : Value) : Prop where
  lt : b < w.heap.size
  cp : w.cell? ⟨b, 6, none⟩ = some (.int .i64 pos)
  cv : w.cell? ⟨b, 7, none⟩ = some (.int .i64 valid)
  cs : w.cell? ⟨b, 10, none⟩ = some stop
  fv : w.frozen? ⟨b, 7, none⟩ = false
  fs : w.frozen? ⟨b, 10, none⟩ = false

theorem ta_yes (r : Int) (m : ByteArray) (w : World) : (Instr.typeAssert (.iface 83 (.agg #[.int .i32 r, .string m])) 52 83 true).run Try.prog w = .ok (.tuple #[.agg #[.int .i32 r, .string m], .bool true]) w := by kernel_rfl
theorem ta_no (w : World) : (Instr.typeAssert .nilIface 52 83 true).run Try.prog w = .ok (.tuple #[.agg #[.int .i32 0, .string ⟨#[]⟩], .bool false]) w := by kernel_rfl

theorem pass_any (r : Int) (m : ByteArray) (b : Nat) (pos valid : Int) (stop : Value) (w : World) (hI : Inp w b pos valid stop)
    (h0 : 0 ≤ r) (h9 : r ≤ 65535) (hs : r < 55296 ∨ 57343 < r) (v0 : 0 ≤ valid) (v9 : valid ≤ 2305843009213693951) :
    Calls Try.prog 36 #[.pointer (some ⟨b, 0, none⟩), .agg #[.int .i32 r, .string m]] w fun e w' => e = .returned (.tuple #[]) ∧
      w' = (((w.setCell ⟨b, 7, none⟩ (.int .i64 (valid + ul r))).setCell ⟨b, 10, none⟩ .nilIface).alloc (.cells #[.int .i32 r, .string m] 83)).drew := by
  obtain ⟨lt, cp, cv, cs, fv, fs⟩ := hI
  have hb := ul_bd r
  have hfa := fun c t a => frozen?_alloc_cells w c t a
  go_enter Try.func36, Try.ntmps36
  go_wp2
  go_region_with (go_at_call 40; refine (runeLen_any _ _ h0 h9 hs).mono ?_; rintro e w' ⟨rfl, rfl⟩)
  all_goals
    go_wp2
    go_end0
    exact ⟨rfl, rfl⟩

theorem Inp.alloc {w : World} {b : Nat} {pos valid : Int} {stop : Value} (h : Inp w b pos valid stop) (c : Array Value) (t : TypeId) : Inp (w.alloc (.cells c t)) b pos valid stop := by
  have lt := h.lt
  refine ⟨?_, ?_, ?_, ?_, ?_, ?_⟩
  · show b < (w.heap.push _).size
    simp; omega
  · rw [World.cell?_alloc_old _ _ _ (by simp; omega)]; exact h.cp
  · rw [World.cell?_alloc_old _ _ _ (by simp; omega)]; exact h.cv
  · rw [World.cell?_alloc_old _ _ _ (by simp; omega)]; exact h.cs
  · rw [frozen?_alloc_cells]; exact h.fv
  · rw [frozen?_alloc_cells]; exact h.fs
theorem Inp.drew {w : World} {b : Nat} {pos valid : Int} {stop : Value} (h : Inp w b pos valid stop) : Inp w.drew b pos valid stop := ⟨h.lt, h.cp, h.cv, h.cs, h.fv, h.fs⟩
theorem Inp.setV {w : World} {b : Nat} {pos valid : Int} {stop : Value} (h : Inp w b pos valid stop) (v : Int) : Inp (w.setCell ⟨b, 7, none⟩ (.int .i64 v)) b pos v stop := by
  refine ⟨?_, ?_, ?_, ?_, ?_, ?_⟩
  · simpa [World.setCell] using h.lt
  · rw [World.cell?_setCell_other _ _ _ _ (by simp)]; exact h.cp
  · exact World.cell?_setCell_same _ _ _ h.cv
  · rw [World.cell?_setCell_other _ _ _ _ (by simp)]; exact h.cs
  · rw [World.frozen?_setCell]; exact h.fv
  · rw [World.frozen?_setCell]; exact h.fs
theorem Inp.setS {w : World} {b : Nat} {pos valid : Int} {stop : Value} (h : Inp w b pos valid stop) (v : Value) : Inp (w.setCell ⟨b, 10, none⟩ v) b pos valid v := by
  refine ⟨?_, ?_, ?_, ?_, ?_, ?_⟩
  · simpa [World.setCell] using h.lt
  · rw [World.cell?_setCell_other _ _ _ _ (by simp)]; exact h.cp
  · rw [World.cell?_setCell_other _ _ _ _ (by simp)]; exact h.cv
  · exact World.cell?_setCell_same _ _ _ h.cs
  · rw [World.frozen?_setCell]; exact h.fv
  · rw [World.frozen?_setCell]; exact h.fs

/-- nothing below N has turned, and no mark of a cell -/
structure Kept (N : Nat) (w w' : World) : Prop where
  below : Below N w w'
  marks : ∀ a, w'.frozen? a = w.frozen? a
theorem Kept.refl (N : Nat) (w : World) : Kept N w w := ⟨Below.refl _ _, fun _ => rfl⟩
theorem Kept.trans {N : Nat} {a b c : World} (h : Kept N a b) (k : Kept N b c) : Kept N a c := ⟨h.below.trans k.below, fun x => (k.marks x).trans (h.marks x)⟩
theorem Kept.drew {N : Nat} {a w : World} (h : Kept N a w) : Kept N a w.drew := ⟨h.below.drew, h.marks⟩
theorem Kept.alloc {N : Nat} {a w : World} (h : Kept N a w) (hN : N ≤ w.heap.size) (c : Array Value) (t : TypeId) : Kept N a (w.alloc (.cells c t)) :=
  ⟨h.below.alloc hN _, fun x => (frozen?_alloc_cells _ _ _ x).trans (h.marks x)⟩
theorem Kept.setCell {N : Nat} {a w : World} (h : Kept N a w) {p : Addr} (hp : N ≤ p.block) (u : Value) : Kept N a (w.setCell p u) :=
  ⟨h.below.setCell hp u, fun x => (World.frozen?_setCell _ _ _ _).trans (h.marks x)⟩
theorem Kept.grown {w w' : World} (h : Kept w.heap.size w w') : Grown w w' := ⟨h.below.frame _, h.marks, h.below.size⟩

theorem wrap_id {x : Int} (h : -9223372036854775808 ≤ x) (h' : x ≤ 9223372036854775807) : IntKind.i64.wrap x = x := by
  rw [IntKind.wrap_i64]; omega

theorem json_yes (r : Int) (m : ByteArray) (b N : Nat) (pos valid i : Int) (w : World) (hI : Inp w b pos valid (.iface 83 (.agg #[.int .i32 r, .string m])))
    (h0 : 32 ≤ r) (h9 : r ≤ 65535) (h1 : (r != 65533) = true) (hs : r < 55296 ∨ 57343 < r) (p0 : 0 ≤ pos) (v0 : 0 ≤ valid) (v9 : valid ≤ 2305843009213693951) (hi : pos + i = valid) (hN : N ≤ b) :
    Calls Try.prog 31 #[.pointer (some ⟨b, 0, none⟩), .int .i64 i] w fun e w' => e = .returned (.bool true) ∧ Inp w' b pos (valid + ul r) .nilIface ∧ Kept N w w' := by
  have HI : Hid (Inp w b pos valid (.iface 83 (.agg #[.int .i32 r, .string m]))) := hI
  obtain ⟨lt, cp, cv, cs, fv, fs⟩ := hI
  have hne : (IntKind.i64.wrap (pos + i) != valid) = false := by rw [wrap_id (by omega) (by omega), hi]; simp
  have hi0 : i ≤ valid := by omega
  clear hi
  have hta := fun w => ta_yes r m w
  go_enter Try.func31, Try.ntmps31
  go_wp2
  go_region_held3 (fun w' => w'.cell? ⟨w.heap.size, 0, none⟩ = some (.int .i32 r) ∧ w'.cell? ⟨w.heap.size, 1, none⟩ = some (.string m) ∧ w'.cell? ⟨b, 6, none⟩ = some (.int .i64 pos) ∧ w'.cell? ⟨b, 7, none⟩ = some (.int .i64 valid)) (go_keep)
    (first | (go_at_call 35; refine (quoted_t _ _ _ h0 h9 h1).mono ?_; rintro e w' ⟨rfl, rfl⟩))
  go_wp2_with (go_at_call 36; refine (pass_any r m b pos valid _ _ (((HI.out.alloc _ _).alloc _ _).drew) (by omega) h9 hs v0 v9).mono ?_; rintro e w' ⟨rfl, rfl⟩)
  go_ret
  refine ⟨rfl, ?_, ?_⟩
  · exact (((((((HI.out.setV _).setS _).alloc _ _).alloc _ _).alloc _ _).drew).drew)
  · refine (((((((Kept.refl N w).setCell (p := ⟨b, 7, none⟩) hN _).setCell (p := ⟨b, 10, none⟩) hN _).alloc ?_ _ _).alloc ?_ _ _).alloc ?_ _ _).drew).drew
    all_goals (simp [World.setCell]; omega)

/-- at another offset: refused -/
theorem json_off (r : Int) (m : ByteArray) (b N : Nat) (pos valid i : Int) (w : World) (hI : Inp w b pos valid (.iface 83 (.agg #[.int .i32 r, .string m])))
    (h0 : 32 ≤ r) (h9 : r ≤ 65535) (h1 : (r != 65533) = true) (p0 : 0 ≤ pos) (p9 : pos ≤ 2305843009213693951) (i0 : 0 ≤ i) (i9 : i ≤ 2305843009213693951) (hi : ¬ pos + i = valid) (hN : N ≤ b) :
    Calls Try.prog 31 #[.pointer (some ⟨b, 0, none⟩), .int .i64 i] w fun e w' => e = .returned (.bool false) ∧ Inp w' b pos valid (.iface 83 (.agg #[.int .i32 r, .string m])) ∧ Kept N w w' := by
  have HI : Hid (Inp w b pos valid (.iface 83 (.agg #[.int .i32 r, .string m]))) := hI
  obtain ⟨lt, cp, cv, cs, fv, fs⟩ := hI
  have hne : (IntKind.i64.wrap (pos + i) != valid) = true := by rw [wrap_id (by omega) (by omega)]; simpa using hi
  clear hi
  have hta := fun w => ta_yes r m w
  go_enter Try.func31, Try.ntmps31
  go_wp2
  go_region_held3 (fun w' => w'.cell? ⟨w.heap.size, 0, none⟩ = some (.int .i32 r) ∧ w'.cell? ⟨w.heap.size, 1, none⟩ = some (.string m) ∧ w'.cell? ⟨b, 6, none⟩ = some (.int .i64 pos) ∧ w'.cell? ⟨b, 7, none⟩ = some (.int .i64 valid)) (go_keep)
    (first | (go_at_call 35; refine (quoted_t _ _ _ h0 h9 h1).mono ?_; rintro e w' ⟨rfl, rfl⟩))
  go_wp2
  go_ret
  refine ⟨rfl, ?_, ?_⟩
  · exact (((HI.out.alloc _ _).alloc _ _).drew)
  · refine ((((Kept.refl N w).alloc ?_ _ _).alloc ?_ _ _).drew)
    all_goals (first | (simp; omega) | omega)

end Go.Proofs.Qxb6608736a.pass
