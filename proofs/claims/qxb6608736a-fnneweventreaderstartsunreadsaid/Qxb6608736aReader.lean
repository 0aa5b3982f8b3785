/-
  The walks under FnNewEventReaderStartsUnread.
-/
import Derived.Test.Qxb6608736aProg
import Derived.WalkKit
import Derived.WalkSpells
import Derived.WalkLawsBesides
import Derived.RowKit3
import Derived.Below
import Derived.Outline
import Derived.Deep.RegionHeld3
import Derived.Deep.QuietTactic
import Derived.BigQuiet
namespace Go.Proofs.Qxb6608736a.reader
open Go.RowKit
set_option linter.unusedSimpArgs false

/-- nothing below N has turned, and no mark of a cell -/
structure Kept (N : Nat) (w w' : World) : Prop where
  below : Below N w w'
  marks : ∀ a, w'.frozen? a = w.frozen? a
theorem Kept.refl (N : Nat) (w : World) : Kept N w w := ⟨Below.refl _ _, fun _ => rfl⟩
theorem Kept.trans {N : Nat} {a b c : World} (h : Kept N a b) (k : Kept N b c) : Kept N a c := ⟨h.below.trans k.below, fun x => (k.marks x).trans (h.marks x)⟩
theorem Kept.drew {N : Nat} {a w : World} (h : Kept N a w) : Kept N a w.drew := ⟨h.below.drew, h.marks⟩
theorem Kept.drewN {N : Nat} {a w : World} (h : Kept N a w) (n : Nat) : Kept N a (w.drewN n) := ⟨⟨h.below.os, h.below.tape, h.below.output, h.below.size, h.below.block⟩, h.marks⟩
theorem Kept.alloc {N : Nat} {a w : World} (h : Kept N a w) (hN : N ≤ w.heap.size) (c : Array Value) (t : TypeId) : Kept N a (w.alloc (.cells c t)) :=
  ⟨h.below.alloc hN _, fun x => (frozen?_alloc_cells _ _ _ x).trans (h.marks x)⟩
theorem Kept.setCell {N : Nat} {a w : World} (h : Kept N a w) {p : Addr} (hp : N ≤ p.block) (u : Value) : Kept N a (w.setCell p u) :=
  ⟨h.below.setCell hp u, fun x => (World.frozen?_setCell _ _ _ _).trans (h.marks x)⟩
theorem Kept.grown {w w' : World} (h : Kept w.heap.size w w') : Grown w w' := ⟨h.below.frame _, h.marks, h.below.size⟩

/-- the cells of a new input over the reader at block c -/
abbrev inCells (c : Nat) : Array Value := #[.iface 84 (.pointer (some ⟨c, 0, none⟩)), .int .u8 0, .slice none 0 0, .int .i64 0, .nilIface, .slice none 0 0, .int .i64 0, .int .i64 0, .nilIface, .int .i64 0, .nilIface, .int .i64 1, .int .i64 1, .int .i64 0]
/-- the cells of a new scanner over it, its keys in block k -/
abbrev scCells (c k : Nat) : Array Value := #[.iface 84 (.pointer (some ⟨c, 0, none⟩)), .int .u8 0, .slice none 0 0, .int .i64 0, .nilIface, .slice none 0 0, .int .i64 0, .int .i64 0, .nilIface, .int .i64 0, .nilIface, .int .i64 1, .int .i64 1, .int .i64 0, .slice none 0 0, .int .i64 0, .int .i64 0, .int .i64 0, .int .i64 0, .int .i64 0, .int .i64 0, .nilIface, .bool false, .bool false, .slice none 0 0, .int .i64 (-1), .slice none 0 0, .int .i64 0, .bool false,
  .slice (some ⟨k, 0, none⟩) 1 1, .int .i64 0, .bool false, .bool false, .int .i64 0, .int .i64 0, .bool false, .int .u8 0, .int .i64 0, .int .i64 0, .bool false, .slice none 0 0, .slice none 0 0]

theorem input_any (c : Nat) (w : World) :
    Calls Try.prog 38 #[.iface 84 (.pointer (some ⟨c, 0, none⟩))] w fun e w' => e = .returned (.agg (inCells c)) ∧ w' = w.alloc (.cells (inCells c) 58) := by
  go_enter Try.func38, Try.ntmps38
  go_wp2
  exact bodyPost_ret (v := .agg (inCells c)) (by simp [results, Try.results38, go_sem]) rfl ⟨rfl, rfl⟩

theorem make_keys (w : World) : (Instr.makeSlice 62 (.int .i64 1) (.int .i64 1)).run Try.prog w =
    .ok (.slice (some ⟨w.heap.size, 0, none⟩) 1 1) (w.alloc (.cells #[.bool false, .bool false, .bool false, .int .i64 0, .int .i64 0, .int .i64 0, .int .i64 0] 120)) := by kernel_rfl

theorem range_new (w : World) (C : Array Value) (t : TypeId) : (w.alloc (.cells C t)).rangeAt w.heap.size 0 C.toList := fun j v h => by
  rw [Nat.zero_add, World.cell?_alloc_new]
  simpa using h
theorem range_alloc {w : World} {b o : Nat} {cs : List Value} (h : w.rangeAt b o cs) (hb : b < w.heap.size) (O : Obj) : (w.alloc O).rangeAt b o cs := fun j v hv => by
  rw [World.cell?_alloc_lt _ _ _ (by exact hb)]
  exact h j v hv
theorem there_new (w : World) (C : Array Value) (t : TypeId) : (w.alloc (.cells C t)).there w.heap.size 0 C.size := fun j hj => by
  rw [Nat.zero_add, World.cell?_alloc_new]
  exact ⟨by simp [hj], by simp⟩
theorem there_alloc {w : World} {b o n : Nat} (h : w.there b o n) (hb : b < w.heap.size) (O : Obj) : (w.alloc O).there b o n := fun j hj => by
  rw [World.cell?_alloc_lt _ _ _ (by exact hb), World.frozen?_alloc_old _ _ _ (by simp; omega)]
  exact h j hj
theorem results_cell {fn : Func} {p : Tmp} {ty : TypeId} (h : fn.results = #[.cell p ty]) (tmps : Array Value) (P : Program) (w : World) :
    (results fn tmps).run P w = ((asAddr (tmps.getD p undef)).run P w).andThen fun a w₁ => (loadVar ty a).run P w₁ := by
  simp only [results, h]
  simp [Sem.run_bind, Result.andThen]
theorem Kept.setCells {N : Nat} {a : World} {b : Nat} (hb : N ≤ b) : ∀ (vs : List Value) (o : Nat) (w : World), Kept N a w → Kept N a (w.setCells b o vs)
  | [], _, _, h => h
  | _ :: r, _, _, h => Kept.setCells hb r _ _ (h.setCell (p := ⟨b, _, none⟩) hb _)
theorem info65 : (Try.prog.info? 65).map (·.size) = some 42 := by kernel_rfl
theorem info58 : (Try.prog.info? 58).map (·.size) = some 14 := by kernel_rfl
theorem build65 (c k : Nat) (w : World) : (Instr.build 65 #[(0, .agg (inCells c)), (10, .int .i64 (-1)), (14, .slice (some ⟨k, 0, none⟩) 1 1)]).run Try.prog w = .ok (.agg (scCells c k)) w := by kernel_rfl

theorem one65 (c k : Nat) : (scCells c k).all (·.oneCell') = true := by kernel_rfl
def ScS (c : Nat) (w w' : World) : Prop := w'.rangeAt w.heap.size 0 (inCells c).toList ∧ w'.there (w.heap.size + 1) 0 42 ∧ w.heap.size + 1 < w'.heap.size ∧ Kept w.heap.size w w'
theorem ScS.start (c : Nat) (w : World) (C : Array Value) (hC : C.size = 42) : ScS c w ((w.alloc (.cells (inCells c) 58)).alloc (.cells C 65)).drew := by
  have e : (w.alloc (.cells (inCells c) 58)).heap.size = w.heap.size + 1 := by simp
  refine ⟨range_alloc (range_new w (inCells c) 58) (by rw [e]; omega) _, ?_, ?_, ((((Kept.refl _ w).alloc (Nat.le_refl _) _ _).alloc (by rw [e]; omega) _ _).drew)⟩
  · have := there_new (w.alloc (.cells (inCells c) 58)) C 65
    rw [hC, e] at this
    exact this
  · show w.heap.size + 1 < ((w.alloc (.cells (inCells c) 58)).alloc (.cells C 65)).heap.size
    simp
theorem ScS.alloc {c : Nat} {w w' : World} (h : ScS c w w') (C : Array Value) (t : TypeId) : ScS c w (w'.alloc (.cells C t)) :=
  ⟨range_alloc h.1 (by have := h.2.2.1; omega) _, there_alloc h.2.1 (by have := h.2.2.1; omega) _, by have := h.2.2.1; simp; omega, h.2.2.2.alloc (by have := h.2.2.1; omega) _ _⟩
theorem setCells_size (b : Nat) : ∀ (vs : List Value) (o : Nat) (w : World), (w.setCells b o vs).heap.size = w.heap.size
  | [], _, _ => rfl
  | _ :: r, _, w => by rw [World.setCells, setCells_size b r]; simp [World.setCell]
theorem ScS.set {c : Nat} {w w' : World} (h : ScS c w w') (vs : List Value) : ScS c w (w'.setCells (w.heap.size + 1) 0 vs) :=
  ⟨World.rangeAt_setCells_apart h.1 _ _ _ (by omega), World.there_setCells h.2.1 _ _ _, by rw [setCells_size]; exact h.2.2.1, Kept.setCells (by omega) _ _ _ h.2.2.2⟩

set_option maxRecDepth 20000 in
theorem scanner_any (c : Nat) (w : World) :
    Calls Try.prog 37 #[.agg (inCells c)] w fun e w' => ∃ k, e = .returned (.agg (scCells c k)) ∧ Kept w.heap.size w w' := by
  go_enter Try.func37, Try.ntmps37
  go_wp2
  refine wp_region_held_drew (S := ScS c w) (by kernel_rfl) (ScS.start c w _ rfl) ?_
  generalize World.drew _ = w0
  intro hHeld
  refine wpAnyH_take (i := 0) (oi := ⟨some 3, _, _, _, _, _⟩) (v := .agg (inCells c)) rfl (by kernel_rfl) (by kernel_rfl) (by kernel_rfl) (fun _ _ _ h => h) (yieldsIf_load_mid (by rfl) 58 _ rfl w.heap.size 0 rfl (inCells c).toList _ (fun w h => h.1) Try.underlying58 rfl (by kernel_rfl)) (by assumption) ?_
  try simp only [Act.put, List.setIfInBounds_toArray, List.set_cons_zero, List.set_cons_succ]
  refine wpAnyH_ready (rs := [1]) (by kernel_rfl) (by simp) ?_
  refine AllReadyH.cons (o := ⟨some 4, _, _, _, _, _⟩) rfl (fun K hK => ?_) AllReadyH.nil
  have hmk := make_keys
  go_simp
  clear hmk
  refine hK.out _ _ (hHeld.alloc _ _) (fun hHeld1 => ?_)
  clear hK K
  try simp only [Act.put, List.setIfInBounds_toArray, List.set_cons_zero, List.set_cons_succ]
  refine wpAnyH_take (i := 2) (oi := ⟨some 5, _, _, _, _, _⟩) (v := .agg (scCells c w0.heap.size)) rfl (by kernel_rfl) (by kernel_rfl) (by kernel_rfl) (fun _ _ _ h => h) (Or.inl ⟨by rfl, fun w hSw => by kernel_rfl⟩) (by assumption) ?_
  try simp only [Act.put, List.setIfInBounds_toArray, List.set_cons_zero, List.set_cons_succ]
  refine wpAnyH_ready (rs := [3]) (by kernel_rfl) (by simp) ?_
  refine AllReadyH.cons (o := ⟨none, _, _, _, _, _⟩) rfl (fun K hK => ?_) AllReadyH.nil
  rw [if_pos (by rfl)]
  refine wp_store_mid 65 _ _ rfl (w.heap.size + 1) 0 (scCells c w0.heap.size) rfl rfl hHeld1.2.1 (by kernel_rfl) (one65 _ _) ?_
  refine hK.out _ _ (hHeld1.set _) (fun hHeld2 => ?_)
  clear hK K
  try simp only [Act.put, List.setIfInBounds_toArray, List.set_cons_zero, List.set_cons_succ]
  refine wpAnyH_done (by kernel_rfl) ?_ _
  have hr := World.rangeAt_setCells_same (w0.alloc (.cells #[.bool false, .bool false, .bool false, .int .i64 0, .int .i64 0, .int .i64 0, .int .i64 0] 120)) (w.heap.size + 1) 0 (scCells c w0.heap.size).toList hHeld1.2.1
  generalize World.setCells _ _ _ _ = w2 at hHeld2 hr ⊢
  clear hHeld hHeld1
  go_wp2
  refine bodyPost_ret (v := .agg (scCells c w0.heap.size)) ?_ rfl ⟨⟨_, rfl⟩, hHeld2.2.2.2⟩
  rw [results_cell Try.results37]
  exact run_loadVar_mid w2 (w.heap.size + 1) 0 65 (scCells c w0.heap.size).toList _ hr Try.underlying65 rfl (by kernel_rfl)

theorem Kept.allocMap {N : Nat} {a w : World} (h : Kept N a w) (hN : N ≤ w.heap.size) (es : Array MapEntry) (c : Nat) : Kept N a (w.alloc (.map es c)) :=
  ⟨h.below.alloc hN _, fun x => (frozen?_alloc_map _ _ _ x).trans (h.marks x)⟩
theorem Kept.mono {N N' : Nat} {a w : World} (h : Kept N a w) (hN : N' ≤ N) : Kept N' a w := ⟨h.below.mono hN, h.marks⟩

/-- what the block of a new EventReader holds that is looked at -/
structure Rd (w : World) (b : Nat) : Prop where
  lt : b < w.heap.size
  c0 : w.cell? ⟨b, 0, none⟩ = some .nilFunc
  c1 : w.cell? ⟨b, 1, none⟩ = some (.bool false)
  c2 : w.cell? ⟨b, 2, none⟩ = some (.int .i64 0)
  c3 : w.cell? ⟨b, 3, none⟩ = some (.int .i64 0)
  c4 : w.cell? ⟨b, 4, none⟩ = some (.int .i64 0)
  c11 : w.cell? ⟨b, 11, none⟩ = some (.int .i64 0)
  c12 : w.cell? ⟨b, 12, none⟩ = some (.int .i64 0)
  c15 : w.cell? ⟨b, 15, none⟩ = some .nilIface
  c16 : w.cell? ⟨b, 16, none⟩ = some (.int .i64 1)
  c17 : w.cell? ⟨b, 17, none⟩ = some (.int .i64 1)
  c18 : w.cell? ⟨b, 18, none⟩ = some (.int .i64 0)
  c30 : w.cell? ⟨b, 30, none⟩ = some (.int .i64 (-1))
  c50 : w.cell? ⟨b, 50, none⟩ = some (.int .i64 0)
  obj : ∃ C, w.heap[b]? = some (.cells C 78)

theorem Rd.new (w : World) (C : Array Value) (n : Nat) (hn : n = w.heap.size) (h0 : C[0]? = some .nilFunc) (h1 : C[1]? = some (.bool false)) (h2 : C[2]? = some (.int .i64 0)) (h3 : C[3]? = some (.int .i64 0)) (h4 : C[4]? = some (.int .i64 0))
    (h11 : C[11]? = some (.int .i64 0)) (h12 : C[12]? = some (.int .i64 0)) (h15 : C[15]? = some .nilIface) (h16 : C[16]? = some (.int .i64 1)) (h17 : C[17]? = some (.int .i64 1)) (h18 : C[18]? = some (.int .i64 0))
    (h30 : C[30]? = some (.int .i64 (-1))) (h50 : C[50]? = some (.int .i64 0)) : Rd (w.alloc (.cells C 78)) n := by
  subst hn
  constructor
  · show w.heap.size < (w.heap.push _).size
    simp
  all_goals first
    | (rw [World.cell?_alloc_new]; assumption)
    | exact ⟨C, (MapKept.heap_alloc w _).1⟩
theorem Rd.kept {N : Nat} {w w' : World} {b : Nat} (h : Rd w b) (hb : b < N) (k : Kept N w w') : Rd w' b := by
  obtain ⟨h, h0, h1, h2, h3, h4, h11, h12, h15, h16, h17, h18, h30, h50, C, hC⟩ := h
  have hs := k.below.size
  have e : ∀ i, w'.cell? ⟨b, i, none⟩ = w.cell? ⟨b, i, none⟩ := fun i => k.below.cell (p := ⟨b, i, none⟩) hb
  constructor
  · omega
  all_goals first
    | (rw [e]; assumption)
    | exact ⟨C, (k.below.block b hb).trans hC⟩

theorem reader_any (c : Nat) (w : World) :
    Calls Try.prog 33 #[.iface 84 (.pointer (some ⟨c, 0, none⟩))] w fun e w' => ∃ b, e = .returned (.pointer (some ⟨b, 0, none⟩)) ∧ w.heap.size ≤ b ∧ Rd w' b ∧ Kept w.heap.size w w' := by
  have hmm := @run_makeMap Try.prog
  go_enter Try.func33, Try.ntmps33
  go_wp2_with (first
    | (go_at_call 38; refine (input_any c _).mono ?_; rintro e w' ⟨rfl, rfl⟩)
    | (go_at_call 37; refine (scanner_any c _).mono ?_; rintro e w1 ⟨k, rfl, hk⟩))
  have hz : w.heap.size + 1 ≤ w1.heap.size := by
    have := hk.below.size
    simpa using this
  go_ret
  refine ⟨w1.heap.size + 1 + 1, rfl, by omega, Rd.new _ _ _ (by simp) rfl rfl rfl rfl rfl rfl rfl rfl rfl rfl rfl rfl rfl, ?_⟩
  refine ((((((Kept.refl _ w).alloc (Nat.le_refl _) _ _).trans (hk.mono ?_)).allocMap ?_ _ _).allocMap ?_ _ _).alloc ?_ _ _)
  all_goals (first | omega | (simp; omega) | simp)

theorem ret_int {k : IntKind} {a b : Int} (h : a = b) : Ending.returned (.int k a) = .returned (.int k b) := by rw [h]
theorem len_any (s : ByteArray) (c : Nat) (w : World) (hs : s.size ≤ maxLen) (h0 : w.cell? ⟨c, 0, none⟩ = some (.string s)) (h1 : w.cell? ⟨c, 1, none⟩ = some (.int .i64 0)) :
    Calls Try.prog 34 #[.pointer (some ⟨c, 0, none⟩)] w fun e w' => e = .returned (.int .i64 s.size) ∧ ∃ n, w' = w.drewN n := by
  unfold maxLen at hs
  by_cases hz : s.size = 0
  · go_enter Try.func34, Try.ntmps34
    go_wp2
    go_quiet (fail)
    go_wp2
    go_ret
    exact ⟨ret_int (by omega), _, rfl⟩
  · have hd : decide ((s.size : Int) ≤ 0) = false := decide_eq_false (by omega)
    go_enter Try.func34, Try.ntmps34
    go_wp2
    go_quiet (fail)
    go_wp2
    go_quiet (fail)
    go_wp2
    go_ret
    exact ⟨rfl, _, by simp only [World.drewN, Nat.add_assoc]; rfl⟩

theorem over_any (s : ByteArray) (w : World) (hs : s.size ≤ maxLen) :
    Calls Try.prog 22 #[.string s] w fun e w' => ∃ b, e = .returned (.tuple #[.pointer (some ⟨b, 0, none⟩), .int .i64 s.size]) ∧ w.heap.size ≤ b ∧ Rd w' b ∧ Kept w.heap.size w w' := by
  go_enter Try.func22, Try.ntmps22
  go_wp2_with (first
    | (go_at_call 32; go_in)
    | (go_at_call 33; refine (reader_any _ _).mono ?_; rintro e w1 ⟨b, rfl, hb, hR, hk⟩; have hz : w.heap.size < w1.heap.size := by have := hk.below.size; simp at this; omega)
    | (go_at_call 34; refine (len_any s _ _ hs ?_ ?_).mono ?_; (rw [hk.below.cell (by simp)]; simp); (rw [hk.below.cell (by simp)]; simp); rintro e w2 ⟨rfl, n, rfl⟩))
  go_ret2
  refine ⟨b, rfl, by simp at hb; omega, hR.kept (N := b + 1) (by omega) ((Kept.refl _ _).drewN _), ?_⟩
  exact ((((Kept.refl _ w).alloc (Nat.le_refl _) _ _).trans (hk.mono (by simp))).drewN _)
end Go.Proofs.Qxb6608736a.reader
