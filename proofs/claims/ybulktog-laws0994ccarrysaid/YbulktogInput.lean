/-
  groupInput by its three contracts.
-/
import Derived.Test.YbulktogClo
import Derived.WalkSmall
namespace Go.Proofs.Ybulktog
open Go.ChangeShapes Go.WideShapes Go.ChangeAt Go.RowKit

set_option maxRecDepth 100000 in
/-- groupInput, no earlier fleet. -/
theorem groupInput_nil (bb fb gb : Nat) (ai am : Option Addr) (ni ci nm cm : Nat) (vx : Value) (w : World)
  (b10 : w.cell? ⟨bb, 22, none⟩ = some (.pointer none)) (b6 : w.cell? ⟨bb, 18, none⟩ = some (.pointer none)) (f0 : w.cell? ⟨fb, 0, none⟩ = some (.slice ai ni ci)) (f1 : w.cell? ⟨fb, 1, none⟩ = some (.slice am nm cm)) (g1 : w.cell? ⟨gb, 1, none⟩ = some (.slice none 0 0)) :
    Calls Yba.prog 14 #[.pointer (some ⟨bb, 0, none⟩), .pointer (some ⟨fb, 0, none⟩), .pointer (some ⟨gb, 0, none⟩), .pointer none, vx] w fun e w' =>
      e = .returned (.agg #[.slice ai ni ci, .slice am nm cm, .pointer none, .pointer none, .nilIface, .slice none 0 0]) ∧ Below w.heap.size w w' := by
  obtain ⟨b10', b10''⟩ := cell_alloc2 b10
  obtain ⟨b6', b6''⟩ := cell_alloc2 b6
  obtain ⟨f0', f0''⟩ := cell_alloc2 f0
  obtain ⟨f1', f1''⟩ := cell_alloc2 f1
  obtain ⟨g1', g1''⟩ := cell_alloc2 g1
  have hnn := neq107
  go_enter Yba.func14, Yba.ntmps14
  go_wp2
  go_region
  go_wp2
  exact bodyPost_ret (v := .agg #[.slice ai ni ci, .slice am nm cm, .pointer none, .pointer none, .nilIface, .slice none 0 0]) (by simp [results, Yba.results14, go_sem]) rfl ⟨rfl, (((Below.refl _ _).alloc (Nat.le_refl _) _).alloc (by simp) _).drew⟩

set_option maxRecDepth 100000 in
/-- groupInput, an earlier fleet without a group. -/
theorem groupInput_none (bb fb gb eb : Nat) (ai am : Option Addr) (ni ci nm cm : Nat) (vx : Value) (w : World)
  (b10 : w.cell? ⟨bb, 22, none⟩ = some (.pointer none)) (b6 : w.cell? ⟨bb, 18, none⟩ = some (.pointer none)) (f0 : w.cell? ⟨fb, 0, none⟩ = some (.slice ai ni ci)) (f1 : w.cell? ⟨fb, 1, none⟩ = some (.slice am nm cm)) (g1 : w.cell? ⟨gb, 1, none⟩ = some (.slice none 0 0))
  (e3 : w.cell? ⟨eb, 3, none⟩ = some (.slice none 0 0)) :
    Calls Yba.prog 14 #[.pointer (some ⟨bb, 0, none⟩), .pointer (some ⟨fb, 0, none⟩), .pointer (some ⟨gb, 0, none⟩), .pointer (some ⟨eb, 0, none⟩), vx] w fun e w' =>
      e = .returned (.agg #[.slice ai ni ci, .slice am nm cm, .pointer none, .pointer none, .nilIface, .slice none 0 0]) ∧ Below w.heap.size w w' := by
  obtain ⟨b10', b10''⟩ := cell_alloc2 b10
  obtain ⟨b6', b6''⟩ := cell_alloc2 b6
  obtain ⟨f0', f0''⟩ := cell_alloc2 f0
  obtain ⟨f1', f1''⟩ := cell_alloc2 f1
  obtain ⟨g1', g1''⟩ := cell_alloc2 g1
  obtain ⟨e3', e3''⟩ := cell_alloc2 e3
  have hnn := neq107
  go_enter Yba.func14, Yba.ntmps14
  go_wp2
  go_region
  go_wp2_with fail
  refine (sameGroup_none _ eb _ (by exact e3'' _ _)).mono ?_
  rintro e w1 ⟨rfl, rfl⟩
  go_wp2
  exact bodyPost_ret (v := .agg #[.slice ai ni ci, .slice am nm cm, .pointer none, .pointer none, .nilIface, .slice none 0 0]) (by simp [results, Yba.results14, go_sem]) rfl ⟨rfl, (((Below.refl _ _).alloc (Nat.le_refl _) _).alloc (by simp) _).drew⟩

theorem info3 : (Yba.prog.info? 3).map (fun i => (i.zero, i.size, i.bytes)) = some (some (.int .i64 0), 1, 8) := by kernel_rfl
/-- n zeros. -/
def row3 (n : Nat) : Array Value := madeCells (Value.int .i64 0).cells (n * 1)
theorem make33 (n : Nat) (hn : n ≤ 1024) (w : World) : (Instr.makeSlice 33 (.int .i64 n) (.int .i64 n)).run Yba.prog w = .ok (.slice (some ⟨w.heap.size, 0, none⟩) n n) (w.alloc (.cells (row3 n) 3)) := by
  obtain ⟨i0, hi, hz0, hz1, hz2⟩ := info_parts info3
  have h := run_make (P := Yba.prog) w 33 3 i0 _ Yba.underlying33 hi hz0 .i64 .i64 n n (by omega) (by omega) (by rw [hz2]; omega) (by omega)
  rw [hz1] at h
  simpa [row3] using h

/-- A row of n ints, the first k of them told. -/
def Ints (w : World) (b n : Nat) (f : Nat → Int) (k : Nat) : Prop := ∃ cur, w.heap[b]? = some (.cells cur 3 (0, 0)) ∧ cur.size = n ∧ ∀ i, i < k → cur[i]? = some (.int .i64 (f i))

theorem Ints.free {w : World} {b n : Nat} {f : Nat → Int} {k : Nat} (h : Ints w b n f k) (o : Nat) : w.frozen? ⟨b, o, none⟩ = false := by
  obtain ⟨cur, h1, _⟩ := h
  simp [World.frozen?, h1]
theorem Ints.some {w : World} {b n : Nat} {f : Nat → Int} {k : Nat} (h : Ints w b n f k) {i : Nat} (hi : i < n) : ∃ v, w.cell? ⟨b, i, none⟩ = .some v := by
  obtain ⟨cur, h1, h2, _⟩ := h
  exact ⟨cur[i]'(by omega), (cell_of_row _ b i cur 3 (0, 0) h1).trans (Array.getElem?_eq_getElem (by omega))⟩
theorem Ints.cell {w : World} {b n : Nat} {f : Nat → Int} {k : Nat} (h : Ints w b n f k) {i : Nat} (hi : i < k) : w.cell? ⟨b, i, none⟩ = .some (.int .i64 (f i)) := by
  obtain ⟨cur, h1, _, h3⟩ := h
  exact (cell_of_row _ b i cur 3 (0, 0) h1).trans (h3 i hi)
theorem Ints.same {w w' : World} {b n : Nat} {f : Nat → Int} {k : Nat} (h : Ints w b n f k) (e : w'.heap[b]? = w.heap[b]?) : Ints w' b n f k := by
  obtain ⟨cur, h1, h2, h3⟩ := h
  exact ⟨cur, e.trans h1, h2, h3⟩
theorem Ints.weak {w : World} {b n : Nat} {f g : Nat → Int} {k : Nat} (h : Ints w b n f k) : Ints w b n g 0 := by
  obtain ⟨cur, h1, h2, h3⟩ := h
  exact ⟨cur, h1, h2, fun i hi => by omega⟩
theorem Ints.step {w : World} {b n : Nat} {f : Nat → Int} {k : Nat} (h : Ints w b n f k) (hk : k < n) : Ints (w.setCell ⟨b, k, none⟩ (.int .i64 (f k))) b n f (k + 1) := by
  obtain ⟨cur, h1, h2, h3⟩ := h
  refine ⟨_, heap_setCell_at h1 _, by simp [h2], fun i hi => ?_⟩
  by_cases hik : i = k
  · subst hik
    rw [Array.getElem?_setIfInBounds_self_of_lt (by omega)]
  · rw [Array.getElem?_setIfInBounds_ne (by omega)]
    exact h3 i (by omega)

theorem Ints.step2 {w : World} {b n : Nat} {f : Nat → Int} {k : Nat} (h : Ints w b n f k) (hk : k < n) (v : Value) : Ints ((w.setCell ⟨b, k, none⟩ v).setCell ⟨b, k, none⟩ (.int .i64 (f k))) b n f (k + 1) := by
  obtain ⟨cur, h1, h2, h3⟩ := h
  refine ⟨_, heap_setCell_at (heap_setCell_at h1 _) _, by simp [h2], fun i hi => ?_⟩
  by_cases hik : i = k
  · subst hik
    rw [Array.getElem?_setIfInBounds_self_of_lt (by simp; omega)]
  · rw [Array.getElem?_setIfInBounds_ne (by omega), Array.getElem?_setIfInBounds_ne (by omega)]
    exact h3 i (by omega)

/-- Six stores into one block. -/
theorem six_other (w : World) (b k : Nat) (v0 v1 v2 v3 v4 v5 : Value) (h : k ≠ b) : ((((((w.setCell ⟨b, 0, none⟩ v0).setCell ⟨b, 1, none⟩ v1).setCell ⟨b, 2, none⟩ v2).setCell ⟨b, 3, none⟩ v3).setCell ⟨b, 4, none⟩ v4).setCell ⟨b, 5, none⟩ v5).heap[k]? = w.heap[k]? := by
  rw [Below.heap_setCell _ _ _ _ h, Below.heap_setCell _ _ _ _ h, Below.heap_setCell _ _ _ _ h, Below.heap_setCell _ _ _ _ h, Below.heap_setCell _ _ _ _ h, Below.heap_setCell _ _ _ _ h]
theorem six_below (w : World) (b : Nat) (v0 v1 v2 v3 v4 v5 : Value) : Below b w ((((((w.setCell ⟨b, 0, none⟩ v0).setCell ⟨b, 1, none⟩ v1).setCell ⟨b, 2, none⟩ v2).setCell ⟨b, 3, none⟩ v3).setCell ⟨b, 4, none⟩ v4).setCell ⟨b, 5, none⟩ v5) :=
  ((((((Below.refl b w).setCell (Nat.le_refl _) _).setCell (Nat.le_refl _) _).setCell (Nat.le_refl _) _).setCell (Nat.le_refl _) _).setCell (Nat.le_refl _) _).setCell (Nat.le_refl _) _

/-- groupInput's two variables: the result's and 'in'. -/
structure GI (w wr : World) (C : Array Value) : Prop where
  below : Below w.heap.size w wr
  res : ∃ R0 : Array Value, wr.heap[w.heap.size]? = some (.cells R0 35 (0, 0)) ∧ R0.size = 6
  inn : wr.heap[w.heap.size + 1]? = some (.cells C 35 (0, 0))

theorem GI.turn {w a b : World} {C : Array Value} (h : GI w a C) (hb : Below (w.heap.size + 2) a b) : GI w b C := by
  obtain ⟨R0, r1, r2⟩ := h.res
  exact ⟨h.below.trans (hb.mono (by omega)), ⟨R0, (hb.block _ (by omega)).trans r1, r2⟩, (hb.block _ (by omega)).trans h.inn⟩

theorem GI.cells {w wr : World} {C : Array Value} (h : GI w wr C) : (∀ o, wr.cell? ⟨w.heap.size + 1, o, none⟩ = C[o]?) ∧ (∀ o, wr.frozen? ⟨w.heap.size + 1, o, none⟩ = false) ∧ (∀ o, wr.frozen? ⟨w.heap.size, o, none⟩ = false) ∧ ∃ v0 v1 v2 v3 v4 v5, wr.cell? ⟨w.heap.size, 0, none⟩ = some v0 ∧ wr.cell? ⟨w.heap.size, 1, none⟩ = some v1 ∧ wr.cell? ⟨w.heap.size, 2, none⟩ = some v2 ∧ wr.cell? ⟨w.heap.size, 3, none⟩ = some v3 ∧ wr.cell? ⟨w.heap.size, 4, none⟩ = some v4 ∧ wr.cell? ⟨w.heap.size, 5, none⟩ = some v5 := by
  obtain ⟨R0, r1, r2⟩ := h.res
  have hi := h.inn
  refine ⟨fun o => cell_of_row _ _ o C 35 (0, 0) hi, fun o => by simp [World.frozen?, hi], fun o => by simp [World.frozen?, r1], R0[0]'(by omega), R0[1]'(by omega), R0[2]'(by omega), R0[3]'(by omega), R0[4]'(by omega), R0[5]'(by omega), ?_, ?_, ?_, ?_, ?_, ?_⟩ <;>
  · rw [cell_of_row _ _ _ R0 35 (0, 0) r1]
    exact Array.getElem?_eq_getElem (by omega)

/-- The cells of 'in'. -/
def inC (ai am : Option Addr) (n ci cm : Nat) (p x : Value) : Array Value := #[.slice ai n ci, .slice am n cm, .pointer none, .pointer none, p, x]

theorem gi_start (w : World) (C : Array Value) (o : Obj) {nq : Nat} : GI w (((((w.alloc (.cells #[.slice none 0 0, .slice none 0 0, .pointer none, .pointer none, .nilIface, .slice none 0 0] 35)).alloc (.cells C 35)).drewN nq).alloc o)) C := by
  have h0 := heap_alloc_new w (.cells #[.slice none 0 0, .slice none 0 0, .pointer none, .pointer none, .nilIface, .slice none 0 0] 35)
  have h1 := heap_alloc_new (w.alloc (.cells #[.slice none 0 0, .slice none 0 0, .pointer none, .pointer none, .nilIface, .slice none 0 0] 35)) (.cells C 35)
  have b1 : Below (w.heap.size + 2) ((w.alloc (.cells #[.slice none 0 0, .slice none 0 0, .pointer none, .pointer none, .nilIface, .slice none 0 0] 35)).alloc (.cells C 35)) ((((w.alloc (.cells #[.slice none 0 0, .slice none 0 0, .pointer none, .pointer none, .nilIface, .slice none 0 0] 35)).alloc (.cells C 35)).drewN nq).alloc o) := (below_drewN (Below.refl _ _) nq).alloc (by simp) _
  refine GI.turn ⟨((Below.refl _ _).alloc (Nat.le_refl _) _).alloc (by simp) _, ⟨_, (Below.heap_alloc _ _ _ (by simp)).trans h0, rfl⟩, by simpa using h1⟩ b1

/-- A cell of another block behind a store. -/
theorem cell_set {w : World} {b o : Nat} {v : Value} (h : w.cell? ⟨b, o, none⟩ = some v) {a : Addr} (hne : b ≠ a.block) (u : Value) : (w.setCell a u).cell? ⟨b, o, none⟩ = some v :=
  (World.cell?_of_block (w := w) (Below.heap_setCell w a u b hne)).trans h

/-- 'in.earlier, in.earlierIndex = .., make(..)'. -/
theorem gi_stored {w wr : World} {ai am : Option Addr} {n ci cm k : Nat} (h : GI w wr (inC ai am n ci cm .nilIface (.slice none 0 0))) (p x : Value) (o : Obj) (hs : wr.heap.size = w.heap.size + 3) (hin : Ints wr (w.heap.size + 1 + 1) k (fun q => (q : Int)) k) :
    GI w ((((wr.setCell ⟨w.heap.size + 1, 4, none⟩ p).setCell ⟨w.heap.size + 1, 5, none⟩ x).alloc o).drew) (inC ai am n ci cm p x) ∧ ((((wr.setCell ⟨w.heap.size + 1, 4, none⟩ p).setCell ⟨w.heap.size + 1, 5, none⟩ x).alloc o).drew).heap[wr.heap.size]? = some o ∧
      Ints ((((wr.setCell ⟨w.heap.size + 1, 4, none⟩ p).setCell ⟨w.heap.size + 1, 5, none⟩ x).alloc o).drew) (w.heap.size + 1 + 1) k (fun q => (q : Int)) k := by
  have e1 := heap_setCell_at (i := 4) h.inn p
  have e2 := heap_setCell_at (i := 5) e1 x
  have sz : ((wr.setCell ⟨w.heap.size + 1, 4, none⟩ p).setCell ⟨w.heap.size + 1, 5, none⟩ x).heap.size = wr.heap.size := by simp only [size_setCell]
  have other : ∀ b, b ≠ w.heap.size + 1 → b < wr.heap.size → (((wr.setCell ⟨w.heap.size + 1, 4, none⟩ p).setCell ⟨w.heap.size + 1, 5, none⟩ x).alloc o).heap[b]? = wr.heap[b]? := fun b hb hlt => by
    rw [Below.heap_alloc _ _ _ (by rw [sz]; exact hlt), Below.heap_setCell _ _ _ _ hb, Below.heap_setCell _ _ _ _ hb]
  obtain ⟨R0, r1, r2⟩ := h.res
  refine ⟨⟨(((h.below.setCell (by simp) _).setCell (by simp) _).alloc (by rw [sz]; omega) _).drew, ⟨R0, (other _ (by omega) (by omega)).trans r1, r2⟩, ?_⟩, ?_, hin.same (other _ (by omega) (by omega))⟩
  · show (((wr.setCell ⟨w.heap.size + 1, 4, none⟩ p).setCell ⟨w.heap.size + 1, 5, none⟩ x).alloc o).heap[w.heap.size + 1]? = _
    rw [Below.heap_alloc _ _ _ (by rw [sz]; omega), e2]
    rfl
  · show (((wr.setCell ⟨w.heap.size + 1, 4, none⟩ p).setCell ⟨w.heap.size + 1, 5, none⟩ x).alloc o).heap[wr.heap.size]? = _
    rw [← sz]
    exact heap_alloc_new _ _

set_option maxHeartbeats 1600000 in
set_option maxRecDepth 100000 in
/-- groupInput over an earlier fleet with its one group. -/
theorem groupInput_full (bb fb gb eb xb hb gcap n en : Nat) (ai am ae : Option Addr) (ci cm ce : Nat) (pv : Addr) (pos : Nat → Int) (w : World) (hn : n ≤ 1024) (hen : en ≤ 1024)
  (b10 : w.cell? ⟨bb, 22, none⟩ = some (.pointer none)) (b6 : w.cell? ⟨bb, 18, none⟩ = some (.pointer none)) (f0 : w.cell? ⟨fb, 0, none⟩ = some (.slice ai n ci)) (f1 : w.cell? ⟨fb, 1, none⟩ = some (.slice am n cm)) (g0 : w.cell? ⟨gb, 0, none⟩ = some (.int .u8 2)) (g1 : w.cell? ⟨gb, 1, none⟩ = some (.slice none 0 0))
  (e0 : w.cell? ⟨eb, 0, none⟩ = some (.slice ae en ce)) (e3 : w.cell? ⟨eb, 3, none⟩ = some (.slice (some ⟨hb, 0, none⟩) 1 gcap)) (h0 : w.cell? ⟨hb, 0, none⟩ = some (.int .u8 2)) (h1 : w.cell? ⟨hb, 1, none⟩ = some (.slice none 0 0)) (h2 : w.cell? ⟨hb, 2, none⟩ = some (.iface 36 (.pointer (some pv))))
  (hx : ∀ i, i < n → w.cell? ⟨xb, i, none⟩ = some (.int .i64 (pos i))) (hp : ∀ i, i < n → -1 ≤ pos i ∧ pos i < en) :
    Calls Yba.prog 14 #[.pointer (some ⟨bb, 0, none⟩), .pointer (some ⟨fb, 0, none⟩), .pointer (some ⟨gb, 0, none⟩), .pointer (some ⟨eb, 0, none⟩), .slice (some ⟨xb, 0, none⟩) n n] w fun e w' =>
      ∃ ib, w.heap.size ≤ ib ∧ e = .returned (.agg #[.slice ai n ci, .slice am n cm, .pointer none, .pointer none, .iface 36 (.pointer (some pv)), .slice (some ⟨ib, 0, none⟩) n n]) ∧ Ints w' ib n pos n ∧ Below w.heap.size w w' := by
  obtain ⟨b10', b10''⟩ := cell_alloc2 b10
  obtain ⟨b6', b6''⟩ := cell_alloc2 b6
  obtain ⟨f0', f0''⟩ := cell_alloc2 f0
  obtain ⟨f1', f1''⟩ := cell_alloc2 f1
  obtain ⟨g0', g0''⟩ := cell_alloc2 g0
  obtain ⟨g1', g1''⟩ := cell_alloc2 g1
  obtain ⟨e0', e0''⟩ := cell_alloc2 e0
  obtain ⟨e3', e3''⟩ := cell_alloc2 e3
  obtain ⟨h0', h0''⟩ := cell_alloc2 h0
  have hnn := neq107
  have hne := eql107
  have hmk := make33 en hen
  have hmk' := make33 n hn
  go_enter Yba.func14, Yba.ntmps14
  go_wp2
  go_region
  go_wp2_with fail
  refine (sameGroup_one eb hb gcap gb _ (by exact e3'' _ _) (by exact h0'' _ _) (by exact g0'' _ _)).mono ?_
  rintro e w1 ⟨rfl, nq, rfl⟩
  clear b10 b10' b10'' b6 b6' b6'' f0 f0' f0'' f1 f1' f1'' g0 g0' g0'' g1' g1'' e0' e3 e3' e3'' h0 h0' h0''
  go_wp2
  go_loopw [103] (fun i wr => ∃ k : Nat, k ≤ en ∧ i = .int .i64 k ∧ GI w wr (inC ai am n ci cm .nilIface (.slice none 0 0)) ∧ wr.heap.size = w.heap.size + 3 ∧ Ints wr (w.heap.size + 1 + 1) en (fun _ => -1) k) (fun i _ => en - (intOf i).toNat)
  case atStart =>
    refine ⟨0, Nat.zero_le _, rfl, gi_start w _ _, by simp, row3 en, ?_, by simp [row3, size_madeCells], fun i hi => by omega⟩
    have := heap_alloc_new (((w.alloc (.cells #[.slice none 0 0, .slice none 0 0, .pointer none, .pointer none, .nilIface, .slice none 0 0] 35)).alloc (.cells #[.slice ai n ci, .slice am n cm, .pointer none, .pointer none, .nilIface, .slice none 0 0] 35)).drewN (1 + nq)) (.cells (row3 en) 3)
    simpa using this
  case round =>
    obtain ⟨k, hk, rfl, hgi, hsz, hin⟩ := hrel
    by_cases hlt : k < en
    · obtain ⟨v, hc⟩ := hin.some hlt
      have hf := hin.free k
      have HS : Hid (wr.heap.size = w.heap.size + 3) := hsz
      clear hsz
      go_wp2
      go_roundw
      case rel => exact ⟨k + 1, by omega, by go_num, hgi.turn ((Below.refl _ _).setCell (by simp) _), by rw [size_setCell]; exact HS.out, hin.step hlt⟩
      case measure => simp [intOf]; omega
    · have hin := hin.weak (g := fun q => (q : Int))
      have he0 : wr.cell? ⟨eb, 0, none⟩ = some (.slice ae en ce) := (hgi.below.cell (World.block_lt_of_cell? w _ e0)).trans e0
      have hh1 : wr.cell? ⟨hb, 1, none⟩ = some (.slice none 0 0) := (hgi.below.cell (World.block_lt_of_cell? w _ h1)).trans h1
      have HS : Hid (wr.heap.size = w.heap.size + 3) := hsz
      clear hsz
      go_wp2
      go_loopw [117] (fun i wr => ∃ k : Nat, k ≤ en ∧ i = .int .i64 k ∧ GI w wr (inC ai am n ci cm .nilIface (.slice none 0 0)) ∧ wr.heap.size = w.heap.size + 3 ∧ Ints wr (w.heap.size + 1 + 1) en (fun q => (q : Int)) k) (fun i _ => en - (intOf i).toNat)
      case atStart => exact ⟨0, Nat.zero_le _, rfl, hgi, HS.out, hin⟩
      case round =>
        clear hgi HS hin he0 hh1 hlt hk
        obtain ⟨k, hk, rfl, hgi, hsz, hin⟩ := hrel
        have hh1 : wr.cell? ⟨hb, 1, none⟩ = some (.slice none 0 0) := (hgi.below.cell (World.block_lt_of_cell? w _ h1)).trans h1
        by_cases hlt : k < en
        · obtain ⟨v, hc⟩ := hin.some hlt
          have hf := hin.free k
          have HS : Hid (wr.heap.size = w.heap.size + 3) := hsz
          clear hsz
          go_wp2
          go_roundw
          case rel => exact ⟨k + 1, by omega, by go_num, hgi.turn ((Below.refl _ _).setCell (by simp) _), by rw [size_setCell]; exact HS.out, hin.step hlt⟩
          case measure => simp [intOf]; omega
        · obtain rfl : k = en := by omega
          have hh2 : wr.cell? ⟨hb, 2, none⟩ = some (.iface 36 (.pointer (some pv))) := (hgi.below.cell (World.block_lt_of_cell? w _ h2)).trans h2
          obtain ⟨hcs, hfz, -, -⟩ := hgi.cells
          have c0 : wr.cell? ⟨w.heap.size + 1, 0, none⟩ = some (.slice ai n ci) := hcs 0
          have c4 : wr.cell? ⟨w.heap.size + 1, 4, none⟩ = some .nilIface := hcs 4
          have c5 : wr.cell? ⟨w.heap.size + 1, 5, none⟩ = some (.slice none 0 0) := hcs 5
          have f4 := hfz 4
          have f5 := hfz 5
          have hh2' := cell_alloc hh2
          have c0' := cell_alloc c0
          have c4' := cell_alloc c4
          have c5' := cell_alloc c5
          have hlt1 : w.heap.size + 1 < wr.heap.size := by omega
          have HS : Hid (wr.heap.size = w.heap.size + 3) := hsz
          clear hsz hcs hfz
          obtain ⟨ib, hib⟩ : ∃ ib, wr.heap.size = ib := ⟨_, rfl⟩
          have hib0 : w.heap.size ≤ ib := by omega
          have hlt1' : w.heap.size + 1 < ib := by omega
          have hib3 : Hid (ib = w.heap.size + 3) := hib.symm.trans HS.out
          obtain ⟨hgi2, hrow2, hpos2⟩ := gi_stored hgi (.iface 36 (.pointer (some pv))) (.slice (some ⟨ib, 0, none⟩) n n) (.cells (row3 n) 3) HS.out hin
          have hnew2 : Ints ((((wr.setCell ⟨w.heap.size + 1, 4, none⟩ (.iface 36 (.pointer (some pv)))).setCell ⟨w.heap.size + 1, 5, none⟩ (.slice (some ⟨ib, 0, none⟩) n n)).alloc (.cells (row3 n) 3)).drew) ib n pos 0 := ⟨row3 n, by have := hrow2; rw [hib] at this; exact this, by simp [row3, size_madeCells], fun i hi => by omega⟩
          have HG : Hid (GI w ((((wr.setCell ⟨w.heap.size + 1, 4, none⟩ (.iface 36 (.pointer (some pv)))).setCell ⟨w.heap.size + 1, 5, none⟩ (.slice (some ⟨ib, 0, none⟩) n n)).alloc (.cells (row3 n) 3)).drew) (inC ai am n ci cm (.iface 36 (.pointer (some pv))) (.slice (some ⟨ib, 0, none⟩) n n)) ∧ Ints ((((wr.setCell ⟨w.heap.size + 1, 4, none⟩ (.iface 36 (.pointer (some pv)))).setCell ⟨w.heap.size + 1, 5, none⟩ (.slice (some ⟨ib, 0, none⟩) n n)).alloc (.cells (row3 n) 3)).drew) (w.heap.size + 1 + 1) k (fun q => (q : Int)) k ∧ Ints ((((wr.setCell ⟨w.heap.size + 1, 4, none⟩ (.iface 36 (.pointer (some pv)))).setCell ⟨w.heap.size + 1, 5, none⟩ (.slice (some ⟨ib, 0, none⟩) n n)).alloc (.cells (row3 n) 3)).drew) ib n pos 0) := ⟨hgi2, hpos2, hnew2⟩
          clear hgi2 hrow2 hpos2 hnew2 hgi hin
          go_wp2
          go_region
          go_wp2
          go_loopw [143] (fun i wr => ∃ j : Nat, j ≤ n ∧ i = .int .i64 j ∧ GI w wr (inC ai am n ci cm (.iface 36 (.pointer (some pv))) (.slice (some ⟨ib, 0, none⟩) n n)) ∧ Ints wr (w.heap.size + 1 + 1) k (fun q => (q : Int)) k ∧ Ints wr ib n pos j) (fun i _ => n - (intOf i).toNat)
          case atStart => exact ⟨0, Nat.zero_le _, rfl, HG.out⟩
          case round =>
            clear HG HS c0 c4 c5 f4 f5 c0' c4' c5' hh2 hh2' hlt1 hib hh1 hlt hk
            obtain ⟨j, hj, rfl, hgi, hpos, hin⟩ := hrel
            obtain ⟨hcs, hfz, hfr, r0, r1, r2, r3, r4, r5, z0, z1, z2, z3, z4, z5⟩ := hgi.cells
            have c0 : wr.cell? ⟨w.heap.size + 1, 0, none⟩ = some (.slice ai n ci) := hcs 0
            have c1 : wr.cell? ⟨w.heap.size + 1, 1, none⟩ = some (.slice am n cm) := hcs 1
            have c2 : wr.cell? ⟨w.heap.size + 1, 2, none⟩ = some (.pointer none) := hcs 2
            have c3 : wr.cell? ⟨w.heap.size + 1, 3, none⟩ = some (.pointer none) := hcs 3
            have c4 : wr.cell? ⟨w.heap.size + 1, 4, none⟩ = some (.iface 36 (.pointer (some pv))) := hcs 4
            have c5 : wr.cell? ⟨w.heap.size + 1, 5, none⟩ = some (.slice (some ⟨ib, 0, none⟩) n n) := hcs 5
            clear hcs
            by_cases hlt : j < n
            · have hg1 : wr.cell? ⟨gb, 1, none⟩ = some (.slice none 0 0) := (hgi.below.cell (World.block_lt_of_cell? w _ g1)).trans g1
              have hxj : wr.cell? ⟨xb, j, none⟩ = some (.int .i64 (pos j)) := (hgi.below.cell (World.block_lt_of_cell? w _ (hx j hlt))).trans (hx j hlt)
              obtain ⟨v, hc⟩ := hin.some hlt
              have hf := hin.free j
              have hibg : gb ≠ ib := by have := World.block_lt_of_cell? w _ g1; simp at this; omega
              have hibx : xb ≠ ib := by have := World.block_lt_of_cell? w _ (hx j hlt); simp at this; omega
              have hib3' := hib3.out
              have cg := cell_set hg1 (a := ⟨ib, j, none⟩) hibg
              have cx := cell_set hxj (a := ⟨ib, j, none⟩) hibx
              have c5s := cell_set c5 (a := ⟨ib, j, none⟩) (show w.heap.size + 1 ≠ ib by omega)
              have hfs : ∀ v, (wr.setCell ⟨ib, j, none⟩ v).frozen? ⟨ib, j, none⟩ = false := fun v => (World.frozen?_setCell _ _ _ _).trans hf
              obtain ⟨pj, hpj⟩ : ∃ pj, pj = pos j := ⟨_, rfl⟩
              have hpb := hp j hlt
              rw [← hpj] at hpb hxj cx
              have HP : Hid (pj = pos j) := hpj
              clear hpj
              obtain ⟨hp0, hp1⟩ := hpb
              by_cases hpos0 : 0 ≤ pj
              · have hcp := hpos.cell (i := pj.toNat) (by omega)
                rw [show ((pj.toNat : Nat) : Int) = pj from by omega] at hcp
                have cps := cell_set hcp (a := ⟨ib, j, none⟩) (show w.heap.size + 1 + 1 ≠ ib by omega)
                clear hib3'
                go_wp2
                go_region
                go_wp2
                go_roundw
                case rel =>
                  have h3 := hib3.out
                  refine ⟨j + 1, by omega, by go_num, hgi.turn (((Below.refl _ _).setCell (show w.heap.size + 2 ≤ ib by omega) _).setCell (show w.heap.size + 2 ≤ ib by omega) _).drew, (hpos.same (Below.heap_setCell _ _ _ _ (show w.heap.size + 1 + 1 ≠ ib by omega))).same (Below.heap_setCell _ _ _ _ (show w.heap.size + 1 + 1 ≠ ib by omega)), ?_⟩
                  have := hin.step2 hlt (.int .i64 (-1))
                  rw [← HP.out] at this
                  exact this
                case measure => simp [intOf]; omega
              · clear hib3'
                go_wp2
                go_roundw
                case rel => exact ⟨j + 1, by omega, by go_num, hgi.turn ((Below.refl _ _).setCell (show w.heap.size + 2 ≤ ib by have := hib3.out; omega) _), hpos.same (Below.heap_setCell _ _ _ _ (show w.heap.size + 1 + 1 ≠ ib by have := hib3.out; omega)), by have := hin.step hlt; rw [← HP.out, show pj = -1 from by omega] at this; exact this⟩
                case measure => simp [intOf]; omega
            · obtain rfl : j = n := by omega
              go_wp2
              refine bodyPost_ret (v := .agg #[.slice ai j ci, .slice am j cm, .pointer none, .pointer none, .iface 36 (.pointer (some pv)), .slice (some ⟨ib, 0, none⟩) j j]) (by simp [results, Yba.results14, go_sem, z0, z1, z2, z3, z4, z5]) rfl ⟨ib, hib0, rfl, ?_, ?_⟩
              · exact hin.same (six_other wr w.heap.size ib _ _ _ _ _ _ (by have h3 := hib3.out; omega))
              · exact hgi.below.trans (six_below wr w.heap.size _ _ _ _ _ _)
end Go.Proofs.Ybulktog
