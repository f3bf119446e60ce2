/-
  What the blocks hold while newFleet runs: lemmas outside the walk.
-/
import Derived.Test.YbulktogInput
import Derived.WalkSmall
import Derived.Deep.RegionWith
import Derived.Deep.Cut
import Derived.Deep.CutRange
namespace Go.Proofs.Ybulktog
open Go.ChangeShapes Go.WideShapes Go.ChangeAt Go.RowKit

theorem info93 : (Yba.prog.info? 93).map (fun i => (i.zero, i.size, i.bytes)) = some (some (.pointer none), 1, 8) := by kernel_rfl
/-- n nil pointers. -/
def row93 (n : Nat) : Array Value := madeCells (Value.pointer none).cells (n * 1)
theorem make28 (n : Nat) (hn : n ≤ 1024) (w : World) : (Instr.makeSlice 28 (.int .i64 n) (.int .i64 n)).run Yba.prog w = .ok (.slice (some ⟨w.heap.size, 0, none⟩) n n) (w.alloc (.cells (row93 n) 93)) := by
  obtain ⟨i0, hi, hz0, hz1, hz2⟩ := info_parts info93
  have h := run_make (P := Yba.prog) w 28 93 i0 _ Yba.underlying28 hi hz0 .i64 .i64 n n (by omega) (by omega) (by rw [hz2]; omega) (by omega)
  rw [hz1] at h
  simpa [row93] using h

theorem size_alloc (w : World) (o : Obj) : (w.alloc o).heap.size = w.heap.size + 1 := by simp

/-- The fleet's cells. -/
def fleetC (_N mb xb ii n : Nat) (g l : Value) : Array Value := #[.slice (some ⟨ii, 0, none⟩) n n, .slice (some ⟨mb, 0, none⟩) n n, .map (some xb), g, .int .i64 0, .int .u32 0, .int .i32 0, .int .u32 0, l, .int .u32 0, .int .u32 0, .int .u64 0, .pointer none, .pointer none, .int .u64 0]

/-- The condition's lock: a pointer to the fleet's own mutex. -/
def lockV (N : Nat) : Value := .iface 117 (.pointer (some ⟨N + 2, 6, none⟩))

/-- The members' row and the index map are the two first new blocks, in whichever order they were made. -/
def Two (N mb xb : Nat) : Prop := (mb = N ∧ xb = N + 1) ∨ (mb = N + 1 ∧ xb = N)

/-- newFleet's loop: the index holds the first kx IDs, the members' row the first k members. -/
structure NF (w wr : World) (mb xb ii n : Nat) (ids : Nat → ByteArray) (pos : Nat → Int) (emem : Nat → Nat) (mem : Nat → Nat) (kx k : Nat) : Prop where
  two : Two w.heap.size mb xb
  below : Below w.heap.size w wr
  size : w.heap.size + 4 ≤ wr.heap.size
  fleet : wr.heap[w.heap.size + 2]? = some (.cells (fleetC w.heap.size mb xb ii n (.slice none 0 0) (lockV w.heap.size)) 87 (0, 0))
  memb : ∃ cur, wr.heap[mb]? = some (.cells cur 93 (0, 0)) ∧ cur.size = n ∧ ∀ i, i < k → cur[i]? = some (.pointer (some ⟨mem i, 0, none⟩))
  index : ∃ es clock, wr.heap[xb]? = some (.map es clock) ∧ Ents es.toList (tab ids kx)
  xi : Ints wr (w.heap.size + 3) n pos k
  old : ∀ i, i < k → 0 ≤ pos i → mem i = emem (pos i).toNat
  new : ∀ i, i < k → pos i < 0 → w.heap.size + 4 ≤ mem i ∧ wr.heap[mem i]? = some (.cells memC 102 (0, 0))
  incr : ∀ i j, i < j → j < k → pos i < 0 → pos j < 0 → mem i < mem j

section
variable {w wr : World} {mb xb ii n : Nat} {ids : Nat → ByteArray} {pos : Nat → Int} {emem mem : Nat → Nat} {kx k : Nat}

theorem NF.lows (h : NF w wr mb xb ii n ids pos emem mem kx k) : w.heap.size ≤ mb ∧ w.heap.size ≤ xb ∧ mb < w.heap.size + 2 ∧ xb < w.heap.size + 2 ∧ mb ≠ xb := by rcases h.two with ⟨h1, h2⟩ | ⟨h1, h2⟩ <;> omega

/-- What writes none of newFleet's own blocks keeps all. -/
theorem NF.keep (h : NF w wr mb xb ii n ids pos emem mem kx k) {X : World} (hb : Below w.heap.size w X) (hs : wr.heap.size ≤ X.heap.size) (hk : ∀ b, w.heap.size ≤ b → b < wr.heap.size → X.heap[b]? = wr.heap[b]?) : NF w X mb xb ii n ids pos emem mem kx k := by
  have hz := h.size
  obtain ⟨l1, l2, l3, l4, l5⟩ := h.lows
  obtain ⟨cur, m1, m2, m3⟩ := h.memb
  obtain ⟨es, clock, i1, i2⟩ := h.index
  exact ⟨h.two, hb, by omega, (hk _ (by omega) (by omega)).trans h.fleet, ⟨cur, (hk _ (by omega) (by omega)).trans m1, m2, m3⟩, ⟨es, clock, (hk _ (by omega) (by omega)).trans i1, i2⟩, h.xi.same (hk _ (by omega) (by omega)), h.old,
    fun i hi hp => ⟨(h.new i hi hp).1, (hk _ (by have := (h.new i hi hp).1; omega) (lt_of_block (h.new i hi hp).2)).trans (h.new i hi hp).2⟩, h.incr⟩

theorem NF.drew (h : NF w wr mb xb ii n ids pos emem mem kx k) (m : Nat) : NF w (wr.drewN m) mb xb ii n ids pos emem mem kx k := h.keep (below_drewN h.below m) (Nat.le_refl _) (fun _ _ _ => rfl)

theorem NF.alloc (h : NF w wr mb xb ii n ids pos emem mem kx k) (o : Obj) : NF w (wr.alloc o) mb xb ii n ids pos emem mem kx k := h.keep (h.below.alloc (by have := h.size; omega) o) (by rw [size_alloc]; omega) (fun b _ hb => Below.heap_alloc wr o b hb)

theorem nf_index {P : Program} (h : NF w wr mb xb ii n ids pos emem mem kx k) (ht : P.underlying 73 = some (.map 9 3)) (hk9 : P.underlying 9 = some .string) :
    ∃ w2, (Instr.mapUpdate 73 (.map (some xb)) (.string (ids kx)) (.int .i64 kx)).run P wr = .ok () w2 ∧ NF w w2 mb xb ii n ids pos emem mem (kx + 1) k := by
  have hz := h.size
  obtain ⟨l1, l2, l3, l4, l5⟩ := h.lows
  obtain ⟨cur, m1, m2, m3⟩ := h.memb
  obtain ⟨es, clock, i1, i2⟩ := h.index
  obtain ⟨w2, hrun, hidx, hg⟩ := run_put (P := P) ht hk9 i1 i2 (ids kx) kx
  have hk : ∀ b, b < wr.heap.size → b ≠ xb → w2.heap[b]? = wr.heap[b]? := fun b hb hne => hg.block b hb (by simpa using hne)
  have hz2 := hg.size
  refine ⟨w2, hrun, h.two, h.below.trans ⟨hg.os, hg.tape, hg.output, hg.size, fun b hb => hk b (by omega) (by omega)⟩, by omega, (hk _ (by omega) (by omega)).trans h.fleet, ⟨cur, (hk _ (by omega) (by omega)).trans m1, m2, m3⟩, hidx, h.xi.same (hk _ (by omega) (by omega)), h.old,
    fun i hi hp => ⟨(h.new i hi hp).1, (hk _ (lt_of_block (h.new i hi hp).2) (by have := (h.new i hi hp).1; omega)).trans (h.new i hi hp).2⟩, h.incr⟩

/-- The cells that the round writes. -/
theorem NF.slots (h : NF w wr mb xb ii n ids pos emem mem kx k) (hk : k < n) : (∃ v, wr.cell? ⟨mb, k, none⟩ = some v) ∧ wr.frozen? ⟨mb, k, none⟩ = false := by
  obtain ⟨cur, m1, m2, _⟩ := h.memb
  exact ⟨⟨cur[k]'(by omega), (cell_of_row _ _ k cur 93 (0, 0) m1).trans (Array.getElem?_eq_getElem (by omega))⟩, by simp [World.frozen?, m1]⟩

theorem NF.fcell (h : NF w wr mb xb ii n ids pos emem mem kx k) (o : Nat) : wr.cell? ⟨w.heap.size + 2, o, none⟩ = (fleetC w.heap.size mb xb ii n (.slice none 0 0) (lockV w.heap.size))[o]? := cell_of_row _ _ o _ _ _ h.fleet

/-- Both stores of a round. -/
theorem nf_step (h : NF w wr mb xb ii n ids pos emem mem kx k) (hk : k < n) (m : Nat) (ho : 0 ≤ pos k → m = emem (pos k).toNat) (hnew : pos k < 0 → w.heap.size + 4 ≤ m ∧ wr.heap[m]? = some (.cells memC 102 (0, 0)) ∧ ∀ i, i < k → pos i < 0 → mem i < m) :
    NF w ((wr.setCell ⟨mb, k, none⟩ (.pointer (some ⟨m, 0, none⟩))).setCell ⟨w.heap.size + 3, k, none⟩ (.int .i64 (pos k))) mb xb ii n ids pos emem (fun i => if i = k then m else mem i) kx (k + 1) := by
  have hz := h.size
  obtain ⟨l1, l2, l3, l4, l5⟩ := h.lows
  obtain ⟨cur, m1, m2, m3⟩ := h.memb
  obtain ⟨es, clock, i1, i2⟩ := h.index
  have oth : ∀ b, b ≠ mb → b ≠ w.heap.size + 3 → ((wr.setCell ⟨mb, k, none⟩ (.pointer (some ⟨m, 0, none⟩))).setCell ⟨w.heap.size + 3, k, none⟩ (.int .i64 (pos k))).heap[b]? = wr.heap[b]? := fun b h1 h2 => by
    rw [Below.heap_setCell _ _ _ _ h2, Below.heap_setCell _ _ _ _ h1]
  have x1 : Ints (wr.setCell ⟨mb, k, none⟩ (.pointer (some ⟨m, 0, none⟩))) (w.heap.size + 3) n pos k := h.xi.same (Below.heap_setCell _ _ _ _ (show w.heap.size + 3 ≠ mb by omega))
  refine ⟨h.two, (h.below.setCell l1 _).setCell (by simp) _, by simp only [size_setCell]; exact hz, (oth _ (by omega) (by omega)).trans h.fleet, ⟨_, (Below.heap_setCell _ _ _ _ (show mb ≠ w.heap.size + 3 by omega)).trans (heap_setCell_at m1 _), by simp [m2], fun i hi => ?_⟩, ⟨es, clock, (oth _ (by omega) (by omega)).trans i1, i2⟩, x1.step hk, fun i hi hp => ?_, fun i hi hp => ?_, fun i j hij hj hp1 hp2 => ?_⟩
  · by_cases hik : i = k
    · subst hik
      rw [Array.getElem?_setIfInBounds_self_of_lt (by omega)]
      simp
    · rw [Array.getElem?_setIfInBounds_ne (by omega), m3 i (by omega)]
      simp [hik]
  · by_cases hik : i = k
    · subst hik; simp [ho hp]
    · simp only [hik, if_false]; exact h.old i (by omega) hp
  · by_cases hik : i = k
    · subst hik
      obtain ⟨a, b, _⟩ := hnew hp
      simp only [if_true]
      exact ⟨a, (oth _ (by omega) (by omega)).trans b⟩
    · simp only [hik, if_false]
      obtain ⟨a, b⟩ := h.new i (by omega) hp
      exact ⟨a, (oth _ (by omega) (by omega)).trans b⟩
  · by_cases hjk : j = k
    · subst hjk
      have hik : i ≠ j := by omega
      simp only [hik, if_false, if_true]
      exact (hnew hp2).2.2 i (by omega) hp1
    · have hik : i ≠ k := by omega
      simp only [hjk, hik, if_false]
      exact h.incr i j hij (by omega) hp1 hp2

end

/-- Behind the literal: the two new blocks and the fleet. -/
structure F0 (w wx : World) (mb xb ii n : Nat) : Prop where
  two : Two w.heap.size mb xb
  below : Below w.heap.size w wx
  size : wx.heap.size = w.heap.size + 3
  fleet : wx.heap[w.heap.size + 2]? = some (.cells (fleetC w.heap.size mb xb ii n (.slice none 0 0) .nilIface) 87 (0, 0))
  memb : wx.heap[mb]? = some (.cells (row93 n) 93 (0, 0))
  index : wx.heap[xb]? = some (.map #[] 0)

theorem f0_row (w : World) (ii n : Nat) : F0 w (((w.alloc (.cells (row93 n) 93)).alloc (.map #[] 0)).alloc (.cells (fleetC w.heap.size w.heap.size (w.heap.size + 1) ii n (.slice none 0 0) .nilIface) 87)).drew w.heap.size (w.heap.size + 1) ii n := by
  have e0 := heap_alloc_new w (.cells (row93 n) 93)
  have e1 := heap_alloc_new (w.alloc (.cells (row93 n) 93)) (.map #[] 0)
  have e2 := heap_alloc_new ((w.alloc (.cells (row93 n) 93)).alloc (.map #[] 0)) (.cells (fleetC w.heap.size w.heap.size (w.heap.size + 1) ii n (.slice none 0 0) .nilIface) 87)
  simp only [size_alloc] at e1 e2
  refine ⟨.inl ⟨rfl, rfl⟩, ?_, by show (World.heap (World.alloc _ _)).size = _; simp only [size_alloc], e2, ?_, ?_⟩
  · exact (((Below.refl w.heap.size w).alloc (Nat.le_refl _) _).alloc (by simp) _).alloc (by simp only [size_alloc]; omega) _ |>.drew
  · exact (Below.heap_alloc _ _ _ (by simp only [size_alloc]; omega)).trans ((Below.heap_alloc _ _ _ (by simp only [size_alloc]; omega)).trans e0)
  · exact (Below.heap_alloc _ _ _ (by simp only [size_alloc]; omega)).trans e1

theorem f0_map (w : World) (ii n : Nat) : F0 w (((w.alloc (.map #[] 0)).alloc (.cells (row93 n) 93)).alloc (.cells (fleetC w.heap.size (w.heap.size + 1) w.heap.size ii n (.slice none 0 0) .nilIface) 87)).drew (w.heap.size + 1) w.heap.size ii n := by
  have e0 := heap_alloc_new w (.map #[] 0)
  have e1 := heap_alloc_new (w.alloc (.map #[] 0)) (.cells (row93 n) 93)
  have e2 := heap_alloc_new ((w.alloc (.map #[] 0)).alloc (.cells (row93 n) 93)) (.cells (fleetC w.heap.size (w.heap.size + 1) w.heap.size ii n (.slice none 0 0) .nilIface) 87)
  simp only [size_alloc] at e1 e2
  refine ⟨.inr ⟨rfl, rfl⟩, ?_, by show (World.heap (World.alloc _ _)).size = _; simp only [size_alloc], e2, ?_, ?_⟩
  · exact (((Below.refl w.heap.size w).alloc (Nat.le_refl _) _).alloc (by simp) _).alloc (by simp only [size_alloc]; omega) _ |>.drew
  · exact (Below.heap_alloc _ _ _ (by simp only [size_alloc]; omega)).trans e1
  · exact (Below.heap_alloc _ _ _ (by simp only [size_alloc]; omega)).trans ((Below.heap_alloc _ _ _ (by simp only [size_alloc]; omega)).trans e0)

theorem nf_start {w wx : World} {mb xb ii n : Nat} (h : F0 w wx mb xb ii n) (ids : Nat → ByteArray) (pos : Nat → Int) (emem mem : Nat → Nat) : NF w ((wx.setCell ⟨w.heap.size + 2, 8, none⟩ (lockV w.heap.size)).alloc (.cells (row3 n) 3)) mb xb ii n ids pos emem mem 0 0 := by
  have hz := h.size
  have hs : (wx.setCell ⟨w.heap.size + 2, 8, none⟩ (lockV w.heap.size)).heap.size = w.heap.size + 3 := by rw [size_setCell, hz]
  have e3 := heap_alloc_new (wx.setCell ⟨w.heap.size + 2, 8, none⟩ (lockV w.heap.size)) (.cells (row3 n) 3)
  rw [hs] at e3
  have e2 := heap_setCell_at (i := 8) h.fleet (lockV w.heap.size)
  have oth : ∀ b, b < w.heap.size + 2 → ((wx.setCell ⟨w.heap.size + 2, 8, none⟩ (lockV w.heap.size)).alloc (.cells (row3 n) 3)).heap[b]? = wx.heap[b]? := fun b hb => by
    rw [Below.heap_alloc _ _ _ (by omega), Below.heap_setCell _ _ _ _ (show b ≠ w.heap.size + 2 by omega)]
  have l : mb < w.heap.size + 2 ∧ xb < w.heap.size + 2 := by rcases h.two with ⟨h1, h2⟩ | ⟨h1, h2⟩ <;> omega
  refine ⟨h.two, (h.below.setCell (by simp) _).alloc (by omega) _, by rw [size_alloc]; omega, ?_, ⟨row93 n, (oth _ l.1).trans h.memb, by simp [row93, size_madeCells], fun i hi => by omega⟩, ⟨#[], 0, (oth _ l.2).trans h.index, rfl⟩, ⟨row3 n, e3, by simp [row3, size_madeCells], fun i hi => by omega⟩, fun i hi => by omega, fun i hi => by omega, fun i j hij hj => by omega⟩
  rw [Below.heap_alloc _ _ _ (by omega), e2]
  rfl
end Go.Proofs.Ybulktog
