/-
  The second law between its two fleets: groupInput over the earlier fleet; what is kept.
-/
import Derived.Test.YbulktogCarry
namespace Go.Proofs.Ybulktog
open Go.ChangeShapes Go.WideShapes Go.ChangeAt Go.RowKit

theorem Fleet.keepZ {w w' : World} {N mb xb I n Z : Nat} {gv : Value} {ids : Nat → ByteArray} {pos : Nat → Int} {emem mem : Nat → Nat} {S : Nat → Prop} (h : Fleet w N mb xb I n gv ids pos emem mem) (hk : Kept S w w') (hS : ∀ k, S k → k < N ∨ Z ≤ k) (nz : N + 4 ≤ Z) (mz : ∀ i, i < n → mem i < Z) : Fleet w' N mb xb I n gv ids pos emem mem := by
  have hz := h.size
  obtain ⟨l1, l2, l3, l4, l5⟩ := h.two.lows
  have keep : ∀ b, N ≤ b → b < Z → b < w.heap.size → w'.heap[b]? = w.heap[b]? := fun b h1 h2 h3 => hk.block b h3 (fun hs => by have := hS b hs; omega)
  obtain ⟨cur, m1, m3⟩ := h.memb
  obtain ⟨es, clock, i1, i2⟩ := h.index
  exact ⟨h.two, Nat.le_trans hz hk.size, (keep _ (by omega) (by omega) (by omega)).trans h.fl, ⟨cur, (keep _ (by omega) (by omega) (by omega)).trans m1, m3⟩, ⟨es, clock, (keep _ (by omega) (by omega) (by omega)).trans i1, i2⟩, h.old,
    fun i hi hp => ⟨(h.new i hi hp).1, (keep _ (by have := (h.new i hi hp).1; omega) (mz i hi) (lt_of_block (h.new i hi hp).2)).trans (h.new i hi hp).2⟩, h.incr⟩

/-- What groupInput finds of the earlier fleet, where that has no group. -/
def InpZ (_ _ : World) (i4 i5 : Value) : Prop := i4 = .nilIface ∧ i5 = .slice none 0 0

/-- .. where it has its one group. -/
def InpP (n pkA : Nat) (pos : Nat → Int) (w1 w2 : World) (i4 i5 : Value) : Prop := i4 = .iface 36 (.pointer (some ⟨pkA, 0, none⟩)) ∧ ∃ ib, w1.heap.size ≤ ib ∧ i5 = .slice (some ⟨ib, 0, none⟩) n n ∧ Ints w2 ib n pos n

theorem gi_zero (w : World) (bb I Lb n eb : Nat) (ids : Nat → ByteArray) (pos : Nat → Int) (emem : Nat → Nat) (hB : Bal w bb Lb) (e3 : w.cell? ⟨eb, 3, none⟩ = some (.slice none 0 0)) (mb xb : Nat) (mem : Nat → Nat) (X : World) (hnf : NF w X mb xb I n ids pos emem mem n n) (gb : Nat) (w1 : World) (hb1 : Below X.heap.size X w1) (hg1 : w1.cell? ⟨gb, 1, none⟩ = some (.slice none 0 0)) :
    Calls Yba.prog 14 #[.pointer (some ⟨bb, 0, none⟩), .pointer (some ⟨w.heap.size + 2, 0, none⟩), .pointer (some ⟨gb, 0, none⟩), .pointer (some ⟨eb, 0, none⟩), .slice (some ⟨w.heap.size + 3, 0, none⟩) n n] w1 fun e w2 => ∃ i4 i5, e = .returned (.agg (inL I n mb i4 i5).toArray) ∧ InpZ w1 w2 i4 i5 ∧ (i4.oneCell' = true ∧ i5.oneCell' = true) ∧ Below w1.heap.size w1 w2 := by
  have hBX := hB.turn (hnf.below.block _ hB.lt)
  have hB1 := hBX.turn (hb1.block _ hBX.lt)
  have up : ∀ {b o : Nat} {v : Value}, w.cell? ⟨b, o, none⟩ = some v → X.cell? ⟨b, o, none⟩ = some v := fun h => (hnf.below.cell (World.block_lt_of_cell? w _ h)).trans h
  have up1 : ∀ {b o : Nat} {v : Value}, X.cell? ⟨b, o, none⟩ = some v → w1.cell? ⟨b, o, none⟩ = some v := fun h => (hb1.cell (World.block_lt_of_cell? X _ h)).trans h
  refine (groupInput_none bb (w.heap.size + 2) gb eb _ _ n n n n _ w1 hB1.b22 hB1.b18 (up1 (hnf.fcell 0)) (up1 (hnf.fcell 1)) hg1 (up1 (up e3))).mono ?_
  rintro e w2 ⟨rfl, hb2⟩
  exact ⟨.nilIface, .slice none 0 0, rfl, ⟨rfl, rfl⟩, ⟨rfl, rfl⟩, hb2⟩

theorem gi_pos (w : World) (bb I Lb n eb en gbA gcA pkA : Nat) (ae : Option Addr) (ce : Nat) (ids : Nat → ByteArray) (pos : Nat → Int) (emem : Nat → Nat) (hn : n ≤ 1024) (hen : en ≤ 1024) (hB : Bal w bb Lb) (e0 : w.cell? ⟨eb, 0, none⟩ = some (.slice ae en ce)) (e3 : w.cell? ⟨eb, 3, none⟩ = some (.slice (some ⟨gbA, 0, none⟩) 1 gcA)) (hG : Grp w gbA pkA) (hp : ∀ i, i < n → -1 ≤ pos i ∧ pos i < en)
    (mb xb : Nat) (mem : Nat → Nat) (X : World) (hnf : NF w X mb xb I n ids pos emem mem n n) (gb : Nat) (w1 : World) (hb1 : Below X.heap.size X w1) (hg0 : w1.cell? ⟨gb, 0, none⟩ = some (.int .u8 2)) (hg1 : w1.cell? ⟨gb, 1, none⟩ = some (.slice none 0 0)) :
    Calls Yba.prog 14 #[.pointer (some ⟨bb, 0, none⟩), .pointer (some ⟨w.heap.size + 2, 0, none⟩), .pointer (some ⟨gb, 0, none⟩), .pointer (some ⟨eb, 0, none⟩), .slice (some ⟨w.heap.size + 3, 0, none⟩) n n] w1 fun e w2 => ∃ i4 i5, e = .returned (.agg (inL I n mb i4 i5).toArray) ∧ InpP n pkA pos w1 w2 i4 i5 ∧ (i4.oneCell' = true ∧ i5.oneCell' = true) ∧ Below w1.heap.size w1 w2 := by
  have hBX := hB.turn (hnf.below.block _ hB.lt)
  have hB1 := hBX.turn (hb1.block _ hBX.lt)
  have up : ∀ {b o : Nat} {v : Value}, w.cell? ⟨b, o, none⟩ = some v → X.cell? ⟨b, o, none⟩ = some v := fun h => (hnf.below.cell (World.block_lt_of_cell? w _ h)).trans h
  have up1 : ∀ {b o : Nat} {v : Value}, X.cell? ⟨b, o, none⟩ = some v → w1.cell? ⟨b, o, none⟩ = some v := fun h => (hb1.cell (World.block_lt_of_cell? X _ h)).trans h
  refine (groupInput_full bb (w.heap.size + 2) gb eb (w.heap.size + 3) gbA gcA n en _ _ ae n n ce ⟨pkA, 0, none⟩ pos w1 hn hen hB1.b22 hB1.b18 (up1 (hnf.fcell 0)) (up1 (hnf.fcell 1)) hg0 hg1 (up1 (up e0)) (up1 (up e3)) (up1 (up hG.g0)) (up1 (up hG.g1)) (up1 (up hG.g2)) (fun i hi => up1 (hnf.xi.cell hi)) hp).mono ?_
  rintro e w2 ⟨ib, hib, rfl, hints, hb2⟩
  exact ⟨_, _, rfl, ⟨rfl, ib, hib, rfl, hints⟩, ⟨rfl, rfl⟩, hb2⟩

/-- The two arguments' strings. -/
def Strs (w : World) (a : Option Addr) (n : Nat) (ids : Nat → ByteArray) : Prop := ∀ i, i < n → ∃ x, a = some x ∧ w.cell? (x.add i) = some (.string (ids i))

theorem Strs.keep {w w' : World} {a : Option Addr} {n : Nat} {ids : Nat → ByteArray} (h : Strs w a n ids) (hb : Below w.heap.size w w') : Strs w' a n ids := fun i hi => by
  obtain ⟨x, hx, hc⟩ := h i hi
  exact ⟨x, hx, (hb.cell (World.block_lt_of_cell? w _ hc)).trans hc⟩

theorem insts_ids {w w' : World} {ids : Nat → ByteArray} {n : Nat} (h : Insts w w' ids n n) : ∀ i, i < n → w'.cell? ⟨w.heap.size, i * 4, none⟩ = some (.string (ids i)) := fun i hi => by
  obtain ⟨cur, r1, _, r3⟩ := h.row
  exact (cell_of_row _ _ (i * 4) _ _ _ r1).trans (r3 i hi)

theorem pos_bounds (aids ids : Nat → ByteArray) (na n : Nat) : ∀ i, i < n → -1 ≤ lastIn aids (ids i) na ∧ lastIn aids (ids i) na < na := fun i _ => by
  rcases lastIn_bounds aids (ids i) na with h | h <;> omega
end Go.Proofs.Ybulktog
