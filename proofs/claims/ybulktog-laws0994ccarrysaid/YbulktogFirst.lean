/-
  The first law's fleet: newFleet with no earlier fleet, by its contract at the first law's closure.
-/
import Derived.Test.YbulktogFin
import Derived.Test.YbulktogCloA
namespace Go.Proofs.Ybulktog
open Go.ChangeShapes Go.WideShapes Go.ChangeAt Go.RowKit

/-- A store into a block that was not there at the start. -/
theorem Kept.setNew {S : Nat → Prop} {w Y : World} (h : Kept S w Y) {a : Addr} (ha : w.heap.size ≤ a.block) (v : Value) : Kept S w (Y.setCell a v) :=
  ⟨h.os, h.tape, h.output, by rw [size_setCell]; exact h.size, fun k hk hs => (Below.heap_setCell _ _ _ _ (by omega)).trans (h.block k hk hs)⟩

theorem Grouped.keptS {X Y : World} {S : Nat → Prop} {GOut : World → Value → World → Prop} {COut : Value → Nat → World → World → Prop} {gb : Nat} {iv : Value} {pk : Nat} {w1 w2 w3 : World} (h : Grouped X Y S GOut COut gb iv pk w1 w2 w3) : Kept S X Y := by
  have l := h.low
  have s1 := h.b1.size
  have s2 := h.b2.size
  have s3 := h.k3.size
  refine ⟨h.k4.os.trans (h.k3.os.trans (h.b2.os.trans h.b1.os)), h.k4.tape.trans (h.k3.tape.trans (h.b2.tape.trans h.b1.tape)), h.k4.output.trans (h.k3.output.trans (h.b2.output.trans h.b1.output)), by have := h.k4.size; omega, fun k hk hs => ?_⟩
  rw [h.k4.block k (by omega) (by omega), h.k3.block k (by omega) hs, h.b2.block k (by omega), h.b1.block k hk]

/-- A block of w3 that is not the group's own reads so in the end. -/
theorem Grouped.late {X Y : World} {S : Nat → Prop} {GOut : World → Value → World → Prop} {COut : Value → Nat → World → World → Prop} {gb : Nat} {iv : Value} {pk : Nat} {w1 w2 w3 : World} (h : Grouped X Y S GOut COut gb iv pk w1 w2 w3) {b : Nat} (hb : b < w3.heap.size) (hne : b ≠ gb) : Y.heap[b]? = w3.heap[b]? := h.k4.block b hb hne

/-- What groupInput hands the first law's closure. -/
def inA (I n mb : Nat) : Value := .agg #[.slice (some ⟨I, 0, none⟩) n n, .slice (some ⟨mb, 0, none⟩) n n, .pointer none, .pointer none, .nilIface, .slice none 0 0]

/-- What the first law's closure leaves: one input in the log, one picker among those made. -/
structure CloA (Lb Db I n mb : Nat) (pk : Nat) (w2 w3 : World) (lg lc dg dc : Nat) : Prop where
  L : w3.heap[Lb]? = some (.cells #[.slice (some ⟨lg, 0, none⟩) 1 lc] 25 (0, 0))
  l : w3.ownsRow w2.heap.size 35 6 (.slice (some ⟨lg, 0, none⟩) 1 lc) 1 [.slice (some ⟨I, 0, none⟩) n n, .slice (some ⟨mb, 0, none⟩) n n, .pointer none, .pointer none, .nilIface, .slice none 0 0]
  D : w3.heap[Db]? = some (.cells #[.slice (some ⟨dg, 0, none⟩) 1 dc] 26 (0, 0))
  d : w3.ownsRow w2.heap.size 32 1 (.slice (some ⟨dg, 0, none⟩) 1 dc) 1 [.iface 36 (.pointer (some ⟨pk, 0, none⟩))]

/-- The end of newFleet for a list that is not empty. -/
structure EndA (w : World) (Lb Db I n mb gb pk lg lc dg dc : Nat) : Prop where
  g0 : w.cell? ⟨gb, 0, none⟩ = some (.int .u8 2)
  g1 : w.cell? ⟨gb, 1, none⟩ = some (.slice none 0 0)
  g2 : w.cell? ⟨gb, 2, none⟩ = some (.iface 36 (.pointer (some ⟨pk, 0, none⟩)))
  L : w.cell? ⟨Lb, 0, none⟩ = some (.slice (some ⟨lg, 0, none⟩) 1 lc)
  l0 : w.cell? ⟨lg, 0, none⟩ = some (.slice (some ⟨I, 0, none⟩) n n)
  l1 : w.cell? ⟨lg, 1, none⟩ = some (.slice (some ⟨mb, 0, none⟩) n n)
  l2 : w.cell? ⟨lg, 2, none⟩ = some (.pointer none)
  l3 : w.cell? ⟨lg, 3, none⟩ = some (.pointer none)
  l4 : w.cell? ⟨lg, 4, none⟩ = some .nilIface
  l5 : w.cell? ⟨lg, 5, none⟩ = some (.slice none 0 0)
  D : w.cell? ⟨Db, 0, none⟩ = some (.slice (some ⟨dg, 0, none⟩) 1 dc)
  d0 : w.cell? ⟨dg, 0, none⟩ = some (.iface 36 (.pointer (some ⟨pk, 0, none⟩)))

/-- An empty list, or not. -/
def OrA (n : Nat) (gv : Value) (A B : Prop) : Prop := (n = 0 ∧ gv = .slice none 0 0 ∧ A) ∨ (0 < n ∧ B)

theorem fleetA (w : World) (bb I Lb Db n : Nat) (zn : ByteArray) (ids : Nat → ByteArray) (hn : n ≤ 1024)
    (b16 : w.cell? ⟨bb, 16, none⟩ = some (.func (.func 6) #[] #[.pointer (some ⟨Lb, 0, none⟩), .pointer (some ⟨Db, 0, none⟩)])) (b18 : w.cell? ⟨bb, 18, none⟩ = some (.pointer none)) (b22 : w.cell? ⟨bb, 22, none⟩ = some (.pointer none)) (b25 : w.cell? ⟨bb, 25, none⟩ = some (.string ⟨#[]⟩)) (b26 : w.cell? ⟨bb, 26, none⟩ = some (.string zn))
    (hid : ∀ i, i < n → w.cell? ⟨I, i * 4, none⟩ = some (.string (ids i))) (hL : w.heap[Lb]? = some (.cells #[.slice none 0 0] 25 (0, 0))) (hD : w.heap[Db]? = some (.cells #[.slice none 0 0] 26 (0, 0))) :
    Calls Yba.prog 7 #[.pointer (some ⟨bb, 0, none⟩), .slice (some ⟨I, 0, none⟩) n n, .pointer none] w fun e w' => e = .returned (.pointer (some ⟨w.heap.size + 2, 0, none⟩)) ∧
      ∃ mb xb mem gv, Fleet w' w.heap.size mb xb I n gv ids (fun _ => -1) (fun _ => 0) mem ∧ Kept (fun k => k = Lb ∨ k = Db) w w' ∧
        OrA n gv (w'.cell? ⟨Lb, 0, none⟩ = some (.slice none 0 0)) (∃ gb gc pk lg lc dg dc, gv = .slice (some ⟨gb, 0, none⟩) 1 gc ∧ EndA w' Lb Db I n mb gb pk lg lc dg dc) := by
  have lL := lt_of_block hL
  have lD := lt_of_block hD
  refine (newFleet_nil bb I n ids w hn b22 hid (fun mb _ _ X gb _ Y => ∃ iv pk w1 w2 w3, Grouped X Y (fun k => k = Lb ∨ k = Db) (fun _ iv _ => iv = inA I n mb) (fun _ pk w2 w3 => ∃ lg lc dg dc, CloA Lb Db I n mb pk w2 w3 lg lc dg dc) gb iv pk w1 w2 w3) ?_).mono ?_
  · intro mb xb mem X hn0 hnf
    have hz := hnf.size
    have up : ∀ {o : Nat} {v : Value}, w.cell? ⟨bb, o, none⟩ = some v → X.cell? ⟨bb, o, none⟩ = some v := fun h => (hnf.below.cell (World.block_lt_of_cell? w _ h)).trans h
    refine (groupsOf_6 bb (w.heap.size + 2) n n Lb Db I zn (.pointer none) _ X hn0 hn (up b25) (up b26) (up b16) (hnf.fcell 0) (fun _ iv _ => iv = inA I n mb) (fun _ pk w2 w3 => ∃ lg lc dg dc, CloA Lb Db I n mb pk w2 w3 lg lc dg dc) (fun k => k = Lb ∨ k = Db) (fun k hk => by omega) ?_ ?_).mono ?_
    · intro gb w1 hb1 _ hg1
      have up1 : ∀ {b o : Nat} {v : Value}, X.cell? ⟨b, o, none⟩ = some v → w1.cell? ⟨b, o, none⟩ = some v := fun h => (hb1.cell (World.block_lt_of_cell? X _ h)).trans h
      refine (groupInput_nil bb (w.heap.size + 2) gb _ _ n n n n _ w1 (up1 (up b22)) (up1 (up b18)) (up1 (hnf.fcell 0)) (up1 (hnf.fcell 1)) hg1).mono ?_
      rintro e w2 ⟨rfl, hb2⟩
      exact ⟨_, rfl, rfl, hb2⟩
    · rintro iv w1 w2 hb2 rfl
      refine (clo6 (.slice (some ⟨I, 0, none⟩) n n) (.slice (some ⟨mb, 0, none⟩) n n) (.pointer none) (.pointer none) .nilIface (.slice none 0 0) ⟨rfl, rfl, rfl, rfl, rfl, rfl⟩ Lb Db w2 ?_ ?_).mono ?_
      · rw [hb2.block _ (by omega), hnf.below.block _ lL]; exact hL
      · rw [hb2.block _ (by omega), hnf.below.block _ lD]; exact hD
      · rintro e w3 ⟨pk, lg, lc, dg, dc, rfl, _, c1, c2, c3, c4, hk⟩
        exact ⟨pk, rfl, ⟨lg, lc, dg, dc, c1, c2, c3, c4⟩, hk⟩
    · rintro e Y ⟨gb, gc, iv, pk, w1, w2, w3, rfl, hG⟩
      exact ⟨gb, gc, rfl, ⟨iv, pk, w1, w2, w3, hG⟩, hG.keptS.mono (fun k _ hk => by omega)⟩
  · rintro e w' ⟨rfl, mb, xb, mem, X, hnf, hend⟩
    have hz := hnf.size
    refine ⟨rfl, mb, xb, mem, ?_⟩
    rcases hend with ⟨rfl, rfl⟩ | ⟨hn0, gb, gc, Y, ⟨iv, pk, w1, w2, w3, hG⟩, hK, rfl⟩
    · refine ⟨_, fleet_of0 hnf, Kept.ofBelow hnf.below (fun k hk hk' => by omega), .inl ⟨rfl, rfl, ?_⟩⟩
      exact cell_of_one ((hnf.below.block _ lL).trans hL)
    · obtain ⟨lg, lc, dg, dc, hC⟩ := hG.cout
      have hlow := hG.low
      have hlt1 := hG.lt
      have s1 := hG.b1.size
      have s2 := hG.b2.size
      have s3 := hG.k3.size
      have ll := hC.l.lt lg rfl
      have ld := hC.d.lt dg rfl
      have late : ∀ {b : Nat}, b < w3.heap.size → b ≠ gb → b ≠ w.heap.size + 2 → (Y.setCell ⟨w.heap.size + 2, 3, none⟩ (.slice (some ⟨gb, 0, none⟩) 1 gc)).heap[b]? = w3.heap[b]? := fun h1 h2 h3 => (Below.heap_setCell _ _ _ _ h3).trans (hG.late h1 h2)
      have lcell : ∀ {b o : Nat} {v : Value}, w3.cell? ⟨b, o, none⟩ = some v → b ≠ gb → b ≠ w.heap.size + 2 → (Y.setCell ⟨w.heap.size + 2, 3, none⟩ (.slice (some ⟨gb, 0, none⟩) 1 gc)).cell? ⟨b, o, none⟩ = some v := fun h h2 h3 => (World.cell?_of_block (w := w3) (late (World.block_lt_of_cell? w3 _ h) h2 h3)).trans h
      have gcell : ∀ {o : Nat} {v : Value}, Y.cell? ⟨gb, o, none⟩ = some v → (Y.setCell ⟨w.heap.size + 2, 3, none⟩ (.slice (some ⟨gb, 0, none⟩) 1 gc)).cell? ⟨gb, o, none⟩ = some v := fun h => (World.cell?_of_block (w := Y) (Below.heap_setCell _ _ _ _ (show gb ≠ w.heap.size + 2 by omega))).trans h
      refine ⟨_, fleet_of hnf hK _, ((Kept.ofBelow hnf.below (fun k hk hk' => by omega)).trans hG.keptS).setNew (a := ⟨w.heap.size + 2, 3, none⟩) (by simp) _, .inr ⟨hn0, gb, gc, pk, lg, lc, dg, dc, rfl, ?_⟩⟩
      refine ⟨gcell hG.c0, gcell hG.c1, gcell hG.c2, lcell (cell_of_one hC.L) (by omega) (by omega), lcell (hC.l.cellAt 0 (by omega)) (by omega) (by omega), lcell (hC.l.cellAt 1 (by omega)) (by omega) (by omega), lcell (hC.l.cellAt 2 (by omega)) (by omega) (by omega), lcell (hC.l.cellAt 3 (by omega)) (by omega) (by omega), lcell (hC.l.cellAt 4 (by omega)) (by omega) (by omega), lcell (hC.l.cellAt 5 (by omega)) (by omega) (by omega), lcell (cell_of_one hC.D) (by omega) (by omega), lcell (hC.d.cellAt 0 (by omega)) (by omega) (by omega)⟩
end Go.Proofs.Ybulktog
