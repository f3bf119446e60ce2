/-
  The second law's two fleets: newFleet by its contracts at the second law's closure.
-/
import Derived.Test.YbulktogFirst
namespace Go.Proofs.Ybulktog
open Go.ChangeShapes Go.WideShapes Go.ChangeAt Go.RowKit

theorem own_same {w w' : World} {B m s : Nat} {e : TypeId} {v : Value} {xs : List Value} (h : w.ownsRow B e s v m xs) (hk : ∀ r, v.ownBlock = some r → w'.heap[r]? = w.heap[r]?) : w'.ownsRow B e s v m xs := by
  refine ⟨h.1, ?_⟩
  rcases h.2 with hn | ⟨g, cap, cur, rfl, hb, hg, rest⟩
  · exact .inl hn
  · exact .inr ⟨g, cap, cur, rfl, hb, (hk g rfl).trans hg, rest⟩

/-- The cells of one input in the log. -/
def inL (I n mb : Nat) (i4 i5 : Value) : List Value := [.slice (some ⟨I, 0, none⟩) n n, .slice (some ⟨mb, 0, none⟩) n n, .pointer none, .pointer none, i4, i5]

/-- What the balancer's cells say: no rotation, no source of chance, no caller's place, the second law's closure over the log. -/
structure Bal (w : World) (bb Lb : Nat) : Prop where
  b16 : w.cell? ⟨bb, 16, none⟩ = some (.func (.func 9) #[] #[.pointer (some ⟨Lb, 0, none⟩)])
  b18 : w.cell? ⟨bb, 18, none⟩ = some (.pointer none)
  b22 : w.cell? ⟨bb, 22, none⟩ = some (.pointer none)
  b25 : w.cell? ⟨bb, 25, none⟩ = some (.string ⟨#[]⟩)
  b26 : w.cell? ⟨bb, 26, none⟩ = some (.string ⟨#[]⟩)

theorem Bal.turn {w w' : World} {bb Lb : Nat} (h : Bal w bb Lb) (e : w'.heap[bb]? = w.heap[bb]?) : Bal w' bb Lb :=
  ⟨(World.cell?_of_block (a := ⟨bb, 16, none⟩) e).trans h.b16, (World.cell?_of_block (a := ⟨bb, 18, none⟩) e).trans h.b18, (World.cell?_of_block (a := ⟨bb, 22, none⟩) e).trans h.b22, (World.cell?_of_block (a := ⟨bb, 25, none⟩) e).trans h.b25, (World.cell?_of_block (a := ⟨bb, 26, none⟩) e).trans h.b26⟩

theorem Bal.lt {w : World} {bb Lb : Nat} (h : Bal w bb Lb) : bb < w.heap.size := World.block_lt_of_cell? w _ h.b16

/-- The group's row. -/
structure Grp (w : World) (gb pk : Nat) : Prop where
  g0 : w.cell? ⟨gb, 0, none⟩ = some (.int .u8 2)
  g1 : w.cell? ⟨gb, 1, none⟩ = some (.slice none 0 0)
  g2 : w.cell? ⟨gb, 2, none⟩ = some (.iface 36 (.pointer (some ⟨pk, 0, none⟩)))

theorem Grp.turn {w w' : World} {gb pk : Nat} (h : Grp w gb pk) (e : w'.heap[gb]? = w.heap[gb]?) : Grp w' gb pk :=
  ⟨(World.cell?_of_block (a := ⟨gb, 0, none⟩) e).trans h.g0, (World.cell?_of_block (a := ⟨gb, 1, none⟩) e).trans h.g1, (World.cell?_of_block (a := ⟨gb, 2, none⟩) e).trans h.g2⟩

/-- The end of the first newFleet for a list that is not empty: the log's row lies behind all that the fleet holds (from block Z on). -/
structure EndB1 (w : World) (N Lb I n mb gb pk Z : Nat) (mem : Nat → Nat) (v : Value) : Prop where
  grp : Grp w gb pk
  glow : N ≤ gb
  gz : gb < Z
  nz : N + 4 ≤ Z
  mz : ∀ i, i < n → mem i < Z
  L : w.heap[Lb]? = some (.cells #[v] 25 (0, 0))
  l : w.ownsRow Z 35 6 v 1 (inL I n mb .nilIface (.slice none 0 0))

theorem fleetB1 (w : World) (bb I Lb n : Nat) (ids : Nat → ByteArray) (hn : n ≤ 1024) (hB : Bal w bb Lb)
    (hid : ∀ i, i < n → w.cell? ⟨I, i * 4, none⟩ = some (.string (ids i))) (hL : w.heap[Lb]? = some (.cells #[.slice none 0 0] 25 (0, 0))) :
    Calls Yba.prog 7 #[.pointer (some ⟨bb, 0, none⟩), .slice (some ⟨I, 0, none⟩) n n, .pointer none] w fun e w' => e = .returned (.pointer (some ⟨w.heap.size + 2, 0, none⟩)) ∧
      ∃ mb xb mem gv, Fleet w' w.heap.size mb xb I n gv ids (fun _ => -1) (fun _ => 0) mem ∧ Kept (fun k => k = Lb) w w' ∧
        OrA n gv (w'.heap[Lb]? = some (.cells #[.slice none 0 0] 25 (0, 0))) (∃ gb gc pk Z v, gv = .slice (some ⟨gb, 0, none⟩) 1 gc ∧ EndB1 w' w.heap.size Lb I n mb gb pk Z mem v) := by
  have lL := lt_of_block hL
  refine (newFleet_nil bb I n ids w hn hB.b22 hid (fun mb _ _ X gb _ Y => ∃ iv pk w1 w2 w3, Grouped X Y (fun k => k = Lb) (fun _ iv _ => iv = .agg (inL I n mb .nilIface (.slice none 0 0)).toArray) (fun _ _ w2 w3 => ∃ v, w3.heap[Lb]? = some (.cells #[v] 25 (0, 0)) ∧ w3.ownsRow w2.heap.size 35 6 v 1 (inL I n mb .nilIface (.slice none 0 0))) gb iv pk w1 w2 w3) ?_).mono ?_
  · intro mb xb mem X hn0 hnf
    have hz := hnf.size
    have hBX := hB.turn (hnf.below.block _ hB.lt)
    refine (groupsOf_9 bb (w.heap.size + 2) n n Lb I ⟨#[]⟩ (.pointer none) _ X hn0 hn hBX.b25 hBX.b26 hBX.b16 (hnf.fcell 0) (fun _ iv _ => iv = .agg (inL I n mb .nilIface (.slice none 0 0)).toArray) (fun _ _ w2 w3 => ∃ v, w3.heap[Lb]? = some (.cells #[v] 25 (0, 0)) ∧ w3.ownsRow w2.heap.size 35 6 v 1 (inL I n mb .nilIface (.slice none 0 0))) (fun k => k = Lb) (fun k hk => by omega) ?_ ?_).mono ?_
    · intro gb w1 hb1 _ hg1
      have hB1 := hBX.turn (hb1.block _ hBX.lt)
      have up1 : ∀ {b o : Nat} {v : Value}, X.cell? ⟨b, o, none⟩ = some v → w1.cell? ⟨b, o, none⟩ = some v := fun h => (hb1.cell (World.block_lt_of_cell? X _ h)).trans h
      refine (groupInput_nil bb (w.heap.size + 2) gb _ _ n n n n _ w1 hB1.b22 hB1.b18 (up1 (hnf.fcell 0)) (up1 (hnf.fcell 1)) hg1).mono ?_
      rintro e w2 ⟨rfl, hb2⟩
      exact ⟨_, rfl, rfl, hb2⟩
    · rintro iv w1 w2 hb2 rfl
      have hL2 : w2.heap[Lb]? = some (.cells #[.slice none 0 0] 25 (0, 0)) := by rw [hb2.block _ (by omega), hnf.below.block _ lL]; exact hL
      refine (clo9 (.slice (some ⟨I, 0, none⟩) n n) (.slice (some ⟨mb, 0, none⟩) n n) (.pointer none) (.pointer none) .nilIface (.slice none 0 0) ⟨rfl, rfl, rfl, rfl, rfl, rfl⟩ Lb w2.heap.size 0 (.slice none 0 0) [] w2 (by omega) (Nat.le_refl _) hL2 (World.ownsRow_nil _ _ _ _)).mono ?_
      rintro e w3 ⟨v', pk, rfl, _, _, c1, c2, hk⟩
      exact ⟨pk, rfl, ⟨v', c1, c2⟩, hk.mono (fun k _ h => h.elim id (fun h => by cases h))⟩
    · rintro e Y ⟨gb, gc, iv, pk, w1, w2, w3, rfl, hG⟩
      exact ⟨gb, gc, rfl, ⟨iv, pk, w1, w2, w3, hG⟩, hG.keptS.mono (fun k _ hk => by omega)⟩
  · rintro e w' ⟨rfl, mb, xb, mem, X, hnf, hend⟩
    have hz := hnf.size
    refine ⟨rfl, mb, xb, mem, ?_⟩
    rcases hend with ⟨rfl, rfl⟩ | ⟨hn0, gb, gc, Y, ⟨iv, pk, w1, w2, w3, hG⟩, hK, rfl⟩
    · exact ⟨_, fleet_of0 hnf, Kept.ofBelow hnf.below (fun k hk hk' => by omega), .inl ⟨rfl, rfl, (hnf.below.block _ lL).trans hL⟩⟩
    · obtain ⟨v, hv1, hv2⟩ := hG.cout
      have hlow := hG.low
      have hlt1 := hG.lt
      have s1 := hG.b1.size
      have s2 := hG.b2.size
      have s3 := hG.k3.size
      have late : ∀ {b : Nat}, b < w3.heap.size → b ≠ gb → b ≠ w.heap.size + 2 → (Y.setCell ⟨w.heap.size + 2, 3, none⟩ (.slice (some ⟨gb, 0, none⟩) 1 gc)).heap[b]? = w3.heap[b]? := fun h1 h2 h3 => (Below.heap_setCell _ _ _ _ h3).trans (hG.late h1 h2)
      refine ⟨_, fleet_of hnf hK _, ((Kept.ofBelow hnf.below (fun k hk hk' => by omega)).trans hG.keptS).setNew (a := ⟨w.heap.size + 2, 3, none⟩) (by simp) _, .inr ⟨hn0, gb, gc, pk, w2.heap.size, v, rfl, ?_⟩⟩
      refine ⟨Grp.turn ⟨hG.c0, hG.c1, hG.c2⟩ (Below.heap_setCell _ _ _ _ (show gb ≠ w.heap.size + 2 by omega)), by omega, by omega, by omega, fun i hi => ?_, (late (lt_of_block hv1) (by omega) (by omega)).trans hv1, ?_⟩
      · have := lt_of_block (hnf.new i hi (by simp)).2
        omega
      · exact own_same hv2 (fun r hr => late (hv2.lt r hr).2 (by have := (hv2.lt r hr).1; omega) (by have := (hv2.lt r hr).1; omega))

theorem inL_head (xs : List Value) (hxs : xs[0]? ≠ some (.int .u8 2)) (I n mb : Nat) (i4 i5 : Value) : (xs ++ inL I n mb i4 i5)[0]? ≠ some (.int .u8 2) := by
  cases xs with
  | nil => simp [inL]
  | cons x xs => simpa using hxs

/-- The end of the second newFleet for a list that is not empty. -/
structure EndB2 (w w' : World) (Lb I n mb B m : Nat) (xs : List Value) (INP : World → World → Value → Value → Prop) (v' i4 i5 : Value) (w1 w2 : World) : Prop where
  L : w'.heap[Lb]? = some (.cells #[v'] 25 (0, 0))
  l : w'.ownsRow B 35 6 v' (m + 1) (xs ++ inL I n mb i4 i5)
  inp : INP w1 w2 i4 i5
  low : w.heap.size + 4 ≤ w1.heap.size
  kept : ∀ b, w1.heap.size ≤ b → b < w2.heap.size → w'.heap[b]? = w2.heap[b]?

theorem fleetB2 (w : World) (bb I Lb n eb emb exb en B m : Nat) (ids eids : Nat → ByteArray) (emem : Nat → Nat) (v : Value) (xs : List Value) (hn : n ≤ 1024) (hm : m ≤ 10) (hBw : B ≤ w.heap.size) (hB : Bal w bb Lb)
    (hid : ∀ i, i < n → w.cell? ⟨I, i * 4, none⟩ = some (.string (ids i))) (e1 : w.cell? ⟨eb, 1, none⟩ = some (.slice (some ⟨emb, 0, none⟩) en en)) (e2 : w.cell? ⟨eb, 2, none⟩ = some (.map (some exb))) (hem : ∀ j, j < en → w.cell? ⟨emb, j, none⟩ = some (.pointer (some ⟨emem j, 0, none⟩)))
    (hex : ∃ es clock, w.heap[exb]? = some (.map es clock) ∧ Ents es.toList (tab eids en)) (hL : w.heap[Lb]? = some (.cells #[v] 25 (0, 0))) (hown : w.ownsRow B 35 6 v m xs) (hxs : xs[0]? ≠ some (.int .u8 2))
    (INP : World → World → Value → Value → Prop)
    (hgiE : ∀ mb xb mem X, NF w X mb xb I n ids (fun i => lastIn eids (ids i) en) emem mem n n → ∀ (gb : Nat) (w1 : World), Below X.heap.size X w1 → w1.cell? ⟨gb, 0, none⟩ = some (.int .u8 2) → w1.cell? ⟨gb, 1, none⟩ = some (.slice none 0 0) →
      Calls Yba.prog 14 #[.pointer (some ⟨bb, 0, none⟩), .pointer (some ⟨w.heap.size + 2, 0, none⟩), .pointer (some ⟨gb, 0, none⟩), .pointer (some ⟨eb, 0, none⟩), .slice (some ⟨w.heap.size + 3, 0, none⟩) n n] w1 fun e w2 => ∃ i4 i5, e = .returned (.agg (inL I n mb i4 i5).toArray) ∧ INP w1 w2 i4 i5 ∧ (i4.oneCell' = true ∧ i5.oneCell' = true) ∧ Below w1.heap.size w1 w2) :
    Calls Yba.prog 7 #[.pointer (some ⟨bb, 0, none⟩), .slice (some ⟨I, 0, none⟩) n n, .pointer (some ⟨eb, 0, none⟩)] w fun e w' => e = .returned (.pointer (some ⟨w.heap.size + 2, 0, none⟩)) ∧
      ∃ mb xb mem gv, Fleet w' w.heap.size mb xb I n gv ids (fun i => lastIn eids (ids i) en) emem mem ∧ Kept (fun k => k = Lb ∨ v.ownBlock = some k) w w' ∧
        OrA n gv (w'.heap[Lb]? = some (.cells #[v] 25 (0, 0)) ∧ w'.ownsRow B 35 6 v m xs) (∃ gb gc v' i4 i5 w1 w2, gv = .slice (some ⟨gb, 0, none⟩) 1 gc ∧ EndB2 w w' Lb I n mb B m xs INP v' i4 i5 w1 w2) := by
  have lL := lt_of_block hL
  have lS : ∀ k, (k = Lb ∨ v.ownBlock = some k) → k < w.heap.size := fun k hk => by
    rcases hk with rfl | hk
    · exact lL
    · exact (hown.lt k hk).2
  refine (newFleet_some bb I n eb emb exb en ids eids emem w hn hB.b22 hid e1 e2 hem hex (fun mb _ _ X gb _ Y => ∃ iv pk w1 w2 w3, Grouped X Y (fun k => k = Lb ∨ v.ownBlock = some k) (fun w1 iv w2 => ∃ i4 i5, iv = .agg (inL I n mb i4 i5).toArray ∧ INP w1 w2 i4 i5 ∧ i4.oneCell' = true ∧ i5.oneCell' = true) (fun iv _ _ w3 => ∃ v' i4 i5, iv = .agg (inL I n mb i4 i5).toArray ∧ w3.heap[Lb]? = some (.cells #[v'] 25 (0, 0)) ∧ w3.ownsRow B 35 6 v' (m + 1) (xs ++ inL I n mb i4 i5)) gb iv pk w1 w2 w3) ?_).mono ?_
  · intro mb xb mem X hn0 hnf
    have hz := hnf.size
    have hBX := hB.turn (hnf.below.block _ hB.lt)
    refine (groupsOf_9 bb (w.heap.size + 2) n n Lb I ⟨#[]⟩ (.pointer (some ⟨eb, 0, none⟩)) _ X hn0 hn hBX.b25 hBX.b26 hBX.b16 (hnf.fcell 0) (fun w1 iv w2 => ∃ i4 i5, iv = .agg (inL I n mb i4 i5).toArray ∧ INP w1 w2 i4 i5 ∧ i4.oneCell' = true ∧ i5.oneCell' = true) (fun iv _ _ w3 => ∃ v' i4 i5, iv = .agg (inL I n mb i4 i5).toArray ∧ w3.heap[Lb]? = some (.cells #[v'] 25 (0, 0)) ∧ w3.ownsRow B 35 6 v' (m + 1) (xs ++ inL I n mb i4 i5)) (fun k => k = Lb ∨ v.ownBlock = some k) (fun k hk => by have := lS k hk; omega) ?_ ?_).mono ?_
    · intro gb w1 hb1 hg0 hg1
      refine (hgiE mb xb mem X hnf gb w1 hb1 hg0 hg1).mono ?_
      rintro e w2 ⟨i4, i5, rfl, hi, ho, hb2⟩
      exact ⟨_, rfl, ⟨i4, i5, rfl, hi, ho⟩, hb2⟩
    · rintro iv w1 w2 hb2 ⟨i4, i5, rfl, _, ho4, ho5⟩
      have old : ∀ b, b < w.heap.size → w2.heap[b]? = w.heap[b]? := fun b hb => by rw [hb2.block _ (by omega), hnf.below.block _ hb]
      refine (clo9 (.slice (some ⟨I, 0, none⟩) n n) (.slice (some ⟨mb, 0, none⟩) n n) (.pointer none) (.pointer none) i4 i5 ⟨rfl, rfl, rfl, rfl, ho4, ho5⟩ Lb B m v xs w2 hm (by have := hb2.size; omega) ((old Lb lL).trans hL) (own_same hown (fun r hr => old r (hown.lt r hr).2))).mono ?_
      rintro e w3 ⟨v', pk, rfl, _, _, c1, c2, hk⟩
      exact ⟨pk, rfl, ⟨v', i4, i5, rfl, c1, c2⟩, hk⟩
    · rintro e Y ⟨gb, gc, iv, pk, w1, w2, w3, rfl, hG⟩
      exact ⟨gb, gc, rfl, ⟨iv, pk, w1, w2, w3, hG⟩, hG.keptS.mono (fun k _ hk => lS k hk)⟩
  · rintro e w' ⟨rfl, mb, xb, mem, X, hnf, hend⟩
    have hz := hnf.size
    refine ⟨rfl, mb, xb, mem, ?_⟩
    rcases hend with ⟨rfl, rfl⟩ | ⟨hn0, gb, gc, Y, ⟨iv, pk, w1, w2, w3, hG⟩, hK, rfl⟩
    · exact ⟨_, fleet_of0 hnf, Kept.ofBelow hnf.below (fun k hk hk' => by omega), .inl ⟨rfl, rfl, (hnf.below.block _ lL).trans hL, own_same hown (fun r hr => hnf.below.block _ (hown.lt r hr).2)⟩⟩
    · obtain ⟨i4, i5, hiv, hi, _⟩ := hG.gout
      obtain ⟨v', j4, j5, hjv, hv1, hv2⟩ := hG.cout
      have hij : i4 = j4 ∧ i5 = j5 := by
        rw [hiv] at hjv
        simpa [inL] using hjv
      obtain ⟨rfl, rfl⟩ := hij
      have hlow := hG.low
      have hlt1 := hG.lt
      have s1 := hG.b1.size
      have s2 := hG.b2.size
      have s3 := hG.k3.size
      have late : ∀ {b : Nat}, b < w3.heap.size → b ≠ gb → b ≠ w.heap.size + 2 → (Y.setCell ⟨w.heap.size + 2, 3, none⟩ (.slice (some ⟨gb, 0, none⟩) 1 gc)).heap[b]? = w3.heap[b]? := fun h1 h2 h3 => (Below.heap_setCell _ _ _ _ h3).trans (hG.late h1 h2)
      refine ⟨_, fleet_of hnf hK _, ((Kept.ofBelow hnf.below (fun k hk hk' => by omega)).trans hG.keptS).setNew (a := ⟨w.heap.size + 2, 3, none⟩) (by simp) _, .inr ⟨hn0, gb, gc, v', i4, i5, w1, w2, rfl, ?_⟩⟩
      refine ⟨(late (lt_of_block hv1) (by omega) (by omega)).trans hv1, own_same hv2 (fun r hr => late (hv2.lt r hr).2 (fun e => ?_) (fun e => ?_)), hi, by omega, fun b h1 h2 => ?_⟩
      · obtain ⟨g, cp, hsh⟩ := own_shape hv2 (by omega)
        subst hsh
        simp only [Value.ownBlock, Option.some.injEq] at hr
        have hc := hv2.cellAt 0 (by omega)
        rw [hr, e, hG.z0] at hc
        exact inL_head xs hxs I n mb i4 i5 hc.symm
      · obtain ⟨g, cp, hsh⟩ := own_shape hv2 (by omega)
        rcases hv2.2 with ⟨h0, _⟩ | ⟨g', cap', cur, h', _, hg, _⟩
        · rw [hsh] at h0; cases h0
        · subst h'
          simp only [Value.ownBlock, Option.some.injEq] at hr
          have hf3 : w3.heap[w.heap.size + 2]? = X.heap[w.heap.size + 2]? := by
            rw [hG.k3.block _ (by omega) (fun h => by have := lS _ h; omega), hG.b2.block _ (by omega), hG.b1.block _ (by omega)]
          rw [hr, e, hf3, hnf.fleet] at hg
          simp at hg
      · rw [late (by omega) (by omega) (by omega)]
        exact hG.k3.block b h2 (fun h => by have := lS _ h; omega)
end Go.Proofs.Ybulktog
