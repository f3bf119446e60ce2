/-
  What the blocks hold while LawS0990CPicks runs: lemmas outside the walk.
-/
import Derived.Test.YbulktmcPtrMap
import Derived.WalkKit
namespace Go.Proofs.Ybulktmc.PtrMap
open Go.RowKit

/-- The cells of the literal's type set; of the literal. -/
def setC (B : Nat) : Array Value := #[.pointer none, .pointer none, .pointer (some ⟨B, 0, none⟩), .pointer none, .pointer none, .pointer none, .pointer none, .pointer none, .pointer none, .pointer none, .bool false]
def litC (B : Nat) : Array Value := #[.pointer (some ⟨B + 2, 0, none⟩), .pointer none, .map none, .slice none 0 0, .slice none 0 0]

/-- The blocks that the head of the function lays. -/
structure Base (w wr : World) : Prop where
  below : Below w.heap.size w wr
  size : w.heap.size + 4 ≤ wr.heap.size
  set : wr.heap[w.heap.size + 2]? = some (.cells (setC w.heap.size) 59 (0, 0))
  lit : wr.heap[w.heap.size + 3]? = some (.cells (litC w.heap.size) 63 (0, 0))

theorem Base.turn {w a b : World} (h : Base w a) (hb : Below (w.heap.size + 4) a b) : Base w b :=
  ⟨h.below.trans (hb.mono (by omega)), Nat.le_trans h.size hb.size, (hb.block _ (by omega)).trans h.set, (hb.block _ (by omega)).trans h.lit⟩

/-- The cells that 'methodSet' reads of the literal and its set. -/
theorem Base.cells {w wr : World} (h : Base w wr) : wr.cell? ⟨w.heap.size + 3, 0, none⟩ = some (.pointer (some ⟨w.heap.size + 2, 0, none⟩)) ∧ wr.cell? ⟨w.heap.size + 2, 0, none⟩ = some (.pointer none) ∧ wr.cell? ⟨w.heap.size + 2, 1, none⟩ = some (.pointer none) ∧
    wr.cell? ⟨w.heap.size + 2, 2, none⟩ = some (.pointer (some ⟨w.heap.size, 0, none⟩)) :=
  ⟨cell_of_row _ _ 0 _ _ _ h.lit, cell_of_row _ _ 0 _ _ _ h.set, cell_of_row _ _ 1 _ _ _ h.set, cell_of_row _ _ 2 _ _ _ h.set⟩

theorem Base.alloc {w wr : World} (h : Base w wr) (o : Obj) : Base w (wr.alloc o) := h.turn ((Below.refl _ _).alloc h.size o)

/-- The first loop: i type parameters are made; block R is the row 'params'. -/
structure Params (w wr : World) (has : Bool) (R n i : Nat) : Prop where
  base : Base w wr
  low : w.heap.size + 4 ≤ R
  low' : has = true → w.heap.size + 5 ≤ R
  map : has = true → wr.heap[w.heap.size + 4]? = some (.map #[] 0)
  size : wr.heap.size = R + 1 + i
  row : ∃ cur, wr.heap[R]? = some (.cells cur 66 (0, 0)) ∧ cur.size = n ∧ ∀ j, j < i → cur[j]? = some (ptr (R + 1 + j))
  boxes : ∀ j, j < i → Row wr (R + 1 + j)

theorem params_cell {w wr : World} {has : Bool} {R n i : Nat} (h : Params w wr has R n i) (hi : i < n) : ∃ v, ∀ O : Obj, (wr.alloc O).cell? ⟨R, i, none⟩ = some v ∧ (wr.alloc O).frozen? ⟨R, i, none⟩ = false := by
  obtain ⟨cur, h1, h2, h3⟩ := h.row
  have hR : R < wr.heap.size := by have := h.size; omega
  refine ⟨cur[i]'(by omega), fun O => ?_⟩
  have e : (wr.alloc O).heap[R]? = some (.cells cur 66 (0, 0)) := (Below.heap_alloc wr O R hR).trans h1
  refine ⟨?_, by simp [World.frozen?, e]⟩
  rw [cell_of_row _ R i cur 66 (0, 0) e]
  exact Array.getElem?_eq_getElem (by omega)

theorem heap_setCell_at {w : World} {R i : Nat} {cur : Array Value} {t : TypeId} (h : w.heap[R]? = some (.cells cur t (0, 0))) (v : Value) : (w.setCell ⟨R, i, none⟩ v).heap[R]? = some (.cells (cur.setIfInBounds i v) t (0, 0)) := by
  simp [World.setCell, Array.getElem?_modify, h]

theorem params_step {w wr : World} {has : Bool} {R n i : Nat} (h : Params w wr has R n i) (hi : i < n) (cs : Array Value) :
    Params w ((wr.alloc (.cells cs 68)).setCell ⟨R, i, none⟩ (.pointer (some ⟨wr.heap.size, 0, none⟩))) has R n (i + 1) := by
  obtain ⟨cur, h1, h2, h3⟩ := h.row
  have hs := h.size
  have hl := h.low
  have hR : R < wr.heap.size := by omega
  have hb : Below R wr ((wr.alloc (.cells cs 68)).setCell ⟨R, i, none⟩ (.pointer (some ⟨wr.heap.size, 0, none⟩))) := ((Below.refl R wr).alloc (by omega) _).setCell (Nat.le_refl _) _
  have e : (wr.alloc (.cells cs 68)).heap[R]? = some (.cells cur 66 (0, 0)) := (Below.heap_alloc wr _ R hR).trans h1
  have other : ∀ k, k ≠ R → ((wr.alloc (.cells cs 68)).setCell ⟨R, i, none⟩ (.pointer (some ⟨wr.heap.size, 0, none⟩))).heap[k]? = (wr.alloc (.cells cs 68)).heap[k]? := fun k hk => Below.heap_setCell _ _ _ k hk
  refine ⟨h.base.turn (hb.mono h.low), h.low, h.low', fun hh => (hb.block _ (by have := h.low' hh; omega)).trans (h.map hh), ?_, ⟨cur.setIfInBounds i (.pointer (some ⟨wr.heap.size, 0, none⟩)), heap_setCell_at e _, by simp [h2], ?_⟩, ?_⟩
  · simp [World.setCell]; omega
  · intro j hj
    by_cases hji : j = i
    · subst hji
      rw [Array.getElem?_setIfInBounds_self_of_lt (by omega)]
      simp [ptr, hs]
    · rw [Array.getElem?_setIfInBounds_ne (Ne.symm hji)]
      exact h3 j (by omega)
  · intro j hj
    by_cases hji : j = i
    · subst hji
      refine ⟨cs, 68, (other _ (by omega)).trans ?_⟩
      rw [show R + 1 + j = wr.heap.size from hs.symm]
      exact heap_alloc_new wr _
    · exact (h.boxes j (by omega)).same ((other _ (by omega)).trans (Below.heap_alloc wr _ _ (by omega)))

theorem params_start {w w4 : World} {has : Bool} {R n : Nat} (hR : w4.heap.size = R) {cur : Array Value} (hb : Base w w4) (hlow : has = true → w.heap.size + 5 ≤ w4.heap.size) (hmap : has = true → w4.heap[w.heap.size + 4]? = some (.map #[] 0)) (hcur : cur.size = n) :
    Params w (w4.alloc (.cells cur 66)) has R n 0 := by
  subst hR
  have hbel : Below w4.heap.size w4 (w4.alloc (.cells cur 66)) := (Below.refl _ _).alloc (Nat.le_refl _) _
  have hs := hb.size
  exact ⟨hb.turn (hbel.mono hs), hs, hlow, fun hh => (hbel.block _ (by have := hlow hh; omega)).trans (hmap hh), by simp, ⟨cur, heap_alloc_new _ _, hcur, fun j hj => by omega⟩, fun j hj => by omega⟩

def ents (R : Nat) (q : Nat → Nat) (k : Nat) : Array MapEntry := ((List.range k).map fun j => { key := ptr (R + 1 + j), val := .iface 66 (ptr (R + 1 + q j)), born := j : MapEntry }).toArray
def keysL (R k : Nat) : List Value := (List.range k).map fun j => ptr (R + 1 + j)
def valsL (R : Nat) (q : Nat → Nat) (k : Nat) : List Value := (List.range k).map fun j => .iface 66 (ptr (R + 1 + q j))

theorem ents_succ (R : Nat) (q : Nat → Nat) (k : Nat) : ents R q (k + 1) = (ents R q k).push { key := ptr (R + 1 + k), val := .iface 66 (ptr (R + 1 + q k)), born := k } := by
  simp [ents, List.range_succ]
theorem keysL_succ (R k : Nat) : keysL R (k + 1) = keysL R k ++ [ptr (R + 1 + k)] := by simp [keysL, List.range_succ]
theorem valsL_succ (R : Nat) (q : Nat → Nat) (k : Nat) : valsL R q (k + 1) = valsL R q k ++ [.iface 66 (ptr (R + 1 + q k))] := by simp [valsL, List.range_succ]
theorem ents_size (R : Nat) (q : Nat → Nat) (k : Nat) : (ents R q k).size = k := by simp [ents]
theorem ents_split (R : Nat) (q : Nat → Nat) (k j : Nat) (hj : j < k) : ∃ post, (ents R q k).toList = (ents R q j).toList ++ { key := ptr (R + 1 + j), val := .iface 66 (ptr (R + 1 + q j)), born := j } :: post := by
  induction k with
  | zero => omega
  | succ k ih =>
    by_cases h : j < k
    · obtain ⟨post, hp⟩ := ih h
      exact ⟨post ++ [{ key := ptr (R + 1 + k), val := .iface 66 (ptr (R + 1 + q k)), born := k }], by rw [ents_succ]; simp [hp]⟩
    · obtain rfl : j = k := by omega
      exact ⟨[], by rw [ents_succ]; simp⟩

/-- The second loop: km entries are stored, kk keys and kl values gathered. -/
structure Pairs (w wr : World) (R n : Nat) (q : Nat → Nat) (km kk kl : Nat) (kv vv : Value) : Prop where
  base : Base w wr
  low : w.heap.size + 5 ≤ R
  size : R + 1 + n ≤ wr.heap.size
  row : ∃ cur, wr.heap[R]? = some (.cells cur 66 (0, 0)) ∧ cur.size = n ∧ ∀ j, j < n → cur[j]? = some (ptr (R + 1 + j))
  boxes : ∀ j, j < n → Row wr (R + 1 + j)
  map : wr.heap[w.heap.size + 4]? = some (.map (ents R q km) km)
  keys : wr.ownsRow (R + 1 + n) 66 1 kv kk (keysL R kk)
  vals : wr.ownsRow (R + 1 + n) 70 1 vv kl (valsL R q kl)

theorem pairs_start {w wr : World} {R n : Nat} (q : Nat → Nat) (h : Params w wr true R n n) : Pairs w wr R n q 0 0 0 (.slice none 0 0) (.slice none 0 0) :=
  ⟨h.base, h.low' rfl, by have := h.size; omega, h.row, h.boxes, h.map rfl, World.ownsRow_nil _ _ _ _, World.ownsRow_nil _ _ _ _⟩

section
variable {w wr : World} {R n : Nat} {q : Nat → Nat} {km kk kl : Nat} {kv vv : Value}

theorem Pairs.param (h : Pairs w wr R n q km kk kl kv vv) (j : Nat) (hj : j < n) : wr.cell? ⟨R, j, none⟩ = some (.pointer (some ⟨R + 1 + j, 0, none⟩)) := by
  obtain ⟨cur, h1, _, h3⟩ := h.row
  exact (cell_of_row _ R j cur 66 (0, 0) h1).trans (h3 j hj)

theorem ents_keys {R : Nat} {q : Nat → Nat} {k i n : Nat} {X : World} (hik : k ≤ i) (hin : i < n) (hb : ∀ j, j < n → Row X (R + 1 + j)) : ∀ e ∈ (ents R q k).toList, ∃ b, e.key = ptr b ∧ R + 1 + i ≠ b ∧ Row X b := by
  intro e he
  simp only [ents, List.mem_map, List.mem_range] at he
  obtain ⟨j, hj, rfl⟩ := he
  exact ⟨R + 1 + j, rfl, by omega, hb j (by omega)⟩

/-- What turns nothing below R + 1 + n but the map's block keeps the rest. -/
theorem Pairs.mapped (h : Pairs w wr R n q km kk kl kv vv) {w2 : World} (hg : wr.grownBy w2 (some (w.heap.size + 4))) (hm : w2.heap[w.heap.size + 4]? = some (.map (ents R q (km + 1)) (km + 1))) : Pairs w w2 R n q (km + 1) kk kl kv vv := by
  have hl := h.low
  have hz := h.size
  have keep : ∀ k, k < wr.heap.size → k ≠ w.heap.size + 4 → w2.heap[k]? = wr.heap[k]? := fun k hk hne => hg.block k hk (by simpa using hne)
  have hbel : Below (w.heap.size + 4) wr w2 := ⟨hg.os, hg.tape, hg.output, hg.size, fun k hk => keep k (by omega) (by omega)⟩
  obtain ⟨cur, h1, h2, h3⟩ := h.row
  refine ⟨h.base.turn hbel, hl, Nat.le_trans hz hg.size, ⟨cur, (keep R (by omega) (by omega)).trans h1, h2, h3⟩, fun j hj => (h.boxes j hj).same (keep _ (by omega) (by omega)), hm, ?_, ?_⟩
  · refine h.keys.kept hg ?_
    cases hv : kv.ownBlock with
    | none => exact .inl rfl
    | some b => exact .inr (by have := (h.keys.lt b hv).1; simp; omega)
  · refine h.vals.kept hg ?_
    cases hv : vv.ownBlock with
    | none => exact .inl rfl
    | some b => exact .inr (by have := (h.vals.lt b hv).1; simp; omega)

theorem pairs_map {P : Program} {j : TypeInfo} (h : Pairs w wr R n q km kk kl kv vv) (hk : km < n) (ht : P.underlying 36 = some (.map 66 70)) (hp : P.underlying 66 = some (.pointer 68)) (hte : P.info? 68 = some j) (hsz : j.size ≠ 0) :
    ∃ w2, (Instr.mapUpdate 36 (.map (some (w.heap.size + 4))) (.pointer (some ⟨R + 1 + km, 0, none⟩)) (.iface 66 (.pointer (some ⟨R + 1 + q km, 0, none⟩)))).run P wr = .ok () w2 ∧ Pairs w w2 R n q (km + 1) kk kl kv vv := by
  obtain ⟨w2, hrun, hm, hg⟩ := run_update (t := 36) ht hp hte hsz (h.boxes km hk) (ents R q km) km h.map (ents_keys (Nat.le_refl _) hk h.boxes) (.iface 66 (ptr (R + 1 + q km)))
  refine ⟨w2, hrun, h.mapped hg ?_⟩
  rw [hm, ents_succ]

/-- A row of one element type is no row of another. -/
theorem own_apart {X : World} {B : Nat} {e e' : TypeId} {v v' : Value} {m m' : Nat} {xs ys : List Value} (h : X.ownsRow B e 1 v m xs) (h' : X.ownsRow B e' 1 v' m' ys) (hne : e ≠ e') : v.ownBlock = none ∨ v.ownBlock ≠ v'.ownBlock := by
  rcases h.2 with ⟨rfl, _⟩ | ⟨g, cap, cur, rfl, _, hg, _⟩
  · exact .inl rfl
  · rcases h'.2 with ⟨rfl, _⟩ | ⟨g', cap', cur', rfl, _, hg', _⟩
    · exact .inr (by simp [Value.ownBlock])
    · refine .inr fun e1 => ?_
      simp only [Value.ownBlock, Option.some.injEq] at e1
      rw [e1, hg'] at hg
      simp at hg
      exact hne hg.2.symm

theorem Pairs.grown (h : Pairs w wr R n q km kk kl kv vv) {w2 : World} {row : Option Nat} (hg : wr.grownBy w2 row) (hr : ∀ k, row = some k → R + 1 + n ≤ k) :
    Base w w2 ∧ R + 1 + n ≤ w2.heap.size ∧ (∃ cur, w2.heap[R]? = some (.cells cur 66 (0, 0)) ∧ cur.size = n ∧ ∀ j, j < n → cur[j]? = some (ptr (R + 1 + j))) ∧ (∀ j, j < n → Row w2 (R + 1 + j)) ∧ w2.heap[w.heap.size + 4]? = some (.map (ents R q km) km) := by
  have hl := h.low
  have hz := h.size
  have hbel : Below (R + 1 + n) wr w2 := (Below.refl _ _).grown hg hz hr
  obtain ⟨cur, h1, h2, h3⟩ := h.row
  exact ⟨h.base.turn (hbel.mono (by omega)), Nat.le_trans hz hg.size, ⟨cur, (hbel.block R (by omega)).trans h1, h2, h3⟩, fun j hj => (h.boxes j hj).same (hbel.block _ (by omega)), (hbel.block _ (by omega)).trans h.map⟩

theorem Pairs.alloc (h : Pairs w wr R n q km kk kl kv vv) (o : Obj) : Pairs w (wr.alloc o) R n q km kk kl kv vv := by
  obtain ⟨a1, a2, a3, a4, a5⟩ := h.grown (World.grownBy_alloc wr o none) (fun k hk => by cases hk)
  exact ⟨a1, h.low, a2, a3, a4, a5, h.keys.alloc o, h.vals.alloc o⟩

theorem Pairs.drew (h : Pairs w wr R n q km kk kl kv vv) : Pairs w wr.drew R n q km kk kl kv vv :=
  ⟨⟨h.base.below.drew, h.base.size, h.base.set, h.base.lit⟩, h.low, h.size, h.row, h.boxes, h.map, h.keys, h.vals⟩

/-- 'len(m)' of the whole map; 'v, ok := m[p]' at its i-th key. -/
theorem pairs_len {P : Program} (h : Pairs w wr R n q km kk kl kv vv) (ht : P.underlying 36 = some (.map 66 70)) (ty : TypeId) : (Builtin.len_ #[36] ty #[.map (some (w.heap.size + 4))]).run P wr = .ok (.int .i64 km) wr := by
  simp [Builtin.len_, run_underlying ht, MapKept.run_getObj_map h.map, ents_size, goInt]

theorem pairs_look {P : Program} {j : TypeInfo} (h : Pairs w wr R n q km kk kl kv vv) (hk : km ≤ n) (ht : P.underlying 36 = some (.map 66 70)) (hp : P.underlying 66 = some (.pointer 68)) (hte : P.info? 68 = some j) (hsz : j.size ≠ 0) (i : Nat) (hi : i < km) :
    (Instr.lookup 36 (.map (some (w.heap.size + 4))) (.pointer (some ⟨R + 1 + i, 0, none⟩)) true).run P wr = .ok (.tuple #[.iface 66 (.pointer (some ⟨R + 1 + q i, 0, none⟩)), .bool true]) wr := by
  obtain ⟨post, hpost⟩ := ents_split R q km i hi
  exact run_lookup (t := 36) ht hp hte hsz (h.boxes i (by omega)) (ents R q km) km h.map (ents R q i).toList post { key := ptr (R + 1 + i), val := .iface 66 (ptr (R + 1 + q i)), born := i } hpost rfl (ents_keys (Nat.le_refl _) (by omega) h.boxes)

theorem pairs_key (h : Pairs w wr R n q km kk kl kv vv) {v' : Value} {w2 : World} (hown : w2.ownsRow (R + 1 + n) 66 1 v' (kk + 1) (keysL R kk ++ [.pointer (some ⟨R + 1 + kk, 0, none⟩)])) (hg : wr.grownBy w2 kv.ownBlock) : Pairs w w2 R n q km (kk + 1) kl v' vv := by
  obtain ⟨a1, a2, a3, a4, a5⟩ := h.grown hg (fun k hk => (h.keys.lt k hk).1)
  refine ⟨a1, h.low, a2, a3, a4, a5, by rw [keysL_succ]; exact hown, h.vals.kept hg (own_apart h.vals h.keys (by decide))⟩

theorem pairs_val (h : Pairs w wr R n q km kk kl kv vv) {v' : Value} {w2 : World} (hown : w2.ownsRow (R + 1 + n) 70 1 v' (kl + 1) (valsL R q kl ++ [.iface 66 (.pointer (some ⟨R + 1 + q kl, 0, none⟩))])) (hg : wr.grownBy w2 vv.ownBlock) : Pairs w w2 R n q km kk (kl + 1) kv v' := by
  obtain ⟨a1, a2, a3, a4, a5⟩ := h.grown hg (fun k hk => (h.vals.lt k hk).1)
  refine ⟨a1, h.low, a2, a3, a4, a5, h.keys.kept hg (own_apart h.keys h.vals (by decide)), by rw [valsL_succ]; exact hown⟩

/-- A slice that owns m elements, as a value. -/
theorem own_slice {X : World} {B : Nat} {e : TypeId} {v : Value} {m : Nat} {xs : List Value} (h : X.ownsRow B e 1 v m xs) : ∃ ao cap, v = .slice ao m cap ∧ ∀ j, j < m → ∃ g, ao = some ⟨g, 0, none⟩ ∧ X.cell? ⟨g, j, none⟩ = xs[j]? := by
  rcases h.2 with ⟨rfl, rfl⟩ | ⟨g, cap, cur, rfl, _, hg, _⟩
  · exact ⟨none, 0, rfl, fun j hj => by omega⟩
  · exact ⟨some ⟨g, 0, none⟩, cap, rfl, fun j hj => ⟨g, rfl, h.cellAt j (by omega)⟩⟩

end
end Go.Proofs.Ybulktmc.PtrMap
