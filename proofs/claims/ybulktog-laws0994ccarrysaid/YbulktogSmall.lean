/-
  The small functions on the road, each by its contract.
-/
import Derived.Test.YbulktogRows
import Derived.Test.YbulktogPlain
import Derived.WalkKit
import Derived.ProofKit
import Derived.OpenShut
import Derived.WalkSpells
import Derived.RegionTactic
import Derived.Deep.QuietTactic
import Derived.BigQuiet
import Derived.Lib.Builder
namespace Go.Proofs.Ybulktog
open Go.ChangeShapes Go.WideShapes Go.ChangeAt Go.RowKit

theorem info92 : (Yba.prog.info? 92).map (fun i => (i.zero, i.size, i.bytes)) = some (some (.agg #[.string ⟨#[]⟩, .string ⟨#[]⟩, .pointer none, .map none]), 4, 48) := by kernel_rfl
def row92 (n : Nat) : Array Value := madeCells (Value.agg #[.string ⟨#[]⟩, .string ⟨#[]⟩, .pointer none, .map none]).cells (n * 4)
theorem make23 (n : Nat) (hn : n ≤ 1024) (w : World) : (Instr.makeSlice 23 (.int .i64 n) (.int .i64 n)).run Yba.prog w = .ok (.slice (some ⟨w.heap.size, 0, none⟩) n n) (w.alloc (.cells (row92 n) 92)) := by
  obtain ⟨i0, hi, hz0, hz1, hz2⟩ := info_parts info92
  have h := run_make (P := Yba.prog) w 23 92 i0 _ Yba.underlying23 hi hz0 .i64 .i64 n n (by omega) (by omega) (by rw [hz2]; omega) (by omega)
  rw [hz1] at h
  simpa [row92] using h

/-- The instances' row: k of the n IDs are stored. -/
structure Insts (w wr : World) (ids : Nat → ByteArray) (n k : Nat) : Prop where
  below : Below w.heap.size w wr
  size : wr.heap.size = w.heap.size + 1
  row : ∃ cur, wr.heap[w.heap.size]? = some (.cells cur 92 (0, 0)) ∧ cur.size = n * 4 ∧ ∀ i, i < k → cur[i * 4]? = some (.string (ids i))

theorem heap_setCell_at {w : World} {R i : Nat} {cur : Array Value} {t : TypeId} (h : w.heap[R]? = some (.cells cur t (0, 0))) (v : Value) : (w.setCell ⟨R, i, none⟩ v).heap[R]? = some (.cells (cur.setIfInBounds i v) t (0, 0)) := by
  simp [World.setCell, Array.getElem?_modify, h]

theorem size_setCell (w : World) (a : Addr) (v : Value) : (w.setCell a v).heap.size = w.heap.size := by simp [World.setCell]

theorem insts_cells {w wr : World} {ids : Nat → ByteArray} {n k : Nat} (h : Insts w wr ids n k) (hk : k < n) : (∀ o, wr.frozen? ⟨w.heap.size, o, none⟩ = false) ∧ ∃ v0 v1 v2 v3, wr.cell? ⟨w.heap.size, k * 4, none⟩ = some v0 ∧ wr.cell? ⟨w.heap.size, k * 4 + 1, none⟩ = some v1 ∧ wr.cell? ⟨w.heap.size, k * 4 + 2, none⟩ = some v2 ∧ wr.cell? ⟨w.heap.size, k * 4 + 3, none⟩ = some v3 := by
  obtain ⟨cur, h1, h2, _⟩ := h.row
  refine ⟨fun o => by simp [World.frozen?, h1], cur[k * 4]'(by omega), cur[k * 4 + 1]'(by omega), cur[k * 4 + 2]'(by omega), cur[k * 4 + 3]'(by omega), ?_, ?_, ?_, ?_⟩ <;>
  · rw [cell_of_row _ _ _ cur 92 (0, 0) h1]
    exact Array.getElem?_eq_getElem (by omega)

theorem insts_step {w wr : World} {ids : Nat → ByteArray} {n k : Nat} (h : Insts w wr ids n k) (hk : k < n) (v1 v2 v3 : Value) :
    Insts w ((((wr.setCell ⟨w.heap.size, k * 4, none⟩ (.string (ids k))).setCell ⟨w.heap.size, k * 4 + 1, none⟩ v1).setCell ⟨w.heap.size, k * 4 + 2, none⟩ v2).setCell ⟨w.heap.size, k * 4 + 3, none⟩ v3) ids n (k + 1) := by
  obtain ⟨cur, h1, h2, h3⟩ := h.row
  have e1 := heap_setCell_at (i := k * 4) h1 (.string (ids k))
  have e2 := heap_setCell_at (i := k * 4 + 1) e1 v1
  have e3 := heap_setCell_at (i := k * 4 + 2) e2 v2
  have e4 := heap_setCell_at (i := k * 4 + 3) e3 v3
  refine ⟨(((h.below.setCell (Nat.le_refl _) _).setCell (Nat.le_refl _) _).setCell (Nat.le_refl _) _).setCell (Nat.le_refl _) _, by simp only [size_setCell]; exact h.size, _, e4, by simp [h2], fun i hi => ?_⟩
  rw [Array.getElem?_setIfInBounds_ne (by omega), Array.getElem?_setIfInBounds_ne (by omega), Array.getElem?_setIfInBounds_ne (by omega)]
  by_cases hik : i = k
  · subst hik
    rw [Array.getElem?_setIfInBounds_self_of_lt (by omega)]
  · rw [Array.getElem?_setIfInBounds_ne (by omega)]
    exact h3 i (by omega)

set_option maxRecDepth 100000 in
theorem insts_any (a : Option Addr) (n cap : Nat) (ids : Nat → ByteArray) (w : World) (hn : n ≤ 1024) (hid : ∀ i, i < n → ∃ x, a = some x ∧ w.cell? (x.add i) = some (.string (ids i))) :
    Calls Yba.prog 5 #[.slice a n cap] w fun e w' => e = .returned (.slice (some ⟨w.heap.size, 0, none⟩) n n) ∧ Insts w w' ids n n := by
  have hmk := make23 n hn
  go_enter Yba.func5, Yba.ntmps5
  go_wp2
  go_loopw [10] (fun i wr => ∃ k : Nat, k ≤ n ∧ i = .int .i64 k ∧ Insts w wr ids n k) (fun i _ => n - (intOf i).toNat)
  case atStart => exact ⟨0, Nat.zero_le _, rfl, (Below.refl _ _).alloc (Nat.le_refl _) _, by simp, row92 n, heap_alloc_new _ _, by simp [row92, size_madeCells], fun i hi => by omega⟩
  case round =>
    obtain ⟨k, hk, rfl, hp⟩ := hrel
    by_cases hlt : k < n
    · obtain ⟨x, rfl, hx⟩ := hid k hlt
      have hxr : wr.cell? (x.add k) = some (.string (ids k)) := (hp.below.cell (World.block_lt_of_cell? w _ hx)).trans hx
      clear hx
      obtain ⟨hfz, v0, v1, v2, v3, hc0, hc1, hc2, hc3⟩ := insts_cells hp hlt
      go_wp2
      go_roundw
      case rel => exact ⟨k + 1, by omega, by go_num, insts_step hp hlt _ _ _⟩
      case measure => simp [intOf]; omega
    · obtain rfl : k = n := by omega
      go_wp2
      go_ret
      exact ⟨rfl, hp⟩


/-- 'x == nil' on a slice of ints. -/
theorem eql107 (a : Option Addr) (n c : Nat) (w : World) : (binOp BinOp.eql 107 (.slice a n c) (.slice none 0 0)).run Yba.prog w = .ok (.bool a.isNone) w := Lib.run_eql_slice_nil w 107 3 a n c 0 0 Yba.underlying107

theorem beq_yes {a b : ByteArray} (h : a = b) : (a.toList == b.toList) = true := (Go.Lib.bytes_beq_iff a b).2 h
theorem beq_no {a b : ByteArray} (h : a ≠ b) : (a.toList == b.toList) = false := (Go.Lib.bytes_beq_false_iff a b).2 h

set_option maxRecDepth 100000 in
theorem last_any (a : Option Addr) (n cap : Nat) (ids : Nat → ByteArray) (s : ByteArray) (w : World) (hn : n ≤ 1024) (hid : ∀ i, i < n → ∃ x, a = some x ∧ w.cell? (x.add i) = some (.string (ids i))) :
    Calls Yba.prog 8 #[.slice a n cap, .string s] w fun e w' => e = .returned (.int .i64 (lastIn ids s n)) ∧ w' = w := by
  go_enter Yba.func8, Yba.ntmps8
  go_wp2
  go_loop [5, 9] (fun r i => ∃ k : Nat, k ≤ n ∧ i = .int .i64 k ∧ r = .int .i64 (lastIn ids s k)) (fun _ i => n - (intOf i).toNat)
  case atStart => exact ⟨0, Nat.zero_le _, rfl, rfl⟩
  case round =>
    obtain ⟨k, hk, rfl, rfl⟩ := hrel
    by_cases hlt : k < n
    · obtain ⟨x, rfl, hx⟩ := hid k hlt
      by_cases he : ids k = s
      · have hb := beq_yes he
        have HE : Hid (ids k = s) := he
        clear he
        go_wp2
        go_round
        case rel => exact ⟨k + 1, by omega, by go_num, by rw [lastIn_hit HE.out]⟩
        case measure => simp [intOf]; omega
      · have hb := beq_no he
        have HE : Hid (ids k ≠ s) := he
        clear he
        go_wp2
        go_round
        case rel => exact ⟨k + 1, by omega, by go_num, by rw [lastIn_miss HE.out]⟩
        case measure => simp [intOf]; omega
    · obtain rfl : k = n := by omega
      go_wp2
      go_ret
      exact ⟨rfl, rfl⟩

/-- A new member's cells. -/
def memC : Array Value := #[.int .i32 0, .int .u32 0, .int .i64 0, .int .u64 0, .int .i64 0, .pointer none, .int .u32 0, .int .i64 0, .int .i64 0, .int .i64 0, .int .i64 0]

set_option maxRecDepth 100000 in
theorem newMember_any (w : World) : Calls Yba.prog 10 #[.pointer none] w fun e w' => e = .returned (.pointer (some ⟨w.heap.size, 0, none⟩)) ∧ w' = w.alloc (.cells memC 102) := by
  go_enter Yba.func10, Yba.ntmps10
  go_wp2
  go_end0
  go_wp2
  go_ret
  exact ⟨rfl, rfl⟩

set_option maxRecDepth 100000 in
theorem distanceTo_any (z : ByteArray) (p : Option Addr) (w : World) : Calls Yba.prog 13 #[.agg #[.string ⟨#[]⟩, .string z], .pointer p] w fun e w' => e = .returned (.int .u8 2) ∧ ∃ nq, w' = (w.alloc (.cells #[.string ⟨#[]⟩, .string z] 69)).drewN nq := by
  go_enter Yba.func13, Yba.ntmps13
  go_wp2
  go_quiet (fail)
  go_wp2
  go_ret
  exact ⟨rfl, _, rfl⟩

set_option maxRecDepth 100000 in
theorem sameGroup_nil (p : Option Addr) (w : World) : Calls Yba.prog 15 #[.pointer none, .pointer p] w fun e w' => e = .returned (.pointer none) ∧ w' = w := by
  go_enter Yba.func15, Yba.ntmps15
  go_wp2
  go_ret
  exact ⟨rfl, rfl⟩

set_option maxRecDepth 100000 in
theorem sameGroup_none (p : Option Addr) (fb : Nat) (w : World) (h3 : w.cell? ⟨fb, 3, none⟩ = some (.slice none 0 0)) : Calls Yba.prog 15 #[.pointer (some ⟨fb, 0, none⟩), .pointer p] w fun e w' => e = .returned (.pointer none) ∧ w' = w := by
  go_enter Yba.func15, Yba.ntmps15
  go_wp2
  refine wp_loop_rounds 1 ?_
  rw [rounds_succ]
  go_wp2
  go_ret
  exact ⟨rfl, rfl⟩

set_option maxRecDepth 100000 in
theorem sameGroup_one (fb gb cap hb : Nat) (w : World) (h3 : w.cell? ⟨fb, 3, none⟩ = some (.slice (some ⟨gb, 0, none⟩) 1 cap)) (hg : w.cell? ⟨gb, 0, none⟩ = some (.int .u8 2)) (hh : w.cell? ⟨hb, 0, none⟩ = some (.int .u8 2)) :
    Calls Yba.prog 15 #[.pointer (some ⟨fb, 0, none⟩), .pointer (some ⟨hb, 0, none⟩)] w fun e w' => e = .returned (.pointer (some ⟨gb, 0, none⟩)) ∧ ∃ nq, w' = w.drewN nq := by
  go_enter Yba.func15, Yba.ntmps15
  go_wp2
  refine wp_loop_rounds 1 ?_
  rw [rounds_succ]
  go_wp2
  go_quiet (fail)
  go_wp2
  go_ret
  exact ⟨rfl, _, rfl⟩
end Go.Proofs.Ybulktog
