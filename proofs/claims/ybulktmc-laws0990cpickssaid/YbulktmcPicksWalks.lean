/-
  LawS0990CPicks: methodSet by its two contracts; the walks where no map is made.
-/
import Derived.Test.YbulktmcRows
import Derived.Test.YbulktmcPicksSteps
import Derived.WalkKit
import Derived.ProofKit
import Derived.OpenShut
import Derived.WalkSpells
import Derived.RegionTactic
import Derived.Lib.Builder
namespace Go.Proofs.Ybulktmc.lawS0990CPicks
open Go.ChangeShapes Go.WideShapes Go.ChangeAt Go.RowKit Go.Proofs.Ybulktmc.PtrMap

theorem cell_alloc {w : World} {b o : Nat} {v : Value} (h : w.cell? ⟨b, o, none⟩ = some v) (ob : Obj) : (w.alloc ob).cell? ⟨b, o, none⟩ = some v := by
  have hl := World.block_lt_of_cell? w _ h
  exact (World.cell?_of_block (Below.heap_alloc w ob b hl)).trans h

/-- The method set that 'methodSet' hands back, as its eight cells. -/
def msCells (l : Option Addr) (m : Option Nat) : Array Value := #[.pointer none, .pointer none, .pointer l, .nilIface, .bool false, .bool false, .bool false, .map m]

set_option maxRecDepth 100000 in
theorem ms_lit (b s : Nat) (l : Option Addr) (w : World)
    (h0 : w.cell? ⟨b, 0, none⟩ = some (.pointer (some ⟨s, 0, none⟩))) (h1 : w.cell? ⟨b, 1, none⟩ = some (.pointer none)) 
    (s0 : w.cell? ⟨s, 0, none⟩ = some (.pointer none)) (s1 : w.cell? ⟨s, 1, none⟩ = some (.pointer none)) (s2 : w.cell? ⟨s, 2, none⟩ = some (.pointer l)) :
    Calls Yba.prog 7 #[.pointer (some ⟨b, 0, none⟩)] w fun e w' => e = .returned (.agg (msCells l none)) ∧ w' = w.alloc (.cells (msCells l none) 74) := by
  have h0' := cell_alloc h0
  have h1' := cell_alloc h1
  have s0' := cell_alloc s0
  have s1' := cell_alloc s1
  have s2' := cell_alloc s2
  go_enter Yba.func7, Yba.ntmps7
  go_wp2
  exact bodyPost_ret (v := .agg (msCells l none)) (by simp [results, Yba.results7, go_sem, msCells]) rfl ⟨rfl, rfl⟩

set_option maxRecDepth 100000 in
theorem ms_inst (b q s : Nat) (l : Option Addr) (m : Option Nat) (w : World)
    (h1 : w.cell? ⟨b, 1, none⟩ = some (.pointer (some ⟨q, 0, none⟩))) (h2 : w.cell? ⟨b, 2, none⟩ = some (.map m)) 
    (q0 : w.cell? ⟨q, 0, none⟩ = some (.pointer (some ⟨s, 0, none⟩)))
    (s0 : w.cell? ⟨s, 0, none⟩ = some (.pointer none)) (s1 : w.cell? ⟨s, 1, none⟩ = some (.pointer none)) (s2 : w.cell? ⟨s, 2, none⟩ = some (.pointer l)) :
    Calls Yba.prog 7 #[.pointer (some ⟨b, 0, none⟩)] w fun e w' => e = .returned (.agg (msCells l m)) ∧ w' = (w.alloc (.cells (msCells l m) 74)).drew := by
  have q0' := cell_alloc q0
  have h1' := cell_alloc h1
  have h2' := cell_alloc h2
  have s0' := cell_alloc s0
  have s1' := cell_alloc s1
  have s2' := cell_alloc s2
  go_enter Yba.func7, Yba.ntmps7
  go_wp2
  go_region
  go_wp2
  exact bodyPost_ret (v := .agg (msCells l m)) (by simp [results, Yba.results7, go_sem, msCells]) rfl ⟨rfl, rfl⟩

theorem info68 : (Yba.prog.info? 68).map (fun i => (i.size, i.comparable)) = some (4, true) := by kernel_rfl
theorem info45 : (Yba.prog.info? 45).isSome = true := by kernel_rfl

theorem info66 : (Yba.prog.info? 66).map (fun i => (i.zero, i.size, i.bytes)) = some (some (.pointer none), 1, 8) := by kernel_rfl
theorem info70 : (Yba.prog.info? 70).map (fun i => (i.zero, i.size, i.bytes)) = some (some .nilIface, 1, 16) := by kernel_rfl
theorem comp66 : (Yba.prog.info? 66).map (fun i => i.comparable) = some true := by kernel_rfl

/-- '!=' of a pointer and itself; a map held against nil. -/
theorem neq32 (a : Addr) (w : World) : (binOp BinOp.neq 32 (.pointer (some a)) (.pointer (some a))).run Yba.prog w = .ok (.bool false) w := by
  obtain ⟨i45, hi45⟩ := Option.isSome_iff_exists.mp info45
  exact Lib.run_neq_ptr_same w a Yba.underlying32 hi45
theorem eqlNil (m : Option Nat) (w : World) : (binOp BinOp.eql 36 (.map m) (.map none)).run Yba.prog w = .ok (.bool m.isNone) w := run_eql_map_nil w 36 66 70 m Yba.underlying36
theorem neqNil (m : Option Nat) (w : World) : (binOp BinOp.neq 36 (.map m) (.map none)).run Yba.prog w = .ok (.bool (!m.isNone)) w := run_neq_map_nil w 36 66 70 m Yba.underlying36

/-- The head's world. -/
theorem base_head (w : World) : Base w ((((w.alloc (.cells #[.pointer none, .slice none 0 0, .map none, .pointer none] 45)).alloc (.cells #[.pointer none, .slice none 0 0, .map none, .pointer none] 45)).alloc (.cells (setC w.heap.size) 59)).alloc (.cells (litC w.heap.size) 63)) := by
  refine ⟨?_, by simp, ?_, ?_⟩
  · repeat (first | exact Below.refl _ _ | refine Below.alloc ?_ (by first | omega | (simp <;> omega)) _)
  · rw [Below.heap_alloc _ _ _ (by simp)]
    have := heap_alloc_new ((w.alloc (.cells #[.pointer none, .slice none 0 0, .map none, .pointer none] 45)).alloc (.cells #[.pointer none, .slice none 0 0, .map none, .pointer none] 45)) (.cells (setC w.heap.size) 59)
    simpa using this
  · have := heap_alloc_new (((w.alloc (.cells #[.pointer none, .slice none 0 0, .map none, .pointer none] 45)).alloc (.cells #[.pointer none, .slice none 0 0, .map none, .pointer none] 45)).alloc (.cells (setC w.heap.size) 59)) (.cells (litC w.heap.size) 63)
    simpa using this

set_option maxRecDepth 100000 in
theorem walk_plain (a1 : Bool) (a2 : Option Addr) (len cap : Nat) (w : World) (hlen : len ≤ 1024) :
    Calls Yba.prog 5 #[.bool false, .bool a1, .slice a2 len cap] w fun e w' => e = .returned (.bool true) ∧ Below w.heap.size w w' := by
  have hl' : ¬ (1024 : Int) < (len : Int) := by omega
  have hpn := neq32
  have hme := eqlNil
  have hmn := neqNil
  go_enter Yba.func5, Yba.ntmps5
  go_wp2_with fail
  refine (ms_lit _ (w.heap.size + 1 + 1) (some ⟨w.heap.size, 0, none⟩) _ ?_ ?_ ?_ ?_ ?_).mono ?_
  iterate 5 (simp [go_sem])
  rintro e w1 ⟨rfl, rfl⟩
  unfold msCells
  go_wp2
  refine wp_loop_rounds 1 ?_
  rw [rounds_succ]
  go_wp2
  go_ret
  exact ⟨rfl, by repeat (first | exact Below.refl _ _ | refine Below.alloc ?_ (by first | omega | (simp <;> omega)) _)⟩

/-- n nil pointers. -/
def row66 (n : Nat) : Array Value := madeCells (Value.pointer none).cells (n * 1)
theorem make64 (n : Nat) (hn : n ≤ 1024) (w : World) : (Instr.makeSlice 64 (.int .i64 n) (.int .i64 n)).run Yba.prog w = .ok (.slice (some ⟨w.heap.size, 0, none⟩) n n) (w.alloc (.cells (row66 n) 66)) := by
  obtain ⟨i0, hi, hz0, hz1, hz2⟩ := info_parts info66
  have h := run_make (P := Yba.prog) w 64 66 i0 (.pointer none) Yba.underlying64 hi hz0 .i64 .i64 n n (by omega) (by omega) (by rw [hz2]; omega) (by omega)
  rw [hz1] at h
  simpa [row66] using h

set_option maxRecDepth 100000 in
theorem walk_nil (a2 : Option Addr) (len cap : Nat) (w : World) (hlen : len ≤ 1024) :
    Calls Yba.prog 5 #[.bool true, .bool true, .slice a2 len cap] w fun e w' => e = .returned (.bool true) ∧ Below w.heap.size w w' := by
  have hl' : ¬ (1024 : Int) < (len : Int) := by omega
  have hpn := neq32
  have hme := eqlNil
  have hmn := neqNil
  have hmk := make64 len hlen
  go_enter Yba.func5, Yba.ntmps5
  go_wp2
  go_loopw [49] (fun i wr => ∃ k : Nat, k ≤ len ∧ i = .int .i64 k ∧ Params w wr false (w.heap.size + 1 + 1 + 1 + 1) len k) (fun i _ => len - (intOf i).toNat)
  case atStart => exact ⟨0, Nat.zero_le _, rfl, params_start (by simp) (base_head w) (fun h => by cases h) (fun h => by cases h) (by simp [row66, size_madeCells])⟩
  case round =>
    obtain ⟨k, hk, rfl, hp⟩ := hrel
    by_cases hlt : k < len
    · obtain ⟨v, hv⟩ := params_cell hp hlt
      have hc : ∀ O, (wr.alloc O).cell? ⟨w.heap.size + 1 + 1 + 1 + 1, k, none⟩ = some v := fun O => (hv O).1
      have hf : ∀ O, (wr.alloc O).frozen? ⟨w.heap.size + 1 + 1 + 1 + 1, k, none⟩ = false := fun O => (hv O).2
      clear hv
      go_wp2
      go_roundw
      case rel => exact ⟨k + 1, by omega, by go_num, params_step hp hlt _⟩
      case measure => simp [intOf]; omega
    · have hb := hp.base
      clear hp
      go_wp2_with fail
      have hb2 := (hb.alloc (.cells #[.pointer none, .pointer none, .pointer (some ⟨w.heap.size + 1, 0, none⟩), .pointer none, .pointer none, .pointer none, .pointer none, .pointer none, .pointer none, .pointer none, .bool false] 59)).alloc (.cells #[.pointer (some ⟨wr.heap.size, 0, none⟩), .pointer (some ⟨w.heap.size + 1 + 1 + 1, 0, none⟩), .map none, .slice none 0 0, .slice none 0 0] 63)
      obtain ⟨q0, s0, s1, s2⟩ := hb2.cells
      refine (ms_inst _ (w.heap.size + 1 + 1 + 1) (w.heap.size + 1 + 1) (some ⟨w.heap.size, 0, none⟩) none _ ?_ ?_ q0 s0 s1 s2).mono ?_
      · simp [go_sem]
      · simp [go_sem]
      rintro e w1 ⟨rfl, rfl⟩
      clear q0 s0 s1 s2
      unfold msCells
      go_wp2
      refine wp_loop_rounds 1 ?_
      rw [rounds_succ]
      go_wp2
      go_ret
      exact ⟨rfl, by have := hb.size; repeat (first | exact hb.below | apply Below.drew | refine Below.alloc ?_ (by first | omega | (simp <;> omega)) _)⟩

end Go.Proofs.Ybulktmc.lawS0990CPicks
