/-
  A finished fleet in memory, and equality of pointers and interface values at this program.
-/
import Derived.Test.YbulktogNew
import Derived.Test.YbulktogGroups
import Derived.LaidEqlPtr
import Derived.Lib.Builder
namespace Go.Proofs.Ybulktog
open Go.ChangeShapes Go.WideShapes Go.ChangeAt Go.RowKit

/-- A fleet whose making began when the heap held N blocks. -/
structure Fleet (w : World) (N mb xb I n : Nat) (gv : Value) (ids : Nat → ByteArray) (pos : Nat → Int) (emem mem : Nat → Nat) : Prop where
  two : Two N mb xb
  size : N + 4 ≤ w.heap.size
  fl : w.heap[N + 2]? = some (.cells (fleetC N mb xb I n gv (lockV N)) 87 (0, 0))
  memb : ∃ cur, w.heap[mb]? = some (.cells cur 93 (0, 0)) ∧ ∀ i, i < n → cur[i]? = some (.pointer (some ⟨mem i, 0, none⟩))
  index : ∃ es clock, w.heap[xb]? = some (.map es clock) ∧ Ents es.toList (tab ids n)
  old : ∀ i, i < n → 0 ≤ pos i → mem i = emem (pos i).toNat
  new : ∀ i, i < n → pos i < 0 → N + 4 ≤ mem i ∧ w.heap[mem i]? = some (.cells memC 102 (0, 0))
  incr : ∀ i j, i < j → j < n → pos i < 0 → pos j < 0 → mem i < mem j

section
variable {w X Y : World} {N mb xb I n : Nat} {gv : Value} {ids : Nat → ByteArray} {pos : Nat → Int} {emem mem : Nat → Nat}

theorem Two.lows (h : Two N mb xb) : N ≤ mb ∧ N ≤ xb ∧ mb < N + 2 ∧ xb < N + 2 ∧ mb ≠ xb := by rcases h with ⟨h1, h2⟩ | ⟨h1, h2⟩ <;> omega

theorem fleet_of (h : NF w X mb xb I n ids pos emem mem n n) (hk : Kept (fun k => k < w.heap.size) X Y) (gv : Value) : Fleet (Y.setCell ⟨w.heap.size + 2, 3, none⟩ gv) w.heap.size mb xb I n gv ids pos emem mem := by
  have hz := h.size
  obtain ⟨l1, l2, l3, l4, l5⟩ := h.lows
  have keep : ∀ b, w.heap.size ≤ b → b < X.heap.size → b ≠ w.heap.size + 2 → (Y.setCell ⟨w.heap.size + 2, 3, none⟩ gv).heap[b]? = X.heap[b]? := fun b h1 h2 h3 => (Below.heap_setCell _ _ _ _ h3).trans (hk.block b h2 (by omega))
  have hfl := heap_setCell_at (i := 3) ((hk.block _ (by omega) (by omega)).trans h.fleet) gv
  obtain ⟨cur, m1, m2, m3⟩ := h.memb
  obtain ⟨es, clock, i1, i2⟩ := h.index
  refine ⟨h.two, by rw [size_setCell]; have := hk.size; omega, by rw [hfl]; rfl, ⟨cur, (keep _ (by omega) (by omega) (by omega)).trans m1, m3⟩, ⟨es, clock, (keep _ (by omega) (by omega) (by omega)).trans i1, i2⟩, h.old, fun i hi hp => ?_, h.incr⟩
  obtain ⟨a, b⟩ := h.new i hi hp
  exact ⟨a, (keep _ (by omega) (lt_of_block b) (by omega)).trans b⟩

theorem fleet_of0 (h : NF w X mb xb I n ids pos emem mem n n) : Fleet X w.heap.size mb xb I n (.slice none 0 0) ids pos emem mem := by
  obtain ⟨cur, m1, m2, m3⟩ := h.memb
  exact ⟨h.two, h.size, h.fleet, ⟨cur, m1, m3⟩, h.index, h.old, h.new, h.incr⟩

theorem Fleet.keep (h : Fleet w N mb xb I n gv ids pos emem mem) {w' : World} (hk : Kept (fun k => k < N) w w') : Fleet w' N mb xb I n gv ids pos emem mem := by
  have hz := h.size
  obtain ⟨l1, l2, l3, l4, l5⟩ := h.two.lows
  have keep : ∀ b, N ≤ b → b < w.heap.size → w'.heap[b]? = w.heap[b]? := fun b h1 h2 => hk.block b h2 (by omega)
  obtain ⟨cur, m1, m3⟩ := h.memb
  obtain ⟨es, clock, i1, i2⟩ := h.index
  exact ⟨h.two, Nat.le_trans hz hk.size, (keep _ (by omega) (by omega)).trans h.fl, ⟨cur, (keep _ (by omega) (by omega)).trans m1, m3⟩, ⟨es, clock, (keep _ (by omega) (by omega)).trans i1, i2⟩, h.old,
    fun i hi hp => ⟨(h.new i hi hp).1, (keep _ (by have := (h.new i hi hp).1; omega) (lt_of_block (h.new i hi hp).2)).trans (h.new i hi hp).2⟩, h.incr⟩

theorem Fleet.cell (h : Fleet w N mb xb I n gv ids pos emem mem) (o : Nat) : w.cell? ⟨N + 2, o, none⟩ = (fleetC N mb xb I n gv (lockV N))[o]? := cell_of_row _ _ o _ _ _ h.fl
theorem Fleet.mcell (h : Fleet w N mb xb I n gv ids pos emem mem) (i : Nat) (hi : i < n) : w.cell? ⟨mb, i, none⟩ = some (.pointer (some ⟨mem i, 0, none⟩)) := by
  obtain ⟨cur, m1, m3⟩ := h.memb
  exact (cell_of_row _ _ i _ _ _ m1).trans (m3 i hi)

/-- A member's window is nil. -/
theorem Fleet.window (h : Fleet w N mb xb I n gv ids pos emem mem) (i : Nat) (hi : i < n) (hp : pos i < 0) : w.cell? ⟨mem i, 5, none⟩ = some (.pointer none) := cell_of_row _ _ 5 _ _ _ (h.new i hi hp).2

theorem Fleet.look (h : Fleet w N mb xb I n gv ids pos emem mem) (s : ByteArray) (q : Nat) : (Instr.lookup 73 (.map (some xb)) (.string s) true).run Yba.prog (w.drewN q) = .ok (.tuple #[.int .i64 ((look (tab ids n) s).getD 0), .bool (look (tab ids n) s).isSome]) (w.drewN q) := by
  obtain ⟨es, clock, i1, i2⟩ := h.index
  exact run_look (w := w.drewN q) Yba.underlying73 Yba.underlying9 (zero3 _) (es := es) (clock := clock) i1 i2 s

theorem Fleet.len (h : Fleet w N mb xb I n gv ids pos emem mem) (ty : TypeId) (q : Nat) : (Builtin.len_ #[73] ty #[.map (some xb)]).run Yba.prog (w.drewN q) = .ok (.int .i64 (lasts ids n n : Nat)) (w.drewN q) := by
  obtain ⟨es, clock, i1, i2⟩ := h.index
  have := run_len (P := Yba.prog) (w := w.drewN q) Yba.underlying73 (es := es) (clock := clock) i1 i2 ty
  rw [tab_length] at this
  exact this
end

/-! ### Equality -/
theorem info102 : (Yba.prog.info? 102).map (fun i => i.size) = some 11 := by kernel_rfl
theorem info92s : (Yba.prog.info? 92).isSome = true := by kernel_rfl
theorem info93s : (Yba.prog.info? 93).isSome = true := by kernel_rfl
theorem info38s : (Yba.prog.info? 38).isSome = true := by kernel_rfl
theorem comp36 : (Yba.prog.info? 36).map (fun i => i.comparable) = some true := by kernel_rfl

/-- Two members. -/
theorem eql93_other {a b : Nat} (hne : a ≠ b) {w : World} {ca cb : Array Value} {ta tb : TypeId} (ha : w.heap[a]? = some (.cells ca ta (0, 0))) (hb : w.heap[b]? = some (.cells cb tb (0, 0))) :
    (binOp BinOp.eql 93 (.pointer (some ⟨a, 0, none⟩)) (.pointer (some ⟨b, 0, none⟩))).run Yba.prog w = .ok (.bool false) w := by
  obtain ⟨j, hj, hs⟩ := Option.map_eq_some_iff.1 info102
  exact run_eql_ptr_other w (a := ⟨a, 0, none⟩) (b := ⟨b, 0, none⟩) Yba.underlying93 hj (by omega) (fun e => hne (congrArg Addr.block e)) ha hb
theorem neq93_same (a : Addr) (w : World) : (binOp BinOp.neq 93 (.pointer (some a)) (.pointer (some a))).run Yba.prog w = .ok (.bool false) w := by
  obtain ⟨j, hj, hs⟩ := Option.map_eq_some_iff.1 info102
  exact Lib.run_neq_ptr_same w a Yba.underlying93 hj
theorem neq88_same (a : Addr) (w : World) : (binOp BinOp.neq 88 (.pointer (some a)) (.pointer (some a))).run Yba.prog w = .ok (.bool false) w := by
  obtain ⟨j, hj⟩ := Option.isSome_iff_exists.mp info92s
  exact Lib.run_neq_ptr_same w a Yba.underlying88 hj
theorem neq114_same (a : Addr) (w : World) : (binOp BinOp.neq 114 (.pointer (some a)) (.pointer (some a))).run Yba.prog w = .ok (.bool false) w := by
  obtain ⟨j, hj⟩ := Option.isSome_iff_exists.mp info93s
  exact Lib.run_neq_ptr_same w a Yba.underlying114 hj
/-- Two pickers of one pointer. -/
theorem neq32_same (a : Addr) (w : World) : (binOp BinOp.neq 32 (.iface 36 (.pointer (some a))) (.iface 36 (.pointer (some a)))).run Yba.prog w = .ok (.bool false) w := by
  obtain ⟨j, hj⟩ := Option.isSome_iff_exists.mp info38s
  obtain ⟨i, hi, hc⟩ := Option.map_eq_some_iff.1 comp36
  simp only [binOp]
  simp [Op.equal, Op.maxDepth, run_equalIn_iface_ptr_same w 9998 a Yba.underlying32 Yba.underlying36 hi hc hj]
theorem neq33_nil (a : Option Addr) (n c : Nat) (w : World) : (binOp BinOp.neq 33 (.slice a n c) (.slice none 0 0)).run Yba.prog w = .ok (.bool (!a.isNone)) w := run_neq_slice_nil_any w 33 3 a n c 0 0 Yba.underlying33
theorem eql33_nil (a : Option Addr) (n c : Nat) (w : World) : (binOp BinOp.eql 33 (.slice a n c) (.slice none 0 0)).run Yba.prog w = .ok (.bool a.isNone) w := Lib.run_eql_slice_nil w 33 3 a n c 0 0 Yba.underlying33
end Go.Proofs.Ybulktog
