/-
  LawS0994CFirst: the walk for lists of at most 1024 IDs.
-/
import Derived.Test.YbulktogFirst
namespace Go.Proofs.Ybulktog.lawS0994CFirst
open Go.ChangeShapes Go.WideShapes Go.ChangeAt Go.RowKit

theorem lasts_step_hit {ids : Nat → ByteArray} {n k : Nat} (h : lastIn ids (ids k) n = (k : Int)) : lasts ids n (k + 1) = lasts ids n k + 1 := by simp [lasts, h]
theorem lasts_step_miss {ids : Nat → ByteArray} {n k : Nat} (h : lastIn ids (ids k) n ≠ (k : Int)) : lasts ids n (k + 1) = lasts ids n k := by simp [lasts, h]

set_option maxHeartbeats 4000000 in
set_option maxRecDepth 100000 in
theorem walk_short (a : Option Addr) (n cap : Nat) (ids : Nat → ByteArray) (w : World) (hn : n ≤ 1024) (hid : ∀ i, i < n → ∃ x, a = some x ∧ w.cell? (x.add i) = some (.string (ids i))) :
    Calls Yba.prog 3 #[.slice a n cap] w fun e w' => e = .returned (.bool true) ∧ Below w.heap.size w w' := by
  have hl' : ¬ (1024 : Int) < (n : Int) := by omega
  go_enter Yba.func3, Yba.ntmps3
  go_wp2_with fail
  refine (insts_any a n cap ids w hn hid).mono ?_
  rintro e w1 ⟨rfl, hin⟩
  have hs1 := hin.size
  go_wp2_with fail
  obtain ⟨w4, hw4⟩ : ∃ w4, w4 = (((w1.alloc (Obj.cells #[Value.slice none 0 0] 25)).alloc (Obj.cells #[Value.slice none 0 0] 26)).alloc (Obj.cells #[Value.string { data := #[] }, Value.pointer none, Value.int IntKind.i32 0, Value.int IntKind.u32 0,
        Value.int IntKind.u64 0, Value.int IntKind.i64 0, Value.int IntKind.i32 0, Value.int IntKind.u32 0,
        Value.int IntKind.u64 0, Value.bool false, Value.pointer none, Value.slice none 0 0, Value.int IntKind.u64 0,
        Value.bool false, Value.int IntKind.u64 0, Value.int IntKind.u32 0,
        Value.func (Fn.func 6) #[] #[Value.pointer (some { block := w.heap.size + 1, off := 0 }), Value.pointer (some { block := w.heap.size + 1 + 1, off := 0 })],
        Value.bool false, Value.pointer none, Value.nilIface, Value.int IntKind.i64 0, Value.int IntKind.i64 0,
        Value.pointer none, Value.pointer none, Value.string { data := #[] }, Value.string { data := #[] },
        Value.string { data := #[] }, Value.int IntKind.i64 0] 71)) := ⟨_, rfl⟩
  have HW : Hid (w4.heap.size = w.heap.size + 4 ∧ Below w.heap.size w w4 ∧ (∀ i, i < n → w4.cell? ⟨w.heap.size, i * 4, none⟩ = some (.string (ids i))) ∧ w4.heap[w.heap.size + 1]? = some (.cells #[.slice none 0 0] 25 (0, 0)) ∧ w4.heap[w.heap.size + 1 + 1]? = some (.cells #[.slice none 0 0] 26 (0, 0)) ∧
      w4.cell? ⟨w.heap.size + 1 + 1 + 1, 16, none⟩ = some (.func (.func 6) #[] #[.pointer (some ⟨w.heap.size + 1, 0, none⟩), .pointer (some ⟨w.heap.size + 1 + 1, 0, none⟩)]) ∧ w4.cell? ⟨w.heap.size + 1 + 1 + 1, 18, none⟩ = some (.pointer none) ∧ w4.cell? ⟨w.heap.size + 1 + 1 + 1, 22, none⟩ = some (.pointer none) ∧ w4.cell? ⟨w.heap.size + 1 + 1 + 1, 25, none⟩ = some (.string ⟨#[]⟩) ∧ w4.cell? ⟨w.heap.size + 1 + 1 + 1, 26, none⟩ = some (.string ⟨#[]⟩)) := by
    subst hw4
    have e1 := heap_alloc_new w1 (.cells #[.slice none 0 0] 25)
    have e2 := heap_alloc_new (w1.alloc (.cells #[.slice none 0 0] 25)) (.cells #[.slice none 0 0] 26)
    simp only [size_alloc, hs1] at e1 e2
    obtain ⟨cur, r1, r2, r3⟩ := hin.row
    refine ⟨by simp only [size_alloc, hs1], ((hin.below.alloc (by omega) _).alloc (by simp only [size_alloc]; omega) _).alloc (by simp only [size_alloc]; omega) _, fun i hi => ?_, ?_, ?_, ?_, ?_, ?_, ?_, ?_⟩
    · rw [← r3 i hi, ← cell_of_row _ _ (i * 4) _ _ _ r1]
      exact World.cell?_of_block (w := w1) ((Below.heap_alloc _ _ w.heap.size (by simp only [size_alloc]; omega)).trans ((Below.heap_alloc _ _ w.heap.size (by simp only [size_alloc]; omega)).trans (Below.heap_alloc _ _ _ (show w.heap.size < w1.heap.size by omega))))
    · exact (Below.heap_alloc _ _ _ (by simp only [size_alloc]; omega)).trans ((Below.heap_alloc _ _ _ (by simp only [size_alloc]; omega)).trans e1)
    · exact (Below.heap_alloc _ _ _ (by simp only [size_alloc]; omega)).trans e2
    all_goals
      refine (World.cell?_alloc_at _ _ _ _ (by simp only [size_alloc, hs1])).trans ?_
      rfl
  rw [← hw4]
  clear hw4 hin hs1
  obtain ⟨hsz, hb4, hid4, hL4, hD4, b16, b18, b22, b25, b26⟩ := HW.out
  refine (fleetA w4 (w.heap.size + 1 + 1 + 1) w.heap.size (w.heap.size + 1) (w.heap.size + 1 + 1) n ⟨#[]⟩ ids hn b16 b18 b22 b25 b26 hid4 hL4 hD4).mono ?_
  rintro e w5 ⟨rfl, mb, xb, mem, gv, hfl, hk5, hend⟩
  have hb5 : Below w.heap.size w w5 := hb4.trans (hk5.below (by omega) (fun k hk => by omega))
  have hid5 : ∀ i, i < n → ∃ x, a = some x ∧ w5.cell? (x.add i) = some (.string (ids i)) := fun i hi => by
    obtain ⟨x, hx, hc⟩ := hid i hi
    exact ⟨x, hx, (hb5.cell (World.block_lt_of_cell? w _ hc)).trans hc⟩
  have f0 : w5.cell? ⟨w4.heap.size + 2, 0, none⟩ = some (.slice (some ⟨w.heap.size, 0, none⟩) n n) := hfl.cell 0
  have f1 : w5.cell? ⟨w4.heap.size + 2, 1, none⟩ = some (.slice (some ⟨mb, 0, none⟩) n n) := hfl.cell 1
  have f2 : w5.cell? ⟨w4.heap.size + 2, 2, none⟩ = some (.map (some xb)) := hfl.cell 2
  have f3 : w5.cell? ⟨w4.heap.size + 2, 3, none⟩ = some gv := hfl.cell 3
  have hn88 := neq88_same
  have hln := hfl.len
  clear HW hsz hb4 hid4 hL4 hD4 b16 b18 b22 b25 b26 hk5 hid
  rcases hend with ⟨rfl, rfl, hL⟩ | ⟨hn0, gb, gc, pk, lg, lc, dg, dc, rfl, hE⟩
  · have hln0 : ∀ ty q, (Builtin.len_ #[73] ty #[.map (some xb)]).run Yba.prog (w5.drewN q) = .ok (.int .i64 0) (w5.drewN q) := fun ty q => hln ty q
    have hl0 := hln0 3 0
    clear hln
    go_wp2
    go_quiet (fail)
    go_wp2
    refine wp_loop_rounds 1 ?_
    rw [rounds_succ]
    go_wp2
    go_ret
    exact ⟨rfl, below_drewN hb5 _⟩
  · have hp0 : (0 : Int) < (n : Int) := by omega
    have hn93 := neq93_same
    have hmm := hfl.mcell
    have hlk := hfl.look
    have heq : ∀ i j, i < j → j < n → ∀ q, (binOp BinOp.eql 93 (.pointer (some ⟨mem i, 0, none⟩)) (.pointer (some ⟨mem j, 0, none⟩))).run Yba.prog (w5.drewN q) = .ok (.bool false) (w5.drewN q) := fun i j hij hj q =>
      eql93_other (by have := hfl.incr i j hij hj (by simp) (by simp); omega) (w := w5.drewN q) (hfl.new i (by omega) (by simp)).2 (hfl.new j hj (by simp)).2
    have hwin : ∀ i, i < n → w5.cell? ⟨mem i, 5, none⟩ = some (.pointer none) := fun i hi => hfl.window i hi (by simp)
    have HF : Hid (Fleet w5 w4.heap.size mb xb w.heap.size n (.slice (some ⟨gb, 0, none⟩) 1 gc) ids (fun _ => -1) (fun _ => 0) mem) := hfl
    have HEQ : Hid (∀ i j, i < j → j < n → ∀ q, (binOp BinOp.eql 93 (.pointer (some ⟨mem i, 0, none⟩)) (.pointer (some ⟨mem j, 0, none⟩))).run Yba.prog (w5.drewN q) = .ok (.bool false) (w5.drewN q)) := heq
    have HMM : Hid (∀ i, i < n → w5.cell? ⟨mb, i, none⟩ = some (.pointer (some ⟨mem i, 0, none⟩))) := hmm
    have HLK : Hid (∀ s q, (Instr.lookup 73 (.map (some xb)) (.string s) true).run Yba.prog (w5.drewN q) = .ok (.tuple #[.int .i64 ((look (tab ids n) s).getD 0), .bool (look (tab ids n) s).isSome]) (w5.drewN q)) := hlk
    have HLN : Hid (∀ ty q, (Builtin.len_ #[73] ty #[.map (some xb)]).run Yba.prog (w5.drewN q) = .ok (.int .i64 (lasts ids n n : Nat)) (w5.drewN q)) := hln
    have HWI : Hid (∀ i, i < n → w5.cell? ⟨mem i, 5, none⟩ = some (.pointer none)) := hwin
    have HE : Hid (EndA w5 (w.heap.size + 1) (w.heap.size + 1 + 1) w.heap.size n mb gb pk lg lc dg dc) := hE
    clear hfl heq hmm hlk hln hwin hE
    go_wp2
    go_quiet (fail)
    go_wp2
    go_loopw [8, 64] (fun d i wr => ∃ k q : Nat, k ≤ n ∧ i = .int .i64 k ∧ d = .int .i64 (lasts ids n k : Nat) ∧ wr = w5.drewN q) (fun _ i _ => n - (intOf i).toNat)
    case atStart => exact ⟨0, _, Nat.zero_le _, rfl, rfl, rfl⟩
    case round =>
      obtain ⟨k, q, hk, rfl, rfl, rfl⟩ := hrel
      by_cases hlt : k < n
      · have m1 := HMM.out k hlt
        have m2 := HWI.out k hlt
        have hlb := lasts_le ids n k
        go_wp2
        go_loopw [10] (fun j wr => ∃ m q' : Nat, m ≤ k ∧ j = .int .i64 m ∧ wr = w5.drewN q') (fun j _ => k - (intOf j).toNat)
        case atStart => exact ⟨0, q, Nat.zero_le _, rfl, rfl⟩
        case round =>
          obtain ⟨m, q', hm, rfl, rfl⟩ := hrel
          by_cases hml : m < k
          · have m3 := HMM.out m (by omega)
            have he := HEQ.out m k hml hlt
            go_wp2
            go_quiet (fail)
            go_wp2
            go_roundw
            case rel => exact ⟨m + 1, _, by omega, by go_num, rfl⟩
            case measure => simp [intOf]; omega
          · obtain ⟨x, rfl, hx⟩ := hid5 k hlt
            have hlk : ∀ q, (Instr.lookup 73 (.map (some xb)) (.string (ids k)) true).run Yba.prog (w5.drewN q) = .ok (.tuple #[.int .i64 (lastIn ids (ids k) n), .bool true]) (w5.drewN q) := fun q => by
              have h := HLK.out (ids k) q
              have h0 := lastIn_mem ids n k hlt
              rw [look_tab, if_pos h0] at h
              simp only [Option.getD_some, Option.isSome_some] at h
              rw [show (((lastIn ids (ids k) n).toNat : Nat) : Int) = lastIn ids (ids k) n from by omega] at h
              exact h
            by_cases hh : lastIn ids (ids k) n = (k : Int)
            · have hb : (lastIn ids (ids k) n == (k : Int)) = true := by simpa using hh
              have HH : Hid (lastIn ids (ids k) n = (k : Int)) := hh
              clear hh
              go_wp2
              go_quiet (fail)
              go_wp2_with (go_at_call 8; refine (last_any (some x) n cap ids (ids k) _ hn (by exact hid5)).mono ?_; rintro e w' ⟨rfl, rfl⟩)
              go_roundw
              case rel => exact ⟨k + 1, _, by omega, by go_num, by rw [lasts_step_hit HH.out]; go_num, rfl⟩
              case measure => simp [intOf]; omega
            · have hb : (lastIn ids (ids k) n == (k : Int)) = false := by simpa using hh
              have HH : Hid (lastIn ids (ids k) n ≠ (k : Int)) := hh
              clear hh
              go_wp2
              go_quiet (fail)
              go_wp2_with (go_at_call 8; refine (last_any (some x) n cap ids (ids k) _ hn (by exact hid5)).mono ?_; rintro e w' ⟨rfl, rfl⟩)
              go_roundw
              case rel => exact ⟨k + 1, _, by omega, by go_num, by rw [lasts_step_miss HH.out], rfl⟩
              case measure => simp [intOf]; omega
      · obtain rfl : k = n := by omega
        have hln := HLN.out
        obtain ⟨g0, g1, g2, L, l0, l1, l2, l3, l4, l5, D, d0⟩ := HE.out
        have f1a := cell_alloc f1
        have hn32 := neq32_same
        have hn33 := neq33_nil
        have hn107 := neq107
        have hn114 := neq114_same
        go_wp2
        go_quiet (fail)
        obtain ⟨w6, hw6⟩ : ∃ w6, w6 = (w5.drewN q).drewN nq := ⟨_, rfl⟩
        have E6 : EndA w6 (w.heap.size + 1) (w.heap.size + 1 + 1) w.heap.size k mb gb pk lg lc dg dc := by rw [hw6]; exact ⟨g0, g1, g2, L, l0, l1, l2, l3, l4, l5, D, d0⟩
        have f16 : w6.cell? ⟨w4.heap.size + 2, 1, none⟩ = some (.slice (some ⟨mb, 0, none⟩) k k) := by rw [hw6]; exact f1
        have hb6 : Below w.heap.size w w6 := by rw [hw6]; exact below_drewN (below_drewN hb5 _) _
        rw [← hw6]
        clear hw6 g0 g1 g2 L l0 l1 l2 l3 l4 l5 D d0 f1 f1a f0 f2 f3 hln hb5
        obtain ⟨-, -, -, L, l0, l1, l2, l3, l4, l5, D, d0⟩ := E6
        have f1a := cell_alloc f16
        go_wp2
        go_quiet (fail)
        go_wp2
        go_quiet (fail)
        go_wp2
        go_ret
        exact ⟨rfl, below_drewN (hb6.alloc hb6.size _) _⟩
end Go.Proofs.Ybulktog.lawS0994CFirst
