/-
  LawS0990CPicks: the walk where the map is made and filled.
-/
import Derived.Test.YbulktmcPicksWalks
namespace Go.Proofs.Ybulktmc.lawS0990CPicks
open Go.ChangeShapes Go.WideShapes Go.ChangeAt Go.RowKit Go.Proofs.Ybulktmc.PtrMap

theorem base_map (w : World) : Base w (((((w.alloc (.cells #[.pointer none, .slice none 0 0, .map none, .pointer none] 45)).alloc (.cells #[.pointer none, .slice none 0 0, .map none, .pointer none] 45)).alloc (.cells (setC w.heap.size) 59)).alloc (.cells (litC w.heap.size) 63)).alloc (.map #[] 0)) := (base_head w).alloc _

theorem info68' : ∃ i, Yba.prog.info? 68 = some i ∧ i.size = 4 ∧ i.comparable = true := by
  obtain ⟨i, hi, h⟩ := Option.map_eq_some_iff.1 info68
  simp only [Prod.mk.injEq] at h
  exact ⟨i, hi, h.1, h.2⟩

theorem neq70 (a : Addr) (w : World) : (binOp BinOp.neq 70 (.iface 66 (.pointer (some a))) (.iface 66 (.pointer (some a)))).run Yba.prog w = .ok (.bool false) w := by
  obtain ⟨i, hi, -, -⟩ := info68'
  obtain ⟨i66, h66, hc⟩ := Option.map_eq_some_iff.1 comp66
  exact run_neq_iface_ptr_same a Yba.underlying70 Yba.underlying66 h66 hc hi w

theorem map_head (w : World) : (((((w.alloc (.cells #[.pointer none, .slice none 0 0, .map none, .pointer none] 45)).alloc (.cells #[.pointer none, .slice none 0 0, .map none, .pointer none] 45)).alloc (.cells (setC w.heap.size) 59)).alloc (.cells (litC w.heap.size) 63)).alloc (.map #[] 0)).heap[w.heap.size + 4]? = some (.map #[] 0) := by
  have := heap_alloc_new ((((w.alloc (.cells #[.pointer none, .slice none 0 0, .map none, .pointer none] 45)).alloc (.cells #[.pointer none, .slice none 0 0, .map none, .pointer none] 45)).alloc (.cells (setC w.heap.size) 59)).alloc (.cells (litC w.heap.size) 63)) (.map #[] 0)
  simpa using this

/-- The element that 'int(p)%len(picks)' picks. -/
def pick (zs : List Int) (n j : Nat) : Nat := (zs.getD j 0 % (n : Int)).toNat

set_option maxHeartbeats 1600000 in
set_option maxRecDepth 100000 in
theorem walk_map (a2 : Option Addr) (len cap : Nat) (zs : List Int) (w : World) (hlen : len ≤ 1024) (hz : ∀ i, i < len → ∃ x, a2 = some x ∧ w.cell? (x.add i) = some (.int .u8 (zs.getD i 0))) (hbd : ∀ i, 0 ≤ zs.getD i 0 ∧ zs.getD i 0 ≤ 255) :
    Calls Yba.prog 5 #[.bool true, .bool false, .slice a2 len cap] w fun e w' => e = .returned (.bool true) ∧ Below w.heap.size w w' := by
  have hl' : ¬ (1024 : Int) < (len : Int) := by omega
  have hpn := neq32
  have hme := eqlNil
  have hmn := neqNil
  have hmk := make64 len hlen
  obtain ⟨i66, hi66, h66a, h66b, h66c⟩ := info_parts info66
  obtain ⟨i70, hi70, h70a, h70b, h70c⟩ := info_parts info70
  have hmm : ∀ (n : Int) (w : World), (Instr.makeMap 36 (some (.int .i64 n))).run Yba.prog w = .ok (.map (some w.heap.size)) (w.alloc (.map #[] 0)) := fun n w => run_makeMap_hint Yba.underlying36 .i64 n w
  go_enter Yba.func5, Yba.ntmps5
  go_wp2
  go_loopw [49] (fun i wr => ∃ k : Nat, k ≤ len ∧ i = .int .i64 k ∧ Params w wr true (w.heap.size + 1 + 1 + 1 + 1 + 1) len k) (fun i _ => len - (intOf i).toNat)
  case atStart =>
    exact ⟨0, Nat.zero_le _, rfl, params_start (by simp) (base_map w) (fun _ => by simp) (fun _ => map_head w) (by simp [row66, size_madeCells])⟩
  case round =>
    obtain ⟨k, hk, rfl, hp⟩ := hrel
    by_cases hlt : k < len
    · obtain ⟨v, hv⟩ := params_cell hp hlt
      have hc : ∀ O, (wr.alloc O).cell? ⟨w.heap.size + 1 + 1 + 1 + 1 + 1, k, none⟩ = some v := fun O => (hv O).1
      have hf : ∀ O, (wr.alloc O).frozen? ⟨w.heap.size + 1 + 1 + 1 + 1 + 1, k, none⟩ = false := fun O => (hv O).2
      clear hv
      go_wp2
      go_roundw
      case rel => exact ⟨k + 1, by omega, by go_num, params_step hp hlt _⟩
      case measure => simp [intOf]; omega
    · obtain rfl : k = len := by omega
      have hq := pairs_start (pick zs k) hp
      clear hp hlt hk
      go_wp2
      go_loopw [11, 12, 63] (fun kv vv i wr => ∃ j : Nat, j ≤ k ∧ i = .int .i64 j ∧ Pairs w wr (w.heap.size + 1 + 1 + 1 + 1 + 1) k (pick zs k) j j j kv vv) (fun _ _ i _ => k - (intOf i).toNat)
      case atStart => exact ⟨0, Nat.zero_le _, rfl, hq⟩
      case round =>
        clear hq
        obtain ⟨j, hj, rfl, hq⟩ := hrel
        by_cases hlt : j < k
        · obtain ⟨x, rfl, hx⟩ := hz j hlt
          have hb := hbd j
          obtain ⟨z, hzz⟩ : ∃ z, z = zs.getD j 0 := ⟨_, rfl⟩
          rw [← hzz] at hx hb
          obtain ⟨hb0, hb1⟩ := hb
          have hxr : wr.cell? (x.add j) = some (.int .u8 z) := (hq.base.below.cell (World.block_lt_of_cell? w _ hx)).trans hx
          have hm0 : 0 ≤ z % (k : Int) := Int.emod_nonneg _ (by omega)
          have hm1 : z % (k : Int) < (k : Int) := Int.emod_lt_of_pos _ (by omega)
          have hkpos : 0 < k := by omega
          have hpz := hq.param (z % (k : Int)).toNat (by omega)
          have hpj := hq.param j hlt
          obtain ⟨i68, hi68, hs68, -⟩ := info68'
          obtain ⟨w2, hup, hq2⟩ := pairs_map hq hlt Yba.underlying36 Yba.underlying66 hi68 (by omega)
          rw [show pick zs k j = (z % (k : Int)).toNat from by rw [pick, ← hzz]] at hup
          have HQ : Hid (Pairs w wr (w.heap.size + 1 + 1 + 1 + 1 + 1) k (pick zs k) j j j u11 u12) := hq
          have HZ : Hid (z = zs.getD j 0) := hzz
          have hpj2 := hq2.param j hlt
          clear hx hzz hi68 hq
          go_wp2_with (at_builtin; refine wpList_append_own _ rfl _ _ 64 rfl (w.heap.size + 1 + 1 + 1 + 1 + 1 + 1 + k) 66 i66 (.pointer none) 1 8 Yba.underlying64 hi66 h66a h66b h66c rfl (by decide) _ _ _ rfl (hq2.keys.alloc _) ⟨w2.heap.size, 0, none⟩ 1 1 [.pointer (some ⟨w.heap.size + 1 + 1 + 1 + 1 + 1 + 1 + j, 0, none⟩)] rfl rfl ?c1 ?c2 ?c3 ?c4 ?c5 ?_)
          case c1 => exact cell_one_new _ _ _
          case c2 => simp [Value.oneCell']
          case c3 => unfold maxLen; omega
          case c4 => omega
          case c5 => have := hq2.size; simp; omega
          intro kv' w3 hown3 hgrow3 _
          have hq3 := pairs_key (hq2.alloc _) hown3 hgrow3
          clear hown3 hgrow3 hq2
          go_wp2_with (at_builtin; refine wpList_append_own _ rfl _ _ 65 rfl (w.heap.size + 1 + 1 + 1 + 1 + 1 + 1 + k) 70 i70 .nilIface 1 16 Yba.underlying65 hi70 h70a h70b h70c rfl (by decide) _ _ _ rfl (hq3.vals.alloc _) ⟨w3.heap.size, 0, none⟩ 1 1 [.iface 66 (.pointer (some ⟨w.heap.size + 1 + 1 + 1 + 1 + 1 + 1 + (z % (k : Int)).toNat, 0, none⟩))] rfl rfl ?d1 ?d2 ?d3 ?d4 ?d5 ?_)
          case d1 => exact cell_one_new _ _ _
          case d2 => simp [Value.oneCell']
          case d3 => unfold maxLen; omega
          case d4 => omega
          case d5 => have := hq3.size; simp; omega
          intro vv' w4 hown4 hgrow4 _
          rw [show (z % (k : Int)).toNat = pick zs k j from by rw [pick, ← HZ.out]] at hown4
          have hq4 := pairs_val (hq3.alloc _) hown4 hgrow4
          clear hown4 hgrow4 hq3
          go_wp2
          go_roundw
          case rel => exact ⟨j + 1, by omega, by go_num, hq4⟩
          case measure => simp [intOf]; omega
        · obtain rfl : j = k := by omega
          clear hlt hj
          obtain ⟨ko, kc, hkv, hkc⟩ := own_slice hq.keys
          obtain ⟨vo, vc, hvv, hvc⟩ := own_slice hq.vals
          clear hkc hvc
          subst hkv hvv
          go_wp2_with fail
          have hqa := (hq.alloc (.cells #[.pointer none, .pointer none, .pointer (some ⟨w.heap.size + 1, 0, none⟩), .pointer none, .pointer none, .pointer none, .pointer none, .pointer none, .pointer none, .pointer none, .bool false] 59)).alloc (.cells #[.pointer (some ⟨wr.heap.size, 0, none⟩), .pointer (some ⟨w.heap.size + 1 + 1 + 1, 0, none⟩), .map (some (w.heap.size + 1 + 1 + 1 + 1)), .slice none 0 0, .slice none 0 0] 63)
          obtain ⟨q0, s0, s1, s2⟩ := hqa.base.cells
          refine (ms_inst _ (w.heap.size + 1 + 1 + 1) (w.heap.size + 1 + 1) (some ⟨w.heap.size, 0, none⟩) (some (w.heap.size + 1 + 1 + 1 + 1)) _ ?_ ?_ q0 s0 s1 s2).mono ?_
          · simp [go_sem]
          · simp [go_sem]
          rintro e w1 ⟨rfl, hw1⟩
          have hq1 : Pairs w w1 (w.heap.size + 1 + 1 + 1 + 1 + 1) j (pick zs j) j j j (.slice ko j kc) (.slice vo j vc) := by rw [hw1]; exact (hqa.alloc _).drew
          clear q0 s0 s1 s2 hqa hq hw1
          unfold msCells
          obtain ⟨i68, hi68, hs68, -⟩ := info68'
          have hln : ∀ O ty, (Builtin.len_ #[36] ty #[.map (some (w.heap.size + 1 + 1 + 1 + 1))]).run Yba.prog (w1.alloc O) = .ok (.int .i64 j) (w1.alloc O) := fun O ty => pairs_len (hq1.alloc O) Yba.underlying36 ty
          have HLK : Hid (∀ i, i < j → ∀ O, (Instr.lookup 36 (.map (some (w.heap.size + 1 + 1 + 1 + 1))) (.pointer (some ⟨w.heap.size + 1 + 1 + 1 + 1 + 1 + 1 + i, 0, none⟩)) true).run Yba.prog (w1.alloc O) = .ok (.tuple #[.iface 66 (.pointer (some ⟨w.heap.size + 1 + 1 + 1 + 1 + 1 + 1 + pick zs j i, 0, none⟩)), .bool true]) (w1.alloc O)) :=
            fun i hi O => pairs_look (hq1.alloc O) (Nat.le_refl _) Yba.underlying36 Yba.underlying66 hi68 (by omega) i hi
          clear hi68
          have hni := neq70
          go_wp2
          go_loop [152] (fun i => ∃ k : Nat, k ≤ j ∧ i = .int .i64 k) (fun i => j - (intOf i).toNat)
          case atStart => exact ⟨0, Nat.zero_le _, rfl⟩
          case round =>
            obtain ⟨i, hij, rfl⟩ := hrel
            by_cases hlt : i < j
            · have hl := HLK.out i hlt
              obtain ⟨_, _, he, hk⟩ := own_slice hq1.keys
              obtain ⟨rfl, rfl⟩ : _ ∧ _ := by simpa using he
              obtain ⟨g, rfl, hkc⟩ := hk i hlt
              obtain ⟨_, _, he, hv⟩ := own_slice hq1.vals
              obtain ⟨rfl, rfl⟩ : _ ∧ _ := by simpa using he
              obtain ⟨g', rfl, hvc⟩ := hv i hlt
              have hk' : ∀ O, (w1.alloc O).cell? ⟨g, i, none⟩ = some (.pointer (some ⟨w.heap.size + 1 + 1 + 1 + 1 + 1 + 1 + i, 0, none⟩)) := fun O => cell_alloc (hkc.trans (by simp [keysL, hlt, ptr])) O
              have hv' : ∀ O, (w1.alloc O).cell? ⟨g', i, none⟩ = some (.iface 66 (.pointer (some ⟨w.heap.size + 1 + 1 + 1 + 1 + 1 + 1 + pick zs j i, 0, none⟩))) := fun O => cell_alloc (hvc.trans (by simp [valsL, hlt, ptr])) O
              clear hk hv hkc hvc
              go_wp2
              go_round
              case rel => exact ⟨i + 1, by omega, by go_num⟩
              case measure => simp [intOf]; omega
            · go_wp2
              go_ret
              exact ⟨rfl, hq1.base.below.alloc (by have := hq1.base.size; omega) _⟩
end Go.Proofs.Ybulktmc.lawS0990CPicks
