/-
  newFleet: its walk, without and over an earlier fleet.
-/
import Derived.Test.YbulktogFleet
namespace Go.Proofs.Ybulktog
open Go.ChangeShapes Go.WideShapes Go.ChangeAt Go.RowKit

/-- An empty list: nothing follows; else A. -/
def Ended (n : Nat) (w' X : World) (A : Prop) : Prop := (n = 0 ∧ w' = X) ∨ (0 < n ∧ A)

theorem zero3 (w : World) : (zeroValue 3).run Yba.prog w = .ok (.int .i64 0) w := by
  obtain ⟨i0, hi, hz0, _, _⟩ := info_parts info3
  simp [zeroValue, typeInfo, hi, hz0]

set_option maxHeartbeats 1600000 in
set_option maxRecDepth 100000 in
theorem newFleet_nil (bb ii n : Nat) (ids : Nat → ByteArray) (w : World) (hn' : n ≤ 1024)
    (b22 : w.cell? ⟨bb, 22, none⟩ = some (.pointer none)) (hid : ∀ i, i < n → w.cell? ⟨ii, i * 4, none⟩ = some (.string (ids i)))
    (Q : Nat → Nat → (Nat → Nat) → World → Nat → Nat → World → Prop)
    (hgr : ∀ mb xb mem X, 0 < n → NF w X mb xb ii n ids (fun _ => -1) (fun _ => 0) mem n n → Calls Yba.prog 11 #[.pointer (some ⟨bb, 0, none⟩), .pointer (some ⟨w.heap.size + 2, 0, none⟩), .pointer none, .slice (some ⟨w.heap.size + 3, 0, none⟩) n n] X fun e w' =>
      ∃ gb gc, e = .returned (.slice (some ⟨gb, 0, none⟩) 1 gc) ∧ Q mb xb mem X gb gc w' ∧ Kept (fun k => k < w.heap.size) X w') :
    Calls Yba.prog 7 #[.pointer (some ⟨bb, 0, none⟩), .slice (some ⟨ii, 0, none⟩) n n, .pointer none] w fun e w' => e = .returned (.pointer (some ⟨w.heap.size + 2, 0, none⟩)) ∧
      ∃ mb xb mem X, NF w X mb xb ii n ids (fun _ => -1) (fun _ => 0) mem n n ∧ Ended n w' X (∃ gb gc Y, Q mb xb mem X gb gc Y ∧ Kept (fun k => k < w.heap.size) X Y ∧ w' = Y.setCell ⟨w.heap.size + 2, 3, none⟩ (.slice (some ⟨gb, 0, none⟩) 1 gc)) := by
  have hmk := make28 n hn'
  have hmk' := make33 n hn'
  have hmm : ∀ (n : Int) (w : World), (Instr.makeMap 73 (some (.int .i64 n))).run Yba.prog w = .ok (.map (some w.heap.size)) (w.alloc (.map #[] 0)) := fun n w => run_makeMap_hint Yba.underlying73 .i64 n w
  go_enter Yba.func7, Yba.ntmps7
  go_wp2_with fail
  go_cut [7] from 14 to 22 (fun f wx => f = .pointer (some ⟨w.heap.size + 2, 0, none⟩) ∧ ∃ mb xb, F0 w wx mb xb ii n)
  case first =>
    go_region
    all_goals (try go_wp2_with fail)
    all_goals go_meet
    · exact ⟨rfl, _, _, f0_row w ii n⟩
    · exact ⟨rfl, _, _, f0_map w ii n⟩
  case rest =>
    obtain ⟨rfl, mb, xb, hf0⟩ := hcut
    have c8 : wc.cell? ⟨w.heap.size + 2, 8, none⟩ = some .nilIface := cell_of_row _ _ 8 _ _ _ hf0.fleet
    have f8 : wc.frozen? ⟨w.heap.size + 2, 8, none⟩ = false := by simp [World.frozen?, hf0.fleet]
    have hs8 : wc.heap.size = w.heap.size + 3 := hf0.size
    go_wp2
    go_loopw [42] (fun i wr => ∃ (k : Nat) (mem : Nat → Nat), k ≤ n ∧ i = .int .i64 k ∧ NF w wr mb xb ii n ids (fun _ => -1) (fun _ => 0) mem k k) (fun i _ => n - (intOf i).toNat)
    case atStart => exact ⟨0, fun _ => 0, Nat.zero_le _, rfl, nf_start hf0 _ _ _ _⟩
    case round =>
      clear c8 f8 hs8 hf0
      obtain ⟨k, mem, hk, rfl, hnf⟩ := hrel
      by_cases hlt : k < n
      · have hidk : wr.cell? ⟨ii, k * 4, none⟩ = some (.string (ids k)) := (hnf.below.cell (World.block_lt_of_cell? w _ (hid k hlt))).trans (hid k hlt)
        have c2 : wr.cell? ⟨w.heap.size + 2, 2, none⟩ = some (.map (some xb)) := hnf.fcell 2
        obtain ⟨w2, hup, hnf2⟩ := nf_index hnf Yba.underlying73 Yba.underlying9
        have hlk : (Instr.lookup 73 (.map none) (.string (ids k)) true).run Yba.prog w2 = .ok (.tuple #[.int .i64 0, .bool false]) w2 := run_look_nil Yba.underlying73 Yba.underlying9 (zero3 w2) (ids k)
        have c1 : w2.cell? ⟨w.heap.size + 2, 1, none⟩ = some (.slice (some ⟨mb, 0, none⟩) n n) := hnf2.fcell 1
        have hb22 : w2.cell? ⟨bb, 22, none⟩ = some (.pointer none) := (hnf2.below.cell (World.block_lt_of_cell? w _ b22)).trans b22
        have hnf3 := hnf2.alloc (.cells memC 102)
        have c1' : (w2.alloc (.cells memC 102)).cell? ⟨w.heap.size + 2, 1, none⟩ = some (.slice (some ⟨mb, 0, none⟩) n n) := hnf3.fcell 1
        obtain ⟨⟨v1, s1⟩, fz1⟩ := hnf3.slots hlt
        obtain ⟨v2, s2⟩ := hnf3.xi.some hlt
        have fz2 := hnf3.xi.free k
        have s2' := cell_set s2 (a := ⟨mb, k, none⟩) (show w.heap.size + 3 ≠ mb by have := hnf3.lows; omega)
        have fz2' : ∀ u, ((w2.alloc (.cells memC 102)).setCell ⟨mb, k, none⟩ u).frozen? ⟨w.heap.size + 3, k, none⟩ = false := fun u => (World.frozen?_setCell _ _ _ _).trans fz2
        have hz2 := hnf2.size
        go_wp2_with fail
        go_region_with (go_at_call 10; refine (newMember_any _).mono ?_; rintro e w' ⟨rfl, rfl⟩)
        all_goals
          go_wp2
          go_roundw
          case rel => exact ⟨k + 1, fun i => if i = k then w2.heap.size else mem i, by omega, by go_num, (nf_step hnf3 hlt w2.heap.size (fun h => absurd h (by simp)) (fun _ => ⟨hz2, heap_alloc_new _ _, fun i hi hp => lt_of_block ((hnf2.new i hi hp).2)⟩)).drew 1⟩
          case measure => simp [intOf]; omega
      · obtain rfl : k = n := by omega
        by_cases hk0 : k = 0
        · subst hk0
          go_wp2
          go_ret
          exact ⟨rfl, mb, xb, mem, wr, hnf, .inl ⟨rfl, rfl⟩⟩
        · have hkp : 0 < k := by omega
          go_wp2_with fail
          refine (hgr mb xb mem wr hkp hnf).mono ?_
          rintro e Y ⟨gb, gc, rfl, hQ, hK⟩
          have hfl : Y.heap[w.heap.size + 2]? = some (.cells (fleetC w.heap.size mb xb ii k (.slice none 0 0) (lockV w.heap.size)) 87 (0, 0)) := (hK.block _ (by have := hnf.size; omega) (by omega)).trans hnf.fleet
          have c3 : Y.cell? ⟨w.heap.size + 2, 3, none⟩ = some (.slice none 0 0) := cell_of_row _ _ 3 _ _ _ hfl
          have f3 : Y.frozen? ⟨w.heap.size + 2, 3, none⟩ = false := by simp [World.frozen?, hfl]
          clear hfl
          go_wp2
          go_ret
          exact ⟨rfl, mb, xb, mem, wr, hnf, .inr ⟨hkp, gb, gc, Y, hQ, hK, rfl⟩⟩

set_option maxHeartbeats 1600000 in
set_option maxRecDepth 100000 in
theorem newFleet_some (bb ii n eb emb exb en : Nat) (ids eids : Nat → ByteArray) (emem : Nat → Nat) (w : World) (hn' : n ≤ 1024)
    (b22 : w.cell? ⟨bb, 22, none⟩ = some (.pointer none)) (hid : ∀ i, i < n → w.cell? ⟨ii, i * 4, none⟩ = some (.string (ids i)))
    (e1 : w.cell? ⟨eb, 1, none⟩ = some (.slice (some ⟨emb, 0, none⟩) en en)) (e2 : w.cell? ⟨eb, 2, none⟩ = some (.map (some exb))) (hem : ∀ j, j < en → w.cell? ⟨emb, j, none⟩ = some (.pointer (some ⟨emem j, 0, none⟩)))
    (hex : ∃ es clock, w.heap[exb]? = some (.map es clock) ∧ Ents es.toList (tab eids en))
    (Q : Nat → Nat → (Nat → Nat) → World → Nat → Nat → World → Prop)
    (hgr : ∀ mb xb mem X, 0 < n → NF w X mb xb ii n ids (fun i => lastIn eids (ids i) en) emem mem n n → Calls Yba.prog 11 #[.pointer (some ⟨bb, 0, none⟩), .pointer (some ⟨w.heap.size + 2, 0, none⟩), .pointer (some ⟨eb, 0, none⟩), .slice (some ⟨w.heap.size + 3, 0, none⟩) n n] X fun e w' =>
      ∃ gb gc, e = .returned (.slice (some ⟨gb, 0, none⟩) 1 gc) ∧ Q mb xb mem X gb gc w' ∧ Kept (fun k => k < w.heap.size) X w') :
    Calls Yba.prog 7 #[.pointer (some ⟨bb, 0, none⟩), .slice (some ⟨ii, 0, none⟩) n n, .pointer (some ⟨eb, 0, none⟩)] w fun e w' => e = .returned (.pointer (some ⟨w.heap.size + 2, 0, none⟩)) ∧
      ∃ mb xb mem X, NF w X mb xb ii n ids (fun i => lastIn eids (ids i) en) emem mem n n ∧ Ended n w' X (∃ gb gc Y, Q mb xb mem X gb gc Y ∧ Kept (fun k => k < w.heap.size) X Y ∧ w' = Y.setCell ⟨w.heap.size + 2, 3, none⟩ (.slice (some ⟨gb, 0, none⟩) 1 gc)) := by
  have hmk := make28 n hn'
  have hmk' := make33 n hn'
  have hmm : ∀ (n : Int) (w : World), (Instr.makeMap 73 (some (.int .i64 n))).run Yba.prog w = .ok (.map (some w.heap.size)) (w.alloc (.map #[] 0)) := fun n w => run_makeMap_hint Yba.underlying73 .i64 n w
  go_enter Yba.func7, Yba.ntmps7
  go_wp2_with fail
  go_cut [7] from 14 to 22 (fun f wx => f = .pointer (some ⟨w.heap.size + 2, 0, none⟩) ∧ ∃ mb xb, F0 w wx mb xb ii n)
  case first =>
    go_region
    all_goals (try go_wp2_with fail)
    all_goals go_meet
    · exact ⟨rfl, _, _, f0_row w ii n⟩
    · exact ⟨rfl, _, _, f0_map w ii n⟩
  case rest =>
    obtain ⟨rfl, mb, xb, hf0⟩ := hcut
    have e2' : wc.cell? ⟨eb, 2, none⟩ = some (.map (some exb)) := (hf0.below.cell (World.block_lt_of_cell? w _ e2)).trans e2
    have hebN : eb < w.heap.size := World.block_lt_of_cell? w _ e2
    have e2s := cell_set e2' (a := ⟨w.heap.size + 2, 8, none⟩) (show eb ≠ w.heap.size + 2 by omega)
    have e2a : ∀ u o, ((wc.setCell ⟨w.heap.size + 2, 8, none⟩ u).alloc o).cell? ⟨eb, 2, none⟩ = some (.map (some exb)) := fun u o => cell_alloc (e2s u) o
    have c8 : wc.cell? ⟨w.heap.size + 2, 8, none⟩ = some .nilIface := cell_of_row _ _ 8 _ _ _ hf0.fleet
    have f8 : wc.frozen? ⟨w.heap.size + 2, 8, none⟩ = false := by simp [World.frozen?, hf0.fleet]
    have hs8 : wc.heap.size = w.heap.size + 3 := hf0.size
    go_wp2
    go_loopw [42] (fun i wr => ∃ (k : Nat) (mem : Nat → Nat), k ≤ n ∧ i = .int .i64 k ∧ NF w wr mb xb ii n ids (fun i => lastIn eids (ids i) en) emem mem k k) (fun i _ => n - (intOf i).toNat)
    case atStart => exact ⟨0, fun _ => 0, Nat.zero_le _, rfl, nf_start hf0 _ _ _ _⟩
    case round =>
      clear c8 f8 hs8 hf0 e2' e2s e2a
      obtain ⟨k, mem, hk, rfl, hnf⟩ := hrel
      by_cases hlt : k < n
      · have hidk : wr.cell? ⟨ii, k * 4, none⟩ = some (.string (ids k)) := (hnf.below.cell (World.block_lt_of_cell? w _ (hid k hlt))).trans (hid k hlt)
        have c2 : wr.cell? ⟨w.heap.size + 2, 2, none⟩ = some (.map (some xb)) := hnf.fcell 2
        obtain ⟨w2, hup, hnf2⟩ := nf_index hnf Yba.underlying73 Yba.underlying9
        have hlk : (Instr.lookup 73 (.map (some exb)) (.string (ids k)) true).run Yba.prog w2 = .ok (.tuple #[.int .i64 ((look (tab eids en) (ids k)).getD 0), .bool (look (tab eids en) (ids k)).isSome]) w2 := by
          obtain ⟨es, clock, x1, x2⟩ := hex
          exact run_look Yba.underlying73 Yba.underlying9 (zero3 w2) ((hnf2.below.block _ (lt_of_block x1)).trans x1) x2 (ids k)
        rw [look_tab] at hlk
        obtain ⟨pj, hpj⟩ : ∃ pj, pj = lastIn eids (ids k) en := ⟨_, rfl⟩
        have hpl := lastIn_lt eids (ids k) en
        rw [← hpj] at hlk hpl
        have HP : Hid (pj = lastIn eids (ids k) en) := hpj
        clear hpj
        have c1 : w2.cell? ⟨w.heap.size + 2, 1, none⟩ = some (.slice (some ⟨mb, 0, none⟩) n n) := hnf2.fcell 1
        have hb22 : w2.cell? ⟨bb, 22, none⟩ = some (.pointer none) := (hnf2.below.cell (World.block_lt_of_cell? w _ b22)).trans b22
        by_cases hpp : 0 ≤ pj
        · rw [if_pos hpp] at hlk
          simp only [Option.getD_some, Option.isSome_some] at hlk
          rw [show ((pj.toNat : Nat) : Int) = pj from by omega] at hlk
          have hpl' := hpl hpp
          have hpl2 : pj < (en : Int) := by omega
          have he1 : w2.cell? ⟨eb, 1, none⟩ = some (.slice (some ⟨emb, 0, none⟩) en en) := (hnf2.below.cell (World.block_lt_of_cell? w _ e1)).trans e1
          have hem' : w2.cell? ⟨emb, pj.toNat, none⟩ = some (.pointer (some ⟨emem pj.toNat, 0, none⟩)) := (hnf2.below.cell (World.block_lt_of_cell? w _ (hem pj.toNat hpl'))).trans (hem pj.toNat hpl')
          obtain ⟨⟨v1, s1⟩, fz1⟩ := hnf2.slots hlt
          obtain ⟨v2, s2⟩ := hnf2.xi.some hlt
          have fz2 := hnf2.xi.free k
          have s2' := cell_set s2 (a := ⟨mb, k, none⟩) (show w.heap.size + 3 ≠ mb by have := hnf2.lows; omega)
          have fz2' : ∀ u, (w2.setCell ⟨mb, k, none⟩ u).frozen? ⟨w.heap.size + 3, k, none⟩ = false := fun u => (World.frozen?_setCell _ _ _ _).trans fz2
          go_wp2_with fail
          go_region
          all_goals
            go_wp2
            go_roundw
            case rel =>
              have hst := nf_step hnf2 hlt (emem pj.toNat) (fun _ => by show _ = emem (lastIn eids (ids k) en).toNat; rw [← HP.out]) (fun h => absurd h (by show ¬ lastIn eids (ids k) en < 0; rw [← HP.out]; omega))
              rw [← HP.out] at hst
              exact ⟨k + 1, fun i => if i = k then emem pj.toNat else mem i, by omega, by go_num, hst.drew 1⟩
            case measure => simp [intOf]; omega
        · rw [if_neg hpp] at hlk
          simp only [Option.getD_none, Option.isSome_none] at hlk
          have hnf3 := hnf2.alloc (.cells memC 102)
          have c1' : (w2.alloc (.cells memC 102)).cell? ⟨w.heap.size + 2, 1, none⟩ = some (.slice (some ⟨mb, 0, none⟩) n n) := hnf3.fcell 1
          obtain ⟨⟨v1, s1⟩, fz1⟩ := hnf3.slots hlt
          obtain ⟨v2, s2⟩ := hnf3.xi.some hlt
          have fz2 := hnf3.xi.free k
          have s2' := cell_set s2 (a := ⟨mb, k, none⟩) (show w.heap.size + 3 ≠ mb by have := hnf3.lows; omega)
          have fz2' : ∀ u, ((w2.alloc (.cells memC 102)).setCell ⟨mb, k, none⟩ u).frozen? ⟨w.heap.size + 3, k, none⟩ = false := fun u => (World.frozen?_setCell _ _ _ _).trans fz2
          have hz2 := hnf2.size
          go_wp2_with fail
          go_region_with (go_at_call 10; refine (newMember_any _).mono ?_; rintro e w' ⟨rfl, rfl⟩)
          all_goals
            go_wp2
            go_roundw
            case rel =>
              have hst := nf_step hnf3 hlt w2.heap.size (fun h => absurd h (by show ¬ 0 ≤ lastIn eids (ids k) en; rw [← HP.out]; omega)) (fun _ => ⟨hz2, heap_alloc_new _ _, fun i hi hp => lt_of_block ((hnf2.new i hi hp).2)⟩)
              rw [← HP.out, show pj = -1 from by have := lastIn_ge eids (ids k) en; rw [← HP.out] at this; omega] at hst
              exact ⟨k + 1, fun i => if i = k then w2.heap.size else mem i, by omega, by go_num, hst.drew 1⟩
            case measure => simp [intOf]; omega
      · obtain rfl : k = n := by omega
        by_cases hk0 : k = 0
        · subst hk0
          go_wp2
          go_ret
          exact ⟨rfl, mb, xb, mem, wr, hnf, .inl ⟨rfl, rfl⟩⟩
        · have hkp : 0 < k := by omega
          go_wp2_with fail
          refine (hgr mb xb mem wr hkp hnf).mono ?_
          rintro e Y ⟨gb, gc, rfl, hQ, hK⟩
          have hfl : Y.heap[w.heap.size + 2]? = some (.cells (fleetC w.heap.size mb xb ii k (.slice none 0 0) (lockV w.heap.size)) 87 (0, 0)) := (hK.block _ (by have := hnf.size; omega) (by omega)).trans hnf.fleet
          have c3 : Y.cell? ⟨w.heap.size + 2, 3, none⟩ = some (.slice none 0 0) := cell_of_row _ _ 3 _ _ _ hfl
          have f3 : Y.frozen? ⟨w.heap.size + 2, 3, none⟩ = false := by simp [World.frozen?, hfl]
          clear hfl
          go_wp2
          go_ret
          exact ⟨rfl, mb, xb, mem, wr, hnf, .inr ⟨hkp, gb, gc, Y, hQ, hK, rfl⟩⟩
end Go.Proofs.Ybulktog
