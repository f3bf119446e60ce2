/-
  groupsOf: its walk, once for each law's closure.
-/
import Derived.Test.YbulktogClo
import Derived.WalkSmall
import Derived.Deep.RegionWith
import Derived.Deep.Cut
import Derived.Deep.CutRange
namespace Go.Proofs.Ybulktog
open Go.ChangeShapes Go.WideShapes Go.ChangeAt Go.RowKit

theorem info113 : (Yba.prog.info? 113).map (fun i => (i.zero, i.size, i.bytes)) = some (some (.agg #[.int .u8 0, .slice none 0 0, .nilIface, .pointer none]), 4, 56) := by kernel_rfl

theorem cells4 (w : World) (a b c d : Value) (t : TypeId) : ∀ j u, [a, b, c, d][j]? = some u → (w.alloc (.cells #[a, b, c, d] t)).cell? ((⟨w.heap.size, 0, none⟩ : Addr).add j) = some u := by
  intro j u hj
  match j, hj with
  | 0, hj => simp at hj; subst hj; simp [Addr.add]
  | 1, hj => simp at hj; subst hj; simp [Addr.add]
  | 2, hj => simp at hj; subst hj; simp [Addr.add]
  | 3, hj => simp at hj; subst hj; simp [Addr.add]

/-- groupsOf's first blocks. -/
structure GO (w wr : World) : Prop where
  below : Below w.heap.size w wr
  arr : wr.heap[w.heap.size]? = some (.cells #[.slice none 0 0, .slice none 0 0] 122 (0, 0))

theorem GO.turn {w a b : World} (h : GO w a) (hb : Below (w.heap.size + 1) a b) : GO w b := ⟨h.below.trans (hb.mono (by omega)), (hb.block _ (by omega)).trans h.arr⟩

/-- What groupsOf leaves: the group's row at gb; 'w1' when groupInput is called, 'w2' when the closure is called, 'w3' behind it. -/
structure Grouped (w w' : World) (S : Nat → Prop) (GOut : World → Value → World → Prop) (COut : Value → Nat → World → World → Prop) (gb : Nat) (iv : Value) (pk : Nat) (w1 w2 w3 : World) : Prop where
  low : w.heap.size ≤ gb
  lt : gb < w1.heap.size
  b1 : Below w.heap.size w w1
  b2 : Below w1.heap.size w1 w2
  gout : GOut w1 iv w2
  cout : COut iv pk w2 w3
  k3 : Kept S w2 w3
  k4 : Kept (fun k => k = gb) w3 w'
  z0 : w3.cell? ⟨gb, 0, none⟩ = some (.int .u8 2)
  c0 : w'.cell? ⟨gb, 0, none⟩ = some (.int .u8 2)
  c1 : w'.cell? ⟨gb, 1, none⟩ = some (.slice none 0 0)
  c2 : w'.cell? ⟨gb, 2, none⟩ = some (.iface 36 (.pointer (some ⟨pk, 0, none⟩)))

theorem grouped_mk {w w3 : World} {S : Nat → Prop} {GOut : World → Value → World → Prop} {COut : Value → Nat → World → World → Prop} {gb : Nat} {iv : Value} {pk : Nat} {w1 w2 : World} (low : w.heap.size ≤ gb) (lt : gb < w1.heap.size) (b1 : Below w.heap.size w w1) (b2 : Below w1.heap.size w1 w2) (gout : GOut w1 iv w2) (cout : COut iv pk w2 w3) (k3 : Kept S w2 w3)
    (c0 : w3.cell? ⟨gb, 0, none⟩ = some (.int .u8 2)) (c1 : w3.cell? ⟨gb, 1, none⟩ = some (.slice none 0 0)) (c2 : w3.cell? ⟨gb, 2, none⟩ = some .nilIface) : Grouped w (w3.setCell ⟨gb, 2, none⟩ (.iface 36 (.pointer (some ⟨pk, 0, none⟩)))) S GOut COut gb iv pk w1 w2 w3 := by
  refine ⟨low, lt, b1, b2, gout, cout, k3, Kept.setCell (S := fun k => k = gb) w3 ⟨gb, 2, none⟩ _ (.inl rfl), c0, ?_, ?_, ?_⟩
  · show (w3.setCell ⟨gb, 2, none⟩ _).cell? _ = _
    simp [go_sem, c0]
  · show (w3.setCell ⟨gb, 2, none⟩ _).cell? _ = _
    simp [go_sem, c1]
  · show (w3.setCell ⟨gb, 2, none⟩ _).cell? _ = _
    simp [go_sem, c2]

set_option maxHeartbeats 1600000 in
set_option maxRecDepth 100000 in
theorem groupsOf_9 (bb fb n ci Lb : Nat) (ii : Nat) (zn : ByteArray) (ve vx : Value) (w : World) (hn : 0 < n) (hn' : n ≤ 1024)
   (b25 : w.cell? ⟨bb, 25, none⟩ = some (.string ⟨#[]⟩)) (b26 : w.cell? ⟨bb, 26, none⟩ = some (.string zn)) (b16 : w.cell? ⟨bb, 16, none⟩ = some (.func (.func 9) #[] #[.pointer (some ⟨Lb, 0, none⟩)]))
   (f0 : w.cell? ⟨fb, 0, none⟩ = some (.slice (some ⟨ii, 0, none⟩) n ci))
   (GOut : World → Value → World → Prop) (COut : Value → Nat → World → World → Prop) (S : Nat → Prop) (hS : ∀ k, S k → k < w.heap.size)
   (hgi : ∀ (gb : Nat) (w1 : World), Below w.heap.size w w1 → w1.cell? ⟨gb, 0, none⟩ = some (.int .u8 2) → w1.cell? ⟨gb, 1, none⟩ = some (.slice none 0 0) → Calls Yba.prog 14 #[.pointer (some ⟨bb, 0, none⟩), .pointer (some ⟨fb, 0, none⟩), .pointer (some ⟨gb, 0, none⟩), ve, vx] w1 fun e w2 => ∃ iv, e = .returned iv ∧ GOut w1 iv w2 ∧ Below w1.heap.size w1 w2)
   (hclo : ∀ (iv : Value) (w1 w2 : World), Below w.heap.size w w2 → GOut w1 iv w2 → Calls Yba.prog 9 #[iv, .pointer (some ⟨Lb, 0, none⟩)] w2 fun e w3 => ∃ pk, e = .returned (.iface 36 (.pointer (some ⟨pk, 0, none⟩))) ∧ COut iv pk w2 w3 ∧ Kept S w2 w3) :
    Calls Yba.prog 11 #[.pointer (some ⟨bb, 0, none⟩), .pointer (some ⟨fb, 0, none⟩), ve, vx] w fun e w' => ∃ gb gc iv pk w1 w2 w3, e = .returned (.slice (some ⟨gb, 0, none⟩) 1 gc) ∧ Grouped w w' S GOut COut gb iv pk w1 w2 w3 := by
  have f0' := cell_alloc f0
  obtain ⟨j113, hi, hz0, hz1, hz2⟩ := info_parts info113
  have hx0 : ∀ w, (Instr.index 122 (.agg #[.slice none 0 0, .slice none 0 0]) (.int .i64 0)).run Yba.prog w = .ok (.slice none 0 0) w := fun _ => by kernel_rfl
  have hx1 : ∀ w, (Instr.index 122 (.agg #[.slice none 0 0, .slice none 0 0]) (.int .i64 1)).run Yba.prog w = .ok (.slice none 0 0) w := fun _ => by kernel_rfl
  go_enter Yba.func11, Yba.ntmps11
  go_wp2
  go_loopw [23] (fun i wr => ∃ k : Nat, k ≤ n ∧ i = .int .i64 k ∧ GO w wr) (fun i _ => n - (intOf i).toNat)
  case atStart => exact ⟨0, Nat.zero_le _, rfl, (Below.refl _ _).alloc (Nat.le_refl _) _, heap_alloc_new _ _⟩
  case round =>
    obtain ⟨k, hk, rfl, hgo⟩ := hrel
    have hb25 : wr.cell? ⟨bb, 25, none⟩ = some (.string ⟨#[]⟩) := (hgo.below.cell (World.block_lt_of_cell? w _ b25)).trans b25
    have hb26 : wr.cell? ⟨bb, 26, none⟩ = some (.string zn) := (hgo.below.cell (World.block_lt_of_cell? w _ b26)).trans b26
    have hf0 : wr.cell? ⟨fb, 0, none⟩ = some (.slice (some ⟨ii, 0, none⟩) n ci) := (hgo.below.cell (World.block_lt_of_cell? w _ f0)).trans f0
    by_cases hlt : k < n
    · go_wp2_with fail
      go_cut [11] from 24 to 49 (fun d wx => d = .int .u8 2 ∧ GO w wx)
      case first =>
        go_region_with (go_at_call 13; refine (distanceTo_any zn _ _).mono ?_; rintro e w' ⟨rfl, nq, rfl⟩)
        all_goals (try go_wp2_with fail)
        all_goals go_meet
        all_goals exact ⟨rfl, hgo.turn (below_drewN ((Below.refl _ _).alloc (lt_of_block hgo.arr) _) _)⟩
      case rest =>
        obtain ⟨rfl, hgo'⟩ := hcut
        clear hgo hb25 hb26 hf0
        go_wp2
        refine wp_loop_rounds 1 ?_
        rw [rounds_succ]
        go_wp2
        go_roundw
        case rel => first | exact ⟨k + 1, by omega, by go_num, hgo'⟩ | ((repeat apply Exists.intro); exact ⟨⟨k + 1, by omega, by go_num, hgo'⟩, rfl⟩)
        case measure => simp [intOf]; omega
    · have a0 : wr.cell? ⟨w.heap.size, 0, none⟩ = some (.slice none 0 0) := cell_of_row _ _ 0 _ _ _ hgo.arr
      have a1 : wr.cell? ⟨w.heap.size, 1, none⟩ = some (.slice none 0 0) := cell_of_row _ _ 1 _ _ _ hgo.arr
      go_wp2
      refine wp_loop_rounds 3 ?_
      rw [rounds_succ]
      go_wp2
      rw [rounds_succ]
      go_wp2
      rw [rounds_succ]
      go_wp2_with (at_builtin; refine wpList_append_own _ rfl _ _ 74 rfl (w.heap.size + 1) 113 j113 _ 4 56 Yba.underlying74 hi hz0 hz1 hz2 rfl (by decide) _ _ _ rfl (World.ownsRow_nil _ _ _ _) ⟨wr.heap.size, 0, none⟩ 1 1 [.int .u8 2, .slice none 0 0, .nilIface, .pointer none] rfl rfl ?c1 ?c2 ?c3 ?c4 ?c5 ?_)
      case c1 => exact cells4 wr _ _ _ _ 113
      case c2 => simp [Value.oneCell']
      case c3 => unfold maxLen; omega
      case c4 => omega
      case c5 => have := lt_of_block hgo.arr; simp; omega
      intro gv wg hgv hgg _
      obtain ⟨gb, gc, hshape⟩ := own_shape hgv (by omega)
      rw [hshape] at hgv ⊢
      have hbg : Below w.heap.size w wg := (hgo.below.alloc hgo.below.size _).grown hgg (by have := lt_of_block hgo.arr; simp; omega) (fun k hk => by cases hk)
      have hgl := hgv.lt gb rfl
      have g0 : wg.cell? ⟨gb, 0, none⟩ = some (.int .u8 2) := hgv.cellAt 0 (by omega)
      have g1 : wg.cell? ⟨gb, 1, none⟩ = some (.slice none 0 0) := hgv.cellAt 1 (by omega)
      have g2 : wg.cell? ⟨gb, 2, none⟩ = some .nilIface := hgv.cellAt 2 (by omega)
      have gf := fun j => hgv.frozenAt j
      have hb16 : wg.cell? ⟨bb, 16, none⟩ = some (.func (.func 9) #[] #[.pointer (some ⟨Lb, 0, none⟩)]) := (hbg.cell (World.block_lt_of_cell? w _ b16)).trans b16
      have hgm : ∀ k, S k → k ≠ gb := fun k hk => by have := hS k hk; omega
      clear hgv hgg hshape a0 a1 hgo hb25 hb26 hf0
      go_wp2
      refine wp_loop_rounds 2 ?_
      rw [rounds_succ]
      go_wp2
      go_region_with (first
        | (go_at_call 14; refine (hgi gb _ (by exact hbg.drew) (by exact g0) (by exact g1)).mono ?_; rintro e w2 ⟨iv, rfl, hG, hB2⟩; have hb16' : w2.cell? ⟨bb, 16, none⟩ = some (.func (.func 9) #[] #[.pointer (some ⟨Lb, 0, none⟩)]) := (hB2.cell (by have := World.block_lt_of_cell? wg _ hb16; exact this)).trans hb16)
        | (go_at_call 9; refine (hclo _ _ _ (by exact hbg.drew.trans (hB2.mono hbg.size)) (by exact hG)).mono ?_; rintro e w3 ⟨pk, rfl, hC, hK⟩; have e3 : w3.heap[gb]? = wg.heap[gb]? := (hK.block gb (Nat.lt_of_lt_of_le hgl.2 hB2.size) (fun hs => hgm gb hs rfl)).trans (hB2.block gb hgl.2); have q2 := (World.cell?_of_block (a := ⟨gb, 2, none⟩) e3).trans g2; have q2f := (World.frozen?_of_block (a := ⟨gb, 2, none⟩) e3).trans (gf 2)))
      all_goals
        go_wp2
        rw [rounds_succ]
        go_wp2
        go_ret
        exact ⟨gb, gc, iv, pk, wg.drew, w2, w3, rfl, grouped_mk (by omega) hgl.2 hbg.drew hB2 hG hC hK ((World.cell?_of_block (a := ⟨gb, 0, none⟩) e3).trans g0) ((World.cell?_of_block (a := ⟨gb, 1, none⟩) e3).trans g1) q2⟩

set_option maxHeartbeats 1600000 in
set_option maxRecDepth 100000 in
theorem groupsOf_6 (bb fb n ci Lb Db : Nat) (ii : Nat) (zn : ByteArray) (ve vx : Value) (w : World) (hn : 0 < n) (hn' : n ≤ 1024)
   (b25 : w.cell? ⟨bb, 25, none⟩ = some (.string ⟨#[]⟩)) (b26 : w.cell? ⟨bb, 26, none⟩ = some (.string zn)) (b16 : w.cell? ⟨bb, 16, none⟩ = some (.func (.func 6) #[] #[.pointer (some ⟨Lb, 0, none⟩), .pointer (some ⟨Db, 0, none⟩)]))
   (f0 : w.cell? ⟨fb, 0, none⟩ = some (.slice (some ⟨ii, 0, none⟩) n ci))
   (GOut : World → Value → World → Prop) (COut : Value → Nat → World → World → Prop) (S : Nat → Prop) (hS : ∀ k, S k → k < w.heap.size)
   (hgi : ∀ (gb : Nat) (w1 : World), Below w.heap.size w w1 → w1.cell? ⟨gb, 0, none⟩ = some (.int .u8 2) → w1.cell? ⟨gb, 1, none⟩ = some (.slice none 0 0) → Calls Yba.prog 14 #[.pointer (some ⟨bb, 0, none⟩), .pointer (some ⟨fb, 0, none⟩), .pointer (some ⟨gb, 0, none⟩), ve, vx] w1 fun e w2 => ∃ iv, e = .returned iv ∧ GOut w1 iv w2 ∧ Below w1.heap.size w1 w2)
   (hclo : ∀ (iv : Value) (w1 w2 : World), Below w.heap.size w w2 → GOut w1 iv w2 → Calls Yba.prog 6 #[iv, .pointer (some ⟨Lb, 0, none⟩), .pointer (some ⟨Db, 0, none⟩)] w2 fun e w3 => ∃ pk, e = .returned (.iface 36 (.pointer (some ⟨pk, 0, none⟩))) ∧ COut iv pk w2 w3 ∧ Kept S w2 w3) :
    Calls Yba.prog 11 #[.pointer (some ⟨bb, 0, none⟩), .pointer (some ⟨fb, 0, none⟩), ve, vx] w fun e w' => ∃ gb gc iv pk w1 w2 w3, e = .returned (.slice (some ⟨gb, 0, none⟩) 1 gc) ∧ Grouped w w' S GOut COut gb iv pk w1 w2 w3 := by
  have f0' := cell_alloc f0
  obtain ⟨j113, hi, hz0, hz1, hz2⟩ := info_parts info113
  have hx0 : ∀ w, (Instr.index 122 (.agg #[.slice none 0 0, .slice none 0 0]) (.int .i64 0)).run Yba.prog w = .ok (.slice none 0 0) w := fun _ => by kernel_rfl
  have hx1 : ∀ w, (Instr.index 122 (.agg #[.slice none 0 0, .slice none 0 0]) (.int .i64 1)).run Yba.prog w = .ok (.slice none 0 0) w := fun _ => by kernel_rfl
  go_enter Yba.func11, Yba.ntmps11
  go_wp2
  go_loopw [23] (fun i wr => ∃ k : Nat, k ≤ n ∧ i = .int .i64 k ∧ GO w wr) (fun i _ => n - (intOf i).toNat)
  case atStart => exact ⟨0, Nat.zero_le _, rfl, (Below.refl _ _).alloc (Nat.le_refl _) _, heap_alloc_new _ _⟩
  case round =>
    obtain ⟨k, hk, rfl, hgo⟩ := hrel
    have hb25 : wr.cell? ⟨bb, 25, none⟩ = some (.string ⟨#[]⟩) := (hgo.below.cell (World.block_lt_of_cell? w _ b25)).trans b25
    have hb26 : wr.cell? ⟨bb, 26, none⟩ = some (.string zn) := (hgo.below.cell (World.block_lt_of_cell? w _ b26)).trans b26
    have hf0 : wr.cell? ⟨fb, 0, none⟩ = some (.slice (some ⟨ii, 0, none⟩) n ci) := (hgo.below.cell (World.block_lt_of_cell? w _ f0)).trans f0
    by_cases hlt : k < n
    · go_wp2_with fail
      go_cut [11] from 24 to 49 (fun d wx => d = .int .u8 2 ∧ GO w wx)
      case first =>
        go_region_with (go_at_call 13; refine (distanceTo_any zn _ _).mono ?_; rintro e w' ⟨rfl, nq, rfl⟩)
        all_goals (try go_wp2_with fail)
        all_goals go_meet
        all_goals exact ⟨rfl, hgo.turn (below_drewN ((Below.refl _ _).alloc (lt_of_block hgo.arr) _) _)⟩
      case rest =>
        obtain ⟨rfl, hgo'⟩ := hcut
        clear hgo hb25 hb26 hf0
        go_wp2
        refine wp_loop_rounds 1 ?_
        rw [rounds_succ]
        go_wp2
        go_roundw
        case rel => first | exact ⟨k + 1, by omega, by go_num, hgo'⟩ | ((repeat apply Exists.intro); exact ⟨⟨k + 1, by omega, by go_num, hgo'⟩, rfl⟩)
        case measure => simp [intOf]; omega
    · have a0 : wr.cell? ⟨w.heap.size, 0, none⟩ = some (.slice none 0 0) := cell_of_row _ _ 0 _ _ _ hgo.arr
      have a1 : wr.cell? ⟨w.heap.size, 1, none⟩ = some (.slice none 0 0) := cell_of_row _ _ 1 _ _ _ hgo.arr
      go_wp2
      refine wp_loop_rounds 3 ?_
      rw [rounds_succ]
      go_wp2
      rw [rounds_succ]
      go_wp2
      rw [rounds_succ]
      go_wp2_with (at_builtin; refine wpList_append_own _ rfl _ _ 74 rfl (w.heap.size + 1) 113 j113 _ 4 56 Yba.underlying74 hi hz0 hz1 hz2 rfl (by decide) _ _ _ rfl (World.ownsRow_nil _ _ _ _) ⟨wr.heap.size, 0, none⟩ 1 1 [.int .u8 2, .slice none 0 0, .nilIface, .pointer none] rfl rfl ?c1 ?c2 ?c3 ?c4 ?c5 ?_)
      case c1 => exact cells4 wr _ _ _ _ 113
      case c2 => simp [Value.oneCell']
      case c3 => unfold maxLen; omega
      case c4 => omega
      case c5 => have := lt_of_block hgo.arr; simp; omega
      intro gv wg hgv hgg _
      obtain ⟨gb, gc, hshape⟩ := own_shape hgv (by omega)
      rw [hshape] at hgv ⊢
      have hbg : Below w.heap.size w wg := (hgo.below.alloc hgo.below.size _).grown hgg (by have := lt_of_block hgo.arr; simp; omega) (fun k hk => by cases hk)
      have hgl := hgv.lt gb rfl
      have g0 : wg.cell? ⟨gb, 0, none⟩ = some (.int .u8 2) := hgv.cellAt 0 (by omega)
      have g1 : wg.cell? ⟨gb, 1, none⟩ = some (.slice none 0 0) := hgv.cellAt 1 (by omega)
      have g2 : wg.cell? ⟨gb, 2, none⟩ = some .nilIface := hgv.cellAt 2 (by omega)
      have gf := fun j => hgv.frozenAt j
      have hb16 : wg.cell? ⟨bb, 16, none⟩ = some (.func (.func 6) #[] #[.pointer (some ⟨Lb, 0, none⟩), .pointer (some ⟨Db, 0, none⟩)]) := (hbg.cell (World.block_lt_of_cell? w _ b16)).trans b16
      have hgm : ∀ k, S k → k ≠ gb := fun k hk => by have := hS k hk; omega
      clear hgv hgg hshape a0 a1 hgo hb25 hb26 hf0
      go_wp2
      refine wp_loop_rounds 2 ?_
      rw [rounds_succ]
      go_wp2
      go_region_with (first
        | (go_at_call 14; refine (hgi gb _ (by exact hbg.drew) (by exact g0) (by exact g1)).mono ?_; rintro e w2 ⟨iv, rfl, hG, hB2⟩; have hb16' : w2.cell? ⟨bb, 16, none⟩ = some (.func (.func 6) #[] #[.pointer (some ⟨Lb, 0, none⟩), .pointer (some ⟨Db, 0, none⟩)]) := (hB2.cell (by have := World.block_lt_of_cell? wg _ hb16; exact this)).trans hb16)
        | (go_at_call 6; refine (hclo _ _ _ (by exact hbg.drew.trans (hB2.mono hbg.size)) (by exact hG)).mono ?_; rintro e w3 ⟨pk, rfl, hC, hK⟩; have e3 : w3.heap[gb]? = wg.heap[gb]? := (hK.block gb (Nat.lt_of_lt_of_le hgl.2 hB2.size) (fun hs => hgm gb hs rfl)).trans (hB2.block gb hgl.2); have q2 := (World.cell?_of_block (a := ⟨gb, 2, none⟩) e3).trans g2; have q2f := (World.frozen?_of_block (a := ⟨gb, 2, none⟩) e3).trans (gf 2)))
      all_goals
        go_wp2
        rw [rounds_succ]
        go_wp2
        go_ret
        exact ⟨gb, gc, iv, pk, wg.drew, w2, w3, rfl, grouped_mk (by omega) hgl.2 hbg.drew hB2 hG hC hK ((World.cell?_of_block (a := ⟨gb, 0, none⟩) e3).trans g0) ((World.cell?_of_block (a := ⟨gb, 1, none⟩) e3).trans g1) q2⟩
end Go.Proofs.Ybulktog
