/-
  The first law's closure.
-/
import Derived.Test.YbulktogClo
namespace Go.Proofs.Ybulktog
open Go.ChangeShapes Go.WideShapes Go.ChangeAt Go.RowKit

theorem info32 : (Yba.prog.info? 32).map (fun i => (i.zero, i.size, i.bytes)) = some (some .nilIface, 1, 16) := by kernel_rfl

set_option maxHeartbeats 1600000 in
set_option maxRecDepth 100000 in
theorem clo6 (i0 i1 i2 i3 i4 i5 : Value) (h1 : i0.oneCell' = true ∧ i1.oneCell' = true ∧ i2.oneCell' = true ∧ i3.oneCell' = true ∧ i4.oneCell' = true ∧ i5.oneCell' = true) (Lb Db : Nat) (w : World)
   (hL : w.heap[Lb]? = some (.cells #[.slice none 0 0] 25 (0, 0))) (hD : w.heap[Db]? = some (.cells #[.slice none 0 0] 26 (0, 0))) :
    Calls Yba.prog 6 #[.agg #[i0, i1, i2, i3, i4, i5], .pointer (some ⟨Lb, 0, none⟩), .pointer (some ⟨Db, 0, none⟩)] w fun e w' => ∃ pk lg lc dg dc, e = .returned (.iface 36 (.pointer (some ⟨pk, 0, none⟩))) ∧ w.heap.size ≤ pk ∧
      w'.heap[Lb]? = some (.cells #[.slice (some ⟨lg, 0, none⟩) 1 lc] 25 (0, 0)) ∧ w'.ownsRow w.heap.size 35 6 (.slice (some ⟨lg, 0, none⟩) 1 lc) 1 [i0, i1, i2, i3, i4, i5] ∧
      w'.heap[Db]? = some (.cells #[.slice (some ⟨dg, 0, none⟩) 1 dc] 26 (0, 0)) ∧ w'.ownsRow w.heap.size 32 1 (.slice (some ⟨dg, 0, none⟩) 1 dc) 1 [.iface 36 (.pointer (some ⟨pk, 0, none⟩))] ∧ Kept (fun k => k = Lb ∨ k = Db) w w' := by
  obtain ⟨j35, hi, hz0, hz1, hz2⟩ := info_parts info35
  obtain ⟨j32, gi, gz0, gz1, gz2⟩ := info_parts info32
  have hLD : Lb ≠ Db := fun e => by rw [e, hD] at hL; simp at hL
  have hc := cell_of_one hL
  have hlt := lt_of_block hL
  have hltD := lt_of_block hD
  have HL : Hid (w.heap[Lb]? = some (.cells #[.slice none 0 0] 25 (0, 0))) := hL
  have HD : Hid (w.heap[Db]? = some (.cells #[.slice none 0 0] 26 (0, 0))) := hD
  clear hL hD
  go_enter Yba.func6, Yba.ntmps6
  go_wp2_with (at_builtin; refine wpList_append_own _ rfl _ _ 25 rfl w.heap.size 35 j35 _ 6 104 Yba.underlying25 hi hz0 hz1 hz2 rfl (by decide) _ _ _ rfl (World.ownsRow_nil _ _ _ _) ⟨w.heap.size + 1, 0, none⟩ 1 1 [i0, i1, i2, i3, i4, i5] rfl rfl ?c1 ?c2 ?c3 ?c4 ?c5 ?_)
  case c1 => simpa using cells6 (w.alloc (.cells #[i0, i1, i2, i3, i4, i5] 35)) i0 i1 i2 i3 i4 i5 35
  case c2 => simpa using h1
  case c3 => unfold maxLen; omega
  case c4 => omega
  case c5 => simp; omega
  intro v' w2 hown' hgrow _
  have k0 : Kept (fun k => k = Lb ∨ k = Db) w ((w.alloc (.cells #[i0, i1, i2, i3, i4, i5] 35)).alloc (.cells #[i0, i1, i2, i3, i4, i5] 35)) := (Kept.alloc _ _ _).trans (Kept.alloc _ _ _)
  have k2 := k0.trans (Kept.ofGrown (S := fun k => k = Lb ∨ k = Db) hgrow (fun k hk _ => by cases hk))
  have old : ∀ b, b < w.heap.size → w2.heap[b]? = w.heap[b]? := fun b hb => by
    rw [hgrow.block b (by simp; omega) (by simp [Value.ownBlock]), Below.heap_alloc _ _ _ (by simp; omega), Below.heap_alloc _ _ _ hb]
  have hL2 := (old Lb hlt).trans HL.out
  have hD2 := (old Db hltD).trans HD.out
  have hc2 := cell_of_one hL2
  have hf2 := free_of_one hL2
  have hlt2 := lt_of_block hL2
  have hvL2 := own_not_var hown' hL2 (by decide)
  obtain ⟨g, cp, hv⟩ := own_shape hown' (by omega)
  have k3 := k2.trans (Kept.setCell (S := fun k => k = Lb ∨ k = Db) w2 ⟨Lb, 0, none⟩ v' (.inl (.inl rfl)))
  have hL3 := one_setCell hL2 (u := v')
  have hown3 := ownsRow_setCell_other hown' (a := ⟨Lb, 0, none⟩) hvL2 v'
  have hD3 : (w2.setCell ⟨Lb, 0, none⟩ v').heap[Db]? = some (.cells #[.slice none 0 0] 26 (0, 0)) := (Below.heap_setCell _ _ _ _ (fun e => hLD e.symm)).trans hD2
  rw [hv] at k3 hL3 hown3 hD3 ⊢
  clear k0 k2 hown' hgrow hL2 hvL2 old hv hD2
  obtain ⟨w3, hw3⟩ : ∃ w3, w3 = w2.setCell ⟨Lb, 0, none⟩ (.slice (some ⟨g, 0, none⟩) (0 + 1) cp) := ⟨_, rfl⟩
  rw [← hw3] at k3 hL3 hown3 hD3
  have hcD := cell_of_one hD3
  have hc3 := cell_of_one hL3
  rw [hw3] at hcD hc3
  have hDa := cell_alloc hcD
  have HW : Hid (w3 = w2.setCell ⟨Lb, 0, none⟩ (.slice (some ⟨g, 0, none⟩) (0 + 1) cp)) := hw3
  clear hw3
  go_wp2_with (at_builtin; refine wpList_append_own _ rfl _ _ 26 rfl w.heap.size 32 j32 _ 1 16 Yba.underlying26 gi gz0 gz1 gz2 rfl (by decide) _ _ _ rfl (World.ownsRow_nil _ _ _ _) ⟨w2.heap.size + 1, 0, none⟩ 1 1 [.iface 36 (.pointer (some ⟨w2.heap.size, 0, none⟩))] rfl rfl ?d1 ?d2 ?d3 ?d4 ?d5 ?_)
  case d1 =>
    have := cell_one_new ((w2.setCell ⟨Lb, 0, none⟩ (.slice (some ⟨g, 0, none⟩) 1 cp)).alloc (.cells #[.int .i64 1] 38)) (.iface 36 (.pointer (some ⟨w2.heap.size, 0, none⟩))) 32
    simpa [World.setCell] using this
  case d2 => simp [Value.oneCell']
  case d3 => unfold maxLen; omega
  case d4 => omega
  case d5 => have := k3.size; rw [HW.out, size_setCell] at this; simp only [World.size_alloc, size_setCell]; omega
  intro u' w5 hown5 hgrow5 _
  rw [← HW.out] at hgrow5
  have k5 := ((k3.trans (Kept.alloc _ w3 (.cells #[.int .i64 1] 38))).trans (Kept.alloc _ _ (.cells #[.iface 36 (.pointer (some ⟨w2.heap.size, 0, none⟩))] 32))).trans (Kept.ofGrown (S := fun k => k = Lb ∨ k = Db) hgrow5 (fun k hk _ => by cases hk))
  have old : ∀ b, b < w3.heap.size → w5.heap[b]? = w3.heap[b]? := fun b hb => by
    rw [hgrow5.block b (by simp; omega) (by simp [Value.ownBlock]), Below.heap_alloc _ _ _ (by simp; omega), Below.heap_alloc _ _ _ hb]
  have hL5 := (old Lb (lt_of_block hL3)).trans hL3
  have hD5 := (old Db (lt_of_block hD3)).trans hD3
  have g3 : w3.grownBy w5 none := ⟨hgrow5.os, hgrow5.tape, hgrow5.output, by have := hgrow5.size; simp at this; omega, fun b hb _ => old b hb⟩
  have hown35 := hown3.kept g3 (.inr (by simp [Value.ownBlock]))
  have hsz5 : w.heap.size ≤ w2.heap.size := by have := k3.size; rw [HW.out, size_setCell] at this; exact this
  have hc5 := cell_of_one hD5
  have hf5 := free_of_one hD5
  obtain ⟨g', cp', hv'⟩ := own_shape hown5 (by omega)
  have k6 := k5.trans (Kept.setCell (S := fun k => k = Lb ∨ k = Db) w5 ⟨Db, 0, none⟩ u' (.inl (.inr rfl)))
  have hD6 := one_setCell hD5 (u := u')
  have hL6 : (w5.setCell ⟨Db, 0, none⟩ u').heap[Lb]? = some (.cells #[.slice (some ⟨g, 0, none⟩) (0 + 1) cp] 25 (0, 0)) := (Below.heap_setCell _ _ _ _ hLD).trans hL5
  have hown6 := ownsRow_setCell_other hown5 (a := ⟨Db, 0, none⟩) (own_not_var hown5 hD5 (by decide)) u'
  have hown36 := ownsRow_setCell_other hown35 (a := ⟨Db, 0, none⟩) (own_not_var hown35 hD5 (by decide)) u'
  have HH : Hid (Kept (fun k => k = Lb ∨ k = Db) w (w5.setCell ⟨Db, 0, none⟩ u') ∧ (w5.setCell ⟨Db, 0, none⟩ u').heap[Db]? = some (.cells #[u'] 26 (0, 0)) ∧ (w5.setCell ⟨Db, 0, none⟩ u').heap[Lb]? = some (.cells #[.slice (some ⟨g, 0, none⟩) (0 + 1) cp] 25 (0, 0)) ∧ (w5.setCell ⟨Db, 0, none⟩ u').ownsRow w.heap.size 32 1 u' (0 + 1) [.iface 36 (.pointer (some ⟨w2.heap.size, 0, none⟩))] ∧ (w5.setCell ⟨Db, 0, none⟩ u').ownsRow w.heap.size 35 6 (.slice (some ⟨g, 0, none⟩) (0 + 1) cp) (0 + 1) [i0, i1, i2, i3, i4, i5]) := ⟨k6, hD6, hL6, hown6, hown36⟩
  rw [hv'] at HH ⊢
  clear k3 k5 k6 hD6 hL6 hown6 hown36 hown5 hgrow5 hown35 g3 hL5 hD5 old hL3 hD3 hown3 hv' HW hDa hcD hc3
  go_wp2
  go_ret
  obtain ⟨k6, hD6, hL6, hown6, hown36⟩ := HH.out
  exact ⟨w2.heap.size, g, cp, g', cp', rfl, hsz5, hL6, hown36, hD6, hown6, k6⟩
end Go.Proofs.Ybulktog
