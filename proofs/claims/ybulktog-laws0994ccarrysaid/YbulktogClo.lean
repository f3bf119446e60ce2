/-
  What is kept; the second law's closure.
-/
import Derived.Test.YbulktogSmall
import Derived.BigRegion
namespace Go.Proofs.Ybulktog
open Go.ChangeShapes Go.WideShapes Go.ChangeAt Go.RowKit

theorem info35 : (Yba.prog.info? 35).map (fun i => (i.zero, i.size, i.bytes)) = some (some (.agg #[.slice none 0 0, .slice none 0 0, .pointer none, .pointer none, .nilIface, .slice none 0 0]), 6, 104) := by kernel_rfl

/-- What is written is a block of S or new: all else stands. -/
structure Kept (S : Nat → Prop) (w w' : World) : Prop where
  os : w'.os = w.os
  tape : w'.tape = w.tape
  output : w'.output = w.output
  size : w.heap.size ≤ w'.heap.size
  block : ∀ k, k < w.heap.size → ¬ S k → w'.heap[k]? = w.heap[k]?

theorem Kept.refl (S : Nat → Prop) (w : World) : Kept S w w := ⟨rfl, rfl, rfl, Nat.le_refl _, fun _ _ _ => rfl⟩
theorem Kept.trans {S : Nat → Prop} {a b c : World} (h : Kept S a b) (k : Kept S b c) : Kept S a c :=
  ⟨k.os.trans h.os, k.tape.trans h.tape, k.output.trans h.output, Nat.le_trans h.size k.size, fun i hi hs => (k.block i (Nat.lt_of_lt_of_le hi h.size) hs).trans (h.block i hi hs)⟩
theorem Kept.mono {S T : Nat → Prop} {a b : World} (h : Kept S a b) (hST : ∀ k, k < a.heap.size → S k → T k) : Kept T a b :=
  ⟨h.os, h.tape, h.output, h.size, fun k hk hs => h.block k hk (fun hh => hs (hST k hk hh))⟩
theorem Kept.alloc (S : Nat → Prop) (w : World) (o : Obj) : Kept S w (w.alloc o) := ⟨rfl, rfl, rfl, by simp, fun k hk _ => Below.heap_alloc w o k hk⟩
theorem Kept.drewN {S : Nat → Prop} {a b : World} (h : Kept S a b) (n : Nat) : Kept S a (b.drewN n) := h.trans ⟨rfl, rfl, rfl, Nat.le_refl _, fun _ _ _ => rfl⟩
theorem Kept.setCell {S : Nat → Prop} (w : World) (a : Addr) (v : Value) (h : S a.block ∨ w.heap.size ≤ a.block) : Kept S w (w.setCell a v) :=
  ⟨rfl, rfl, rfl, by simp [World.setCell], fun k hk hs => Below.heap_setCell w a v k (fun e => by
    subst e
    rcases h with h | h
    · exact hs h
    · omega)⟩
theorem Kept.ofGrown {S : Nat → Prop} {w w' : World} {row : Option Nat} (h : w.grownBy w' row) (hr : ∀ k, row = some k → k < w.heap.size → S k) : Kept S w w' :=
  ⟨h.os, h.tape, h.output, h.size, fun k hk hs => h.block k hk (fun e => hs (hr k e.symm hk))⟩
theorem Kept.ofBelow {S : Nat → Prop} {B : Nat} {w w' : World} (h : Below B w w') (hB : ∀ k, k < w.heap.size → B ≤ k → S k) : Kept S w w' :=
  ⟨h.os, h.tape, h.output, h.size, fun k hk hs => h.block k (Nat.lt_of_not_le fun hh => hs (hB k hk hh))⟩
theorem Kept.below {S : Nat → Prop} {B : Nat} {w w' : World} (h : Kept S w w') (hB : B ≤ w.heap.size) (hS : ∀ k, S k → B ≤ k) : Below B w w' :=
  ⟨h.os, h.tape, h.output, h.size, fun k hk => h.block k (by omega) (fun hs => by have := hS k hs; omega)⟩

theorem cells6 (w : World) (a b c d e f : Value) (t : TypeId) : ∀ j u, [a, b, c, d, e, f][j]? = some u → (w.alloc (.cells #[a, b, c, d, e, f] t)).cell? ((⟨w.heap.size, 0, none⟩ : Addr).add j) = some u := by
  intro j u hj
  match j, hj with
  | 0, hj => simp at hj; subst hj; simp [Addr.add]
  | 1, hj => simp at hj; subst hj; simp [Addr.add]
  | 2, hj => simp at hj; subst hj; simp [Addr.add]
  | 3, hj => simp at hj; subst hj; simp [Addr.add]
  | 4, hj => simp at hj; subst hj; simp [Addr.add]
  | 5, hj => simp at hj; subst hj; simp [Addr.add]

theorem own_shape {w : World} {B n s : Nat} {e : TypeId} {v : Value} {ys : List Value} (h : w.ownsRow B e s v n ys) (hn : 0 < n) : ∃ g cap, v = .slice (some ⟨g, 0, none⟩) n cap := by
  rcases h.2 with ⟨_, h0⟩ | ⟨g, cap, cur, rfl, _⟩
  · omega
  · exact ⟨g, cap, rfl⟩

/-- An owned row is no variable of another type. -/
theorem own_not_var {w : World} {B n s L : Nat} {e t : TypeId} {v x : Value} {ys : List Value} (h : w.ownsRow B e s v n ys) (hL : w.heap[L]? = some (.cells #[x] t (0, 0))) (hne : e ≠ t) : v.ownBlock ≠ some L := by
  rcases h.2 with ⟨rfl, _⟩ | ⟨g, cap, cur, rfl, _, hg, _⟩
  · simp [Value.ownBlock]
  · intro e1
    simp only [Value.ownBlock, Option.some.injEq] at e1
    rw [e1, hL] at hg
    simp at hg
    exact hne hg.2.symm

set_option maxRecDepth 100000 in
theorem clo9 (i0 i1 i2 i3 i4 i5 : Value) (h1 : i0.oneCell' = true ∧ i1.oneCell' = true ∧ i2.oneCell' = true ∧ i3.oneCell' = true ∧ i4.oneCell' = true ∧ i5.oneCell' = true) (Lb B m : Nat) (v : Value) (xs : List Value) (w : World) (hm : m ≤ 10) (hB : B ≤ w.heap.size)
   (hL : w.heap[Lb]? = some (.cells #[v] 25 (0, 0))) (hown : w.ownsRow B 35 6 v m xs)  :
    Calls Yba.prog 9 #[.agg #[i0, i1, i2, i3, i4, i5], .pointer (some ⟨Lb, 0, none⟩)] w fun e w' => ∃ v' pk, e = .returned (.iface 36 (.pointer (some ⟨pk, 0, none⟩))) ∧ w.heap.size ≤ pk ∧ w'.heap[pk]? = some (.cells #[.int .i64 ((m : Int) + 1)] 38 (0, 0)) ∧
      w'.heap[Lb]? = some (.cells #[v'] 25 (0, 0)) ∧ w'.ownsRow B 35 6 v' (m + 1) (xs ++ [i0, i1, i2, i3, i4, i5]) ∧ Kept (fun k => k = Lb ∨ v.ownBlock = some k) w w' := by
  obtain ⟨j35, hi, hz0, hz1, hz2⟩ := info_parts info35
  have hc := cell_of_one hL
  have hlt := lt_of_block hL
  have hvL := own_not_var hown hL (by decide)
  have HL : Hid (w.heap[Lb]? = some (.cells #[v] 25 (0, 0))) := hL
  clear hL
  go_enter Yba.func9, Yba.ntmps9
  go_wp2_with (at_builtin; refine wpList_append_own _ rfl _ _ 25 rfl B 35 j35 _ 6 104 Yba.underlying25 hi hz0 hz1 hz2 rfl (by decide) _ _ _ rfl ((hown.alloc _).alloc _) ⟨w.heap.size + 1, 0, none⟩ 1 1 [i0, i1, i2, i3, i4, i5] rfl rfl ?c1 ?c2 ?c3 ?c4 ?c5 ?_)
  case c1 => simpa using cells6 (w.alloc (.cells #[i0, i1, i2, i3, i4, i5] 35)) i0 i1 i2 i3 i4 i5 35
  case c2 => simpa using h1
  case c3 => unfold maxLen; omega
  case c4 => omega
  case c5 => simp; omega
  intro v' w2 hown' hgrow _
  have k0 : Kept (fun k => k = Lb ∨ v.ownBlock = some k) w ((w.alloc (.cells #[i0, i1, i2, i3, i4, i5] 35)).alloc (.cells #[i0, i1, i2, i3, i4, i5] 35)) := (Kept.alloc _ _ _).trans (Kept.alloc _ _ _)
  have k2 := k0.trans (Kept.ofGrown hgrow (fun k hk _ => .inr hk))
  have hL2 : w2.heap[Lb]? = some (.cells #[v] 25 (0, 0)) := by
    rw [hgrow.block Lb (by simp; omega) (fun e => hvL e.symm), Below.heap_alloc _ _ _ (by simp; omega), Below.heap_alloc _ _ _ hlt]
    exact HL.out
  have hc2 := cell_of_one hL2
  have hf2 := free_of_one hL2
  have hlt2 := lt_of_block hL2
  have hvL2 := own_not_var hown' hL2 (by decide)
  obtain ⟨g, cp, hv⟩ := own_shape hown' (by omega)
  have k3 := k2.trans (Kept.setCell w2 ⟨Lb, 0, none⟩ v' (.inl (.inl rfl)))
  have hL3 := one_setCell hL2 (u := v')
  have hown3 := ownsRow_setCell_other hown' (a := ⟨Lb, 0, none⟩) hvL2 v'
  have HH : Hid (Kept (fun k => k = Lb ∨ v.ownBlock = some k) w (w2.setCell ⟨Lb, 0, none⟩ v') ∧ (w2.setCell ⟨Lb, 0, none⟩ v').heap[Lb]? = some (.cells #[v'] 25 (0, 0)) ∧ (w2.setCell ⟨Lb, 0, none⟩ v').ownsRow B 35 6 v' (m + 1) (xs ++ [i0, i1, i2, i3, i4, i5]) ∧ w.heap.size ≤ w2.heap.size) := ⟨k3, hL3, hown3, by have := k2.size; omega⟩
  clear k0 k2 k3 hL3 hown3 hown' hgrow hL2 hvL2 hvL hown
  rw [hv] at HH ⊢
  clear hv
  go_wp2
  go_ret
  obtain ⟨k3, hL3, hown3, hs⟩ := HH.out
  refine ⟨_, w2.heap.size, rfl, hs, ?_, (Below.heap_alloc _ _ _ (by simpa [World.setCell] using hlt2)).trans hL3, hown3.alloc _, k3.trans (Kept.alloc _ _ _)⟩
  have := heap_alloc_new (w2.setCell ⟨Lb, 0, none⟩ (.slice (some ⟨g, 0, none⟩) (m + 1) cp)) (.cells #[.int .i64 ((m : Int) + 1)] 38)
  simpa [World.setCell] using this

theorem cell_alloc {w : World} {b o : Nat} {v : Value} (h : w.cell? ⟨b, o, none⟩ = some v) (ob : Obj) : (w.alloc ob).cell? ⟨b, o, none⟩ = some v := by
  have hl := World.block_lt_of_cell? w _ h
  exact (World.cell?_of_block (Below.heap_alloc w ob b hl)).trans h

/-- A cell read behind one and behind two new blocks. -/
theorem cell_alloc2 {w : World} {b o : Nat} {v : Value} (h : w.cell? ⟨b, o, none⟩ = some v) : (∀ ob, (w.alloc ob).cell? ⟨b, o, none⟩ = some v) ∧ ∀ ob ob', ((w.alloc ob).alloc ob').cell? ⟨b, o, none⟩ = some v :=
  ⟨fun ob => cell_alloc h ob, fun ob ob' => cell_alloc (cell_alloc h ob) ob'⟩

theorem neq107 (a : Option Addr) (n c : Nat) (w : World) : (binOp BinOp.neq 107 (.slice a n c) (.slice none 0 0)).run Yba.prog w = .ok (.bool (!a.isNone)) w := run_neq_slice_nil_any w 107 3 a n c 0 0 Yba.underlying107

end Go.Proofs.Ybulktog
