/-
  A PROOF OF 'Rows.LawS0999CAppendSaid'. The frame is the one that proof-skeleton.mjs writes for this function; the walk is typed by hand.
-/
import Derived.Test.YbulktqyRows
import Derived.WalkKit
import Derived.ProofKit
import Derived.OpenShut
import Derived.WalkSpells
namespace Go.Proofs.Ybulktqy.lawS0999CAppend
open Go.ChangeShapes Go.WideShapes Go.ChangeAt Go.RowKit
set_option linter.unusedVariables false

theorem own : ownKnob Yba.prog.godebug = none := by kernel_rfl
theorem info5 : (Yba.prog.info? 5).map (fun i => (i.zero, i.size, i.bytes)) = some (some (.int .u8 0), 1, 1) := by kernel_rfl

theorem cells4 (w : World) (a b c d : Value) (t : TypeId) : ∀ j u, [a, b, c, d][j]? = some u → (w.alloc (.cells #[a, b, c, d] t)).cell? ((⟨w.heap.size, 0, none⟩ : Addr).add j) = some u := by
  intro j u hj
  match j, hj with
  | 0, hj => simp at hj; subst hj; simp [Addr.add]
  | 1, hj => simp at hj; subst hj; simp [Addr.add]
  | 2, hj => simp at hj; subst hj; simp [Addr.add]
  | 3, hj => simp at hj; subst hj; simp [Addr.add]

theorem cells3 (w : World) (a b c : Value) (t : TypeId) : ∀ j u, [a, b, c][j]? = some u → (w.alloc (.cells #[a, b, c] t)).cell? ((⟨w.heap.size, 0, none⟩ : Addr).add j) = some u := by
  intro j u hj
  match j, hj with
  | 0, hj => simp at hj; subst hj; simp [Addr.add]
  | 1, hj => simp at hj; subst hj; simp [Addr.add]
  | 2, hj => simp at hj; subst hj; simp [Addr.add]

theorem cells1 (w : World) (a : Value) (t : TypeId) : ∀ j u, [a][j]? = some u → (w.alloc (.cells #[a] t)).cell? ((⟨w.heap.size, 0, none⟩ : Addr).add j) = some u := by
  intro j u hj
  match j, hj with
  | 0, hj => simp at hj; subst hj; simp [Addr.add]

set_option maxRecDepth 100000 in
theorem appU32 (v : Value) (n : Nat) (xs : List Value) (x : Int) (hx0 : 0 ≤ x) (hx1 : x < 4294967296) (w : World) (B : Nat) (hB : B ≤ w.heap.size) (hn : n ≤ 100) (hown : w.ownsRow B 5 1 v n xs) :
    Calls Yba.prog 7 #[.agg #[], v, .int .u32 x] w fun e w' => ∃ v' ys, e = .returned v' ∧ w'.ownsRow B 5 1 v' (n + 4) ys ∧ Below B w w' := by
  obtain ⟨i0, hi, hz0, hz1, hz2⟩ := info_parts info5
  go_enter Yba.func7, Yba.ntmps7
  go_wp2_with (at_builtin; refine wpList_append_own _ rfl _ _ 27 rfl B 5 i0 (.int .u8 0) 1 1 Yba.underlying27 hi hz0 hz1 hz2 rfl (by decide) _ _ _ rfl ((hown.alloc _).alloc _) ⟨w.heap.size + 1, 0, none⟩ 4 4 [.int .u8 (x / 16777216), .int .u8 (x / 65536 % 256), .int .u8 (x / 256 % 256), .int .u8 (x % 256)] rfl rfl ?c1 ?c2 ?c3 ?c4 ?c5 ?_)
  case c1 => simpa using cells4 (w.alloc (Obj.cells #[] 30)) _ _ _ _ 5
  case c2 => simp [Value.oneCell']
  case c3 => unfold maxLen; omega
  case c4 => omega
  case c5 => simp; omega
  · intro v' w1 hown' hgrow _
    have hb : Below B w w1 := (((Below.refl B w).alloc hB _).alloc (by simp; omega) _).grown hgrow (by simp; omega) (fun k hk => (hown.lt k hk).1)
    clear hgrow hown
    go_wp2
    go_ret
    exact ⟨v', _, rfl, hown', hb⟩


theorem own_shape {w : World} {B n : Nat} {v : Value} {ys : List Value} (h : w.ownsRow B 5 1 v n ys) (hn : 0 < n) : ∃ g cap, v = .slice (some ⟨g, 0, none⟩) n cap := by
  rcases h.2 with ⟨_, h0⟩ | ⟨g, cap, cur, rfl, _⟩
  · omega
  · exact ⟨g, cap, rfl⟩

/-- The five fields' cells of a block of five. -/
def Five (w : World) (b : Nat) (x0 x1 x2 x3 x4 : Value) : Prop :=
  w.cell? ⟨b, 0, none⟩ = some x0 ∧ w.cell? ⟨b, 1, none⟩ = some x1 ∧ w.cell? ⟨b, 2, none⟩ = some x2 ∧ w.cell? ⟨b, 3, none⟩ = some x3 ∧ w.cell? ⟨b, 4, none⟩ = some x4

theorem five_below {w w' : World} {b B : Nat} {x0 x1 x2 x3 x4 : Value} (h : Five w b x0 x1 x2 x3 x4) (hb : Below B w w') (hlt : b < B) : Five w' b x0 x1 x2 x3 x4 :=
  ⟨(hb.cell (p := ⟨b, 0, none⟩) hlt).trans h.1, (hb.cell (p := ⟨b, 1, none⟩) hlt).trans h.2.1, (hb.cell (p := ⟨b, 2, none⟩) hlt).trans h.2.2.1, (hb.cell (p := ⟨b, 3, none⟩) hlt).trans h.2.2.2.1, (hb.cell (p := ⟨b, 4, none⟩) hlt).trans h.2.2.2.2⟩

theorem five_new (w : World) (x0 x1 x2 x3 x4 : Value) (t : TypeId) : Five (w.alloc (.cells #[x0, x1, x2, x3, x4] t)) w.heap.size x0 x1 x2 x3 x4 := by
  refine ⟨?_, ?_, ?_, ?_, ?_⟩ <;> simp

/-- The coded length: 11 in mode 2, else 9. -/
def octets (m : Int) : Nat := if m == 2 then 11 else 9

set_option maxRecDepth 100000 in
theorem hdrApp (a0 a1 a2 a3 a4 : Int) (h0 : 0 ≤ a0) (h0' : a0 < 4294967296) (h1 : 0 ≤ a1) (h1' : a1 < 4294967296) (w : World) :
    Calls Yba.prog 6 #[.agg #[.int .u32 a0, .int .u32 a1, .int .i64 a2, .int .u8 a3, .int .u8 a4], .slice none 0 0] w fun e w' => (∃ g cap, e = .returned (.slice (some ⟨g, 0, none⟩) (octets a2) cap)) ∧ Below w.heap.size w w' := by
  obtain ⟨i0, hi, hz0, hz1, hz2⟩ := info_parts info5
  go_enter Yba.func6, Yba.ntmps6
  go_wp2_with fail
  have F0 := five_new w (.int .u32 a0) (.int .u32 a1) (.int .i64 a2) (.int .u8 a3) (.int .u8 a4) 24
  have B0 : Below w.heap.size w (w.alloc (.cells #[.int .u32 a0, .int .u32 a1, .int .i64 a2, .int .u8 a3, .int .u8 a4] 24)) := (Below.refl _ _).alloc (Nat.le_refl _) _
  refine (appU32 (.slice none 0 0) 0 [] a0 h0 h0' _ (w.heap.size + 1) (by simp) (by omega) (World.ownsRow_nil _ _ _ _)).mono ?_
  rintro e w1 ⟨v1, ys1, rfl, hown1, hb1⟩
  have F1 := five_below F0 hb1 (by omega)
  have B1 := B0.trans (hb1.mono (by omega))
  have hs1 := hb1.size
  simp at hs1
  clear F0 B0 hb1
  have F1' := F1
  obtain ⟨c0, c1, c2, c3, c4⟩ := F1'
  go_wp2_with fail
  refine (appU32 v1 (0 + 4) ys1 a1 h1 h1' _ (w.heap.size + 1) (by omega) (by omega) hown1).mono ?_
  rintro e w2 ⟨v2, ys2, rfl, hown2, hb2⟩
  have F2 := five_below F1 hb2 (by omega)
  have B2 := B1.trans (hb2.mono (by omega))
  have hs2 := hb2.size
  clear c0 c1 c2 c3 c4 F1 B1 hb2 hown1
  obtain ⟨c0, c1, c2, c3, c4⟩ := F2
  by_cases hm : a2 = 2
  · have hm' : (a2 == 2) = true := by simpa using hm
    go_wp2_with (at_builtin; refine wpList_append_own _ rfl _ _ 27 rfl (w.heap.size + 1) 5 i0 (.int .u8 0) 1 1 Yba.underlying27 hi hz0 hz1 hz2 rfl (by decide) _ _ _ rfl (hown2.alloc _) ⟨w2.heap.size, 0, none⟩ 3 3 [.int .u8 1, .int .u8 a3, .int .u8 a4] rfl rfl ?c1 ?c2 ?c3 ?c4 ?c5 ?_)
    case c1 => exact cells3 w2 _ _ _ 5
    case c2 => simp [Value.oneCell']
    case c3 => unfold maxLen; omega
    case c4 => omega
    case c5 => simp; omega
    · intro v' w3 hown' hgrow _
      have hb : Below w.heap.size w w3 := (B2.alloc (by omega) _).grown hgrow (by simp; omega) (fun k hk => by have := (hown2.lt k hk).1; omega)
      obtain ⟨g, cap, hv⟩ := own_shape hown' (by omega)
      rw [hv]
      clear hgrow hown' hown2 hv
      go_wp2
      go_ret
      exact ⟨⟨g, cap, by subst hm; rfl⟩, hb⟩
  · have hm' : (a2 == 2) = false := by simpa using hm
    go_wp2_with (at_builtin; refine wpList_append_own _ rfl _ _ 27 rfl (w.heap.size + 1) 5 i0 (.int .u8 0) 1 1 Yba.underlying27 hi hz0 hz1 hz2 rfl (by decide) _ _ _ rfl (hown2.alloc _) ⟨w2.heap.size, 0, none⟩ 1 1 [.int .u8 0] rfl rfl ?d1 ?d2 ?d3 ?d4 ?d5 ?_)
    case d1 => exact cells1 w2 _ 5
    case d2 => simp [Value.oneCell']
    case d3 => unfold maxLen; omega
    case d4 => omega
    case d5 => simp; omega
    · intro v' w3 hown' hgrow _
      have hb : Below w.heap.size w w3 := (B2.alloc (by omega) _).grown hgrow (by simp; omega) (fun k hk => by have := (hown2.lt k hk).1; omega)
      obtain ⟨g, cap, hv⟩ := own_shape hown' (by omega)
      rw [hv]
      clear hgrow hown' hown2 hv
      go_wp2
      go_ret
      exact ⟨⟨g, cap, by rw [octets, hm']; rfl⟩, hb⟩

set_option maxRecDepth 100000 in
theorem walk (a0 : Int) (a1 : Int) (a2 : Int) (a3 : Int) (a4 : Int) (w0 : (Lit.int .u32 a0).wf = true) (w1 : (Lit.int .u32 a1).wf = true) (w2 : (Lit.int .i64 a2).wf = true) (w3 : (Lit.int .u8 a3).wf = true) (w4 : (Lit.int .u8 a4).wf = true) (w : World) :
    Calls Yba.prog 4 #[.int .u32 a0, .int .u32 a1, .int .i64 a2, .int .u8 a3, .int .u8 a4] w fun e w' => e = .returned (.bool true) ∧ Below w.heap.size w w' := by
  have b0 := bounds_u32 w0
  have b1 := bounds_u32 w1
  clear w0 w1 w2 w3 w4
  go_enter Yba.func4, Yba.ntmps4
  go_wp2_with fail
  have F0 := five_new w (.int .u32 a0) (.int .u32 a1) (.int .i64 a2) (.int .u8 a3) (.int .u8 a4) 24
  have B0 : Below w.heap.size w (w.alloc (.cells #[.int .u32 a0, .int .u32 a1, .int .i64 a2, .int .u8 a3, .int .u8 a4] 24)) := (Below.refl _ _).alloc (Nat.le_refl _) _
  refine (hdrApp a0 a1 a2 a3 a4 (by omega) (by omega) (by omega) (by omega) _).mono ?_
  rintro e w1 ⟨⟨g, cap, rfl⟩, hb1⟩
  have F1 := five_below F0 hb1 (by simp)
  have B1 := B0.trans (hb1.mono (by simp))
  have hs1 := hb1.size
  simp at hs1
  clear F0 B0 hb1
  obtain ⟨c0, c1, c2, c3, c4⟩ := F1
  by_cases hm : a2 = 2
  · subst hm
    go_wp2
    go_ret
    exact ⟨rfl, B1.alloc (by omega) _⟩
  · have hm' : (a2 == 2) = false := by simpa using hm
    have ho : octets a2 = 9 := by rw [octets, hm']; rfl
    rw [ho]
    clear ho
    go_wp2
    go_ret
    exact ⟨rfl, B1.alloc (by omega) _⟩
/-! ### THE ROW's STEP: WRITTEN OUT: LEAVE IT -/
set_option maxRecDepth 100000 in
theorem lifted (os : Os) (started : os.Started) (H : Type) (enc : TypeId × Value → H) :
    ReturnsInHanded {} Yba.checked os 4 .any (Rows.lawS0999CAppendSpec.pre6 enc Yba.prog Yba.f4 Rows.lawS0999CAppendRow.domain false) (Rows.lawS0999CAppendSpec.post enc Yba.prog Yba.f4 false true false false) := by
  refine returnsInHanded_of_change (C := Yba.checked) own started (by kernel_rfl) Yba.func4
    (ChangeSpec.witness6 (enc := enc) (C := Yba.checked) false ⟨#[], #[.int .u32 0, .int .u32 0, .int .i64 0, .int .u8 0, .int .u8 0], []⟩ 8 (by kernel_rfl) (by kernel_rfl) (by kernel_rfl) (by kernel_rfl)) ?_
  intro W base args ds gs before hval0 hW hcnd _
  have hval : ∀ (j : Nat) t v, Yba.f4.params[j]? = some t → args[j]? = some v → Value.okWide Yba.prog W .any base t v := hval0
  have hW' := hW
  obtain ⟨p, q, hA0, hV, rfl, hfz, hnd⟩ := hW
  have hA : DataW.TrodAll enc Yba.prog W 0 (fun _ => true) true Yba.f4.params.toList args.toList ds p := hA0
  rw [Yba.params4] at hA hval
  obtain ⟨v0, vs0, d0, ds0, p0, q0, hargs, rfl, rfl, h0, r0⟩ := trodAll_cons hA
  obtain ⟨v1, vs1, d1, ds1, p1, q1, rfl, rfl, rfl, h1, r1⟩ := trodAll_cons r0
  obtain ⟨v2, vs2, d2, ds2, p2, q2, rfl, rfl, rfl, h2, r2⟩ := trodAll_cons r1
  obtain ⟨v3, vs3, d3, ds3, p3, q3, rfl, rfl, rfl, h3, r3⟩ := trodAll_cons r2
  obtain ⟨v4, vs4, d4, ds4, p4, q4, rfl, rfl, rfl, h4, r4⟩ := trodAll_cons r3
  obtain ⟨rfl, rfl, rfl⟩ := trodAll_nil r4
  obtain rfl : args = #[v0, v1, v2, v3, v4] := by cases args; simp_all
  obtain ⟨rfl, rfl⟩ := trodVars_none hV
  obtain ⟨a0, rfl, rfl, rfl, w0⟩ := open_int Yba.underlying22 (hval 0 22 v0 rfl rfl) h0
  obtain ⟨a1, rfl, rfl, rfl, w1⟩ := open_int Yba.underlying22 (hval 1 22 v1 rfl rfl) h1
  obtain ⟨a2, rfl, rfl, rfl, w2⟩ := open_int Yba.underlying3 (hval 2 3 v2 rfl rfl) h2
  obtain ⟨a3, rfl, rfl, rfl, w3⟩ := open_int Yba.underlying5 (hval 3 5 v3 rfl rfl) h3
  obtain ⟨a4, rfl, rfl, rfl, w4⟩ := open_int Yba.underlying5 (hval 4 5 v4 rfl rfl) h4
  clear hA0 hval0
  simp only [List.append_nil] at hW'
  refine (walk a0 a1 a2 a3 a4 w0 w1 w2 w3 w4 W).mono fun e W' ⟨he, hg⟩ => ?_
  subst he
  exact ⟨_, rfl, _, _, _, [], [], [], hW', trodAll_mk1 (shut_bool Yba.underlying4 _), (trodAll_cons_mk (shut_int Yba.underlying22 w0) (trodAll_cons_mk (shut_int Yba.underlying22 w1) (trodAll_cons_mk (shut_int Yba.underlying3 w2) (trodAll_cons_mk (shut_int Yba.underlying5 w3) (trodAll_cons_mk (shut_int Yba.underlying5 w4) trodAll_mk0))))), rfl, hg.frame _, fun h => by cases h⟩

theorem over : Rows.lawS0999CAppendRow.holds Yba.pinned (OpenSpec.ofChange Rows.lawS0999CAppendSpec) :=
  OpenClaim.holds_of_wide 4 Yba.f4 rfl rfl rfl rfl rfl rfl rfl ⟨rfl, rfl, rfl, rfl, rfl⟩ rfl rfl rfl rfl rfl (by kernel_rfl) Yba.func4 (by kernel_rfl)
    (of_decide_eq_true (by kernel_rfl)) (by unfold Func.isWrapper; first | (rw [if_pos (by decide +kernel)]; kernel_rfl) | (rw [if_neg (by decide +kernel)]; exact ⟨rfl, rfl⟩))
    (fun os started H enc _ => lifted os started H enc)

/-- ████ THE STATEMENT ████ -/
theorem proved : Rows.LawS0999CAppendSaid :=
  over
end Go.Proofs.Ybulktqy.lawS0999CAppend
