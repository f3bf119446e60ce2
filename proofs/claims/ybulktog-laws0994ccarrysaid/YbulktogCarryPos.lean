/-
  LawS0994CCarry: the walk where the earlier list is not empty.
-/
import Derived.Test.YbulktogCarryMid

namespace Go.Proofs.Ybulktog.lawS0994CCarry
open Go.ChangeShapes Go.WideShapes Go.ChangeAt Go.RowKit

/-- The log, the balancer: the world behind the head. -/
structure HeadW (w w2 : World) : Prop where
  size : w2.heap.size = w.heap.size + 2
  below : Below w.heap.size w w2
  log : w2.heap[w.heap.size]? = some (.cells #[.slice none 0 0] 25 (0, 0))
  bal : Bal w2 (w.heap.size + 1) w.heap.size

def balC (L : Nat) : Array Value := #[Value.string { data := #[] }, Value.pointer none, Value.int IntKind.i32 0, Value.int IntKind.u32 0,
        Value.int IntKind.u64 0, Value.int IntKind.i64 0, Value.int IntKind.i32 0, Value.int IntKind.u32 0,
        Value.int IntKind.u64 0, Value.bool false, Value.pointer none, Value.slice none 0 0, Value.int IntKind.u64 0,
        Value.bool false, Value.int IntKind.u64 0, Value.int IntKind.u32 0,
        Value.func (Fn.func 9) #[] #[Value.pointer (some { block := L, off := 0 })],
        Value.bool false, Value.pointer none, Value.nilIface, Value.int IntKind.i64 0, Value.int IntKind.i64 0,
        Value.pointer none, Value.pointer none, Value.string { data := #[] }, Value.string { data := #[] },
        Value.string { data := #[] }, Value.int IntKind.i64 0]

theorem headW (w : World) : HeadW w ((w.alloc (.cells #[.slice none 0 0] 25)).alloc (.cells (balC w.heap.size) 71)) := by
  have e1 := heap_alloc_new w (.cells #[.slice none 0 0] 25)
  have e2 := heap_alloc_new (w.alloc (.cells #[.slice none 0 0] 25)) (.cells (balC w.heap.size) 71)
  simp only [size_alloc] at e2
  refine ⟨by simp only [size_alloc], ((Below.refl _ _).alloc (Nat.le_refl _) _).alloc (by simp) _, (Below.heap_alloc _ _ _ (by simp)).trans e1, ?_⟩
  exact ⟨cell_of_row _ _ 16 _ _ _ e2, cell_of_row _ _ 18 _ _ _ e2, cell_of_row _ _ 22 _ _ _ e2, cell_of_row _ _ 25 _ _ _ e2, cell_of_row _ _ 26 _ _ _ e2⟩

set_option maxHeartbeats 4000000 in
set_option maxRecDepth 100000 in
theorem walk_pos (aa ab : Option Addr) (na ca nb cb : Nat) (aids ids : Nat → ByteArray) (w : World) (hna : na ≤ 1024) (hnb : nb ≤ 1024) (hz : 0 < na) (hsa : Strs w aa na aids) (hsb : Strs w ab nb ids) :
    Calls Yba.prog 4 #[.slice aa na ca, .slice ab nb cb] w fun e w' => e = .returned (.bool true) ∧ Below w.heap.size w w' := by
  have hl1 : ¬ (1024 : Int) < (na : Int) := by omega
  have hl2 : ¬ (1024 : Int) < (nb : Int) := by omega
  have HSA : Hid (Strs w aa na aids) := hsa
  have HSB : Hid (Strs w ab nb ids) := hsb
  clear hsa hsb
  go_enter Yba.func4, Yba.ntmps4
  go_wp2_with fail
  obtain ⟨w2, hw2⟩ : ∃ w2, w2 = ((w.alloc (.cells #[.slice none 0 0] 25)).alloc (.cells (balC w.heap.size) 71)) := ⟨_, rfl⟩
  have hH := headW w
  rw [← hw2] at hH
  unfold balC at hw2
  rw [← hw2]
  clear hw2
  refine (insts_any aa na ca aids w2 hna (HSA.out.keep hH.below)).mono ?_
  rintro e w3 ⟨rfl, hin⟩
  have hs2 := hH.size
  have hs3 := hin.size
  have b3 := hH.below.trans (hin.below.mono (by omega))
  have B3 : Bal w3 (w.heap.size + 1) w.heap.size := hH.bal.turn (hin.below.block _ (by omega))
  have L3 : w3.heap[w.heap.size]? = some (.cells #[.slice none 0 0] 25 (0, 0)) := (hin.below.block _ (by omega)).trans hH.log
  have id3 := insts_ids hin
  have HS2 : Hid (w2.heap.size = w.heap.size + 2 ∧ w3.heap.size = w2.heap.size + 1) := ⟨hs2, hs3⟩
  clear hs2 hs3 hin hH
  go_wp2_with fail
  refine (fleetB1 w3 (w.heap.size + 1) w2.heap.size w.heap.size na aids hna B3 id3 L3).mono ?_
  rintro e w4 ⟨rfl, mbA, xbA, memA, gvA, hFA, hk4, hend⟩
  obtain ⟨hs2, hs3⟩ := HS2.out
  have hs4 := hk4.size
  have b4 : Below w.heap.size w w4 := b3.trans (hk4.below (by omega) (fun k hk => by omega))
  have B4 : Bal w4 (w.heap.size + 1) w.heap.size := B3.turn (hk4.block _ (by omega) (by omega))
  rcases hend with ⟨h0, _⟩ | ⟨_, gbA, gcA, pkA, Z, v, rfl, hE⟩
  · omega
  obtain ⟨lgA, lcA, hv⟩ := own_shape hE.l (by omega)
  subst hv
  have cL4 := cell_of_one hE.L
  have HS4 : Hid (w2.heap.size = w.heap.size + 2 ∧ w3.heap.size = w2.heap.size + 1 ∧ w3.heap.size ≤ w4.heap.size) := ⟨hs2, hs3, hs4⟩
  clear hs2 hs3 hs4 HS2 B3 L3 id3 hk4 b3
  go_wp2_with fail
  refine (insts_any ab nb cb ids w4 hnb (HSB.out.keep b4)).mono ?_
  rintro e w5 ⟨rfl, hin5⟩
  obtain ⟨hs2, hs3, hs4⟩ := HS4.out
  have hs5 := hin5.size
  have k5 : ∀ S, Kept S w4 w5 := fun S => Kept.ofBelow hin5.below (fun k hk hk' => by omega)
  have b5 : Below w.heap.size w w5 := b4.trans (hin5.below.mono (by omega))
  have B5 : Bal w5 (w.heap.size + 1) w.heap.size := B4.turn (hin5.below.block _ (by omega))
  have id5 := insts_ids hin5
  have FA5 := hFA.keepZ (k5 (fun _ => False)) (Z := Z) (fun k hk => hk.elim) hE.nz hE.mz
  have L5 := (hin5.below.block _ (by omega)).trans hE.L
  have l5 := own_same hE.l (w' := w5) (fun r hr => hin5.below.block _ (hE.l.lt r hr).2)
  have G5 := hE.grp.turn (hin5.below.block _ (World.block_lt_of_cell? w4 _ hE.grp.g0))
  have hzl := (hE.l.lt lgA rfl)
  have hglow := hE.glow
  have hgz := hE.gz
  have hnz := hE.nz
  have hmz := hE.mz
  have hmemA : ∀ i, i < na → memA i < w4.heap.size := fun i hi => lt_of_block (hFA.new i hi (by simp)).2
  have HS5 : Hid (w5.heap.size = w4.heap.size + 1 ∧ w2.heap.size = w.heap.size + 2 ∧ w3.heap.size = w2.heap.size + 1 ∧ w3.heap.size ≤ w4.heap.size) := ⟨hs5, hs2, hs3, hs4⟩
  clear hs5 hs2 hs3 hs4 HS4 B4 b4 hin5 hE hFA cL4 k5
  go_wp2_with fail
  refine (fleetB2 w5 (w.heap.size + 1) w4.heap.size w.heap.size nb (w3.heap.size + 2) mbA xbA na Z 1 ids aids memA _ _ hnb (by omega) (by have := HS5.out; omega) B5 id5 (FA5.cell 1) (FA5.cell 2) FA5.mcell FA5.index L5 l5 (by simp [inL]) (InpP nb pkA (fun i => lastIn aids (ids i) na))
    (fun mb xb mem X hnf gb w1 hb1 hg0 hg1 => gi_pos w5 (w.heap.size + 1) w4.heap.size w.heap.size nb (w3.heap.size + 2) na gbA gcA pkA _ _ ids _ memA hnb hna B5 (FA5.cell 0) (FA5.cell 3) G5 (pos_bounds aids ids na nb) mb xb mem X hnf gb w1 hb1 hg0 hg1)).mono ?_
  rintro e w6 ⟨rfl, mbB, xbB, memB, gvB, FB, hk6, hend6⟩
  obtain ⟨hs5, hs2, hs3, hs4⟩ := HS5.out
  have hs6 := hk6.size
  have hS6 : ∀ k, (k = w.heap.size ∨ (Value.slice (some ⟨lgA, 0, none⟩) 1 lcA).ownBlock = some k) → k < w3.heap.size ∨ Z ≤ k := fun k hk => by
    rcases hk with rfl | hk
    · exact .inl (by omega)
    · simp only [Value.ownBlock, Option.some.injEq] at hk; exact .inr (by omega)
  have b6 : Below w.heap.size w w6 := b5.trans (hk6.below (by omega) (fun k hk => by rcases hk with h | h <;> first | omega | (simp only [Value.ownBlock, Option.some.injEq] at h; omega)))
  have FA := FA5.keepZ hk6 hS6 hnz hmz
  have G6 := G5.turn (hk6.block _ (World.block_lt_of_cell? w5 _ G5.g0) (fun h => by have := hS6 _ h; omega))
  have sa := HSA.out.keep b6
  have sb := HSB.out.keep b6
  have e1 : w6.cell? ⟨w3.heap.size + 2, 1, none⟩ = some (.slice (some ⟨mbA, 0, none⟩) na na) := FA.cell 1
  have e3 : w6.cell? ⟨w3.heap.size + 2, 3, none⟩ = some (.slice (some ⟨gbA, 0, none⟩) 1 gcA) := FA.cell 3
  have f1 : w6.cell? ⟨w5.heap.size + 2, 1, none⟩ = some (.slice (some ⟨mbB, 0, none⟩) nb nb) := FB.cell 1
  have f3 : w6.cell? ⟨w5.heap.size + 2, 3, none⟩ = some gvB := FB.cell 3
  have hn93 := neq93_same
  have mA := FA.mcell
  have eAB : ∀ j i, j < na → i < nb → lastIn aids (ids i) na < 0 → (binOp BinOp.eql 93 (.pointer (some ⟨memA j, 0, none⟩)) (.pointer (some ⟨memB i, 0, none⟩))).run Yba.prog w6 = .ok (.bool false) w6 := fun j i hj hi hp =>
    eql93_other (by have := hmemA j hj; have := (FB.new i hi hp).1; omega) (FA.new j hj (by simp)).2 (FB.new i hi hp).2
  have eBB : ∀ j i, j < i → i < nb → lastIn aids (ids i) na < 0 → (binOp BinOp.eql 93 (.pointer (some ⟨memB j, 0, none⟩)) (.pointer (some ⟨memB i, 0, none⟩))).run Yba.prog w6 = .ok (.bool false) w6 := fun j i hj hi hp => by
    by_cases hq : lastIn aids (ids j) na < 0
    · exact eql93_other (by have := FB.incr j i hj hi hq hp; omega) (FB.new j (by omega) hq).2 (FB.new i hi hp).2
    · have ho := FB.old j (by omega) (by show 0 ≤ lastIn aids (ids j) na; omega)
      have hlt := lastIn_lt aids (ids j) na (by omega)
      rw [ho]
      exact eql93_other (by have := hmemA _ hlt; have := (FB.new i hi hp).1; omega) (FA.new _ hlt (by simp)).2 (FB.new i hi hp).2
  have mB : ∀ i, i < nb → w6.cell? ⟨mbB, i, none⟩ = some (.pointer (some ⟨memB i, 0, none⟩)) := FB.mcell
  have mBo : ∀ i, i < nb → 0 ≤ lastIn aids (ids i) na → w6.cell? ⟨mbB, i, none⟩ = some (.pointer (some ⟨memA (lastIn aids (ids i) na).toNat, 0, none⟩)) := fun i hi hp => by rw [← FB.old i hi hp]; exact FB.mcell i hi
  have HAB : Hid (∀ j i, j < na → i < nb → lastIn aids (ids i) na < 0 → (binOp BinOp.eql 93 (.pointer (some ⟨memA j, 0, none⟩)) (.pointer (some ⟨memB i, 0, none⟩))).run Yba.prog w6 = .ok (.bool false) w6) := eAB
  have HBB : Hid (∀ j i, j < i → i < nb → lastIn aids (ids i) na < 0 → (binOp BinOp.eql 93 (.pointer (some ⟨memB j, 0, none⟩)) (.pointer (some ⟨memB i, 0, none⟩))).run Yba.prog w6 = .ok (.bool false) w6) := eBB
  have HMB : Hid (∀ i, i < nb → w6.cell? ⟨mbB, i, none⟩ = some (.pointer (some ⟨memB i, 0, none⟩))) := mB
  have HMO : Hid (∀ i, i < nb → 0 ≤ lastIn aids (ids i) na → w6.cell? ⟨mbB, i, none⟩ = some (.pointer (some ⟨memA (lastIn aids (ids i) na).toNat, 0, none⟩))) := mBo
  have HMA : Hid (∀ j, j < na → w6.cell? ⟨mbA, j, none⟩ = some (.pointer (some ⟨memA j, 0, none⟩))) := mA
  have HSA6 : Hid (Strs w6 aa na aids) := sa
  have HSB6 : Hid (Strs w6 ab nb ids) := sb
  have hend6' : Hid (OrA nb gvB (w6.heap[w.heap.size]? = some (.cells #[.slice (some ⟨lgA, 0, none⟩) 1 lcA] 25 (0, 0)) ∧ w6.ownsRow Z 35 6 (.slice (some ⟨lgA, 0, none⟩) 1 lcA) 1 (inL w2.heap.size na mbA .nilIface (.slice none 0 0))) (∃ gb gc v' i4 i5 w1' w2', gvB = .slice (some ⟨gb, 0, none⟩) 1 gc ∧ EndB2 w5 w6 w.heap.size w4.heap.size nb mbB Z 1 (inL w2.heap.size na mbA .nilIface (.slice none 0 0)) (InpP nb pkA (fun i => lastIn aids (ids i) na)) v' i4 i5 w1' w2')) := hend6
  clear eAB eBB mB mBo mA sa sb hend6 FA FB hk6 hS6 b5 B5 id5 FA5 L5 l5 G5 hmemA hs5 hs2 hs3 hs4 hs6 HS5 hzl hglow hgz hnz hmz
  go_wp2
  go_loop [54] (fun i => ∃ k : Nat, k ≤ nb ∧ i = .int .i64 k) (fun i => nb - (intOf i).toNat)
  case atStart => exact ⟨0, Nat.zero_le _, rfl⟩
  case round =>
    obtain ⟨k, hk, rfl⟩ := hrel
    by_cases hlt : k < nb
    · obtain ⟨x, hxe, hx⟩ := HSB6.out k hlt
      subst hxe
      by_cases hp : 0 ≤ lastIn aids (ids k) na
      · have hlt2 := lastIn_lt aids (ids k) na hp
        have hpn : lastIn aids (ids k) na < (na : Int) := by omega
        have m1 := HMO.out k hlt hp
        have m2 := HMA.out _ hlt2
        go_wp2_with (go_at_call 8; refine (last_any aa na ca aids (ids k) _ hna (by exact HSA6.out)).mono ?_; rintro e w' ⟨rfl, rfl⟩)
        go_round
        case rel => exact ⟨k + 1, by omega, by go_num⟩
        case measure => simp [intOf]; omega
      · have hp' : lastIn aids (ids k) na < 0 := by omega
        have m1 := HMB.out k hlt
        go_wp2_with (go_at_call 8; refine (last_any aa na ca aids (ids k) _ hna (by exact HSA6.out)).mono ?_; rintro e w' ⟨rfl, rfl⟩)
        go_loop [88] (fun i => ∃ j : Nat, j ≤ na ∧ i = .int .i64 j) (fun i => na - (intOf i).toNat)
        case atStart => exact ⟨0, Nat.zero_le _, rfl⟩
        case round =>
          obtain ⟨j, hj, rfl⟩ := hrel
          by_cases hjl : j < na
          · have m2 := HMA.out j hjl
            have he := HAB.out j k hjl hlt hp'
            go_wp2
            go_round
            case rel => exact ⟨j + 1, by omega, by go_num⟩
            case measure => simp [intOf]; omega
          · go_wp2
            go_loop [14] (fun i => ∃ j : Nat, j ≤ k ∧ i = .int .i64 j) (fun i => k - (intOf i).toNat)
            case atStart => exact ⟨0, Nat.zero_le _, rfl⟩
            case round =>
              obtain ⟨t, ht, rfl⟩ := hrel
              by_cases htl : t < k
              · have m2 := HMB.out t (by omega)
                have he := HBB.out t k htl hlt hp'
                go_wp2
                go_round
                case rel => exact ⟨t + 1, by omega, by go_num⟩
                case measure => simp [intOf]; omega
              · go_wp2
                go_round
                case rel => exact ⟨k + 1, by omega, by go_num⟩
                case measure => simp [intOf]; omega
    · obtain rfl : k = nb := by omega
      rcases hend6'.out with ⟨rfl, rfl, hL6, hl6⟩ | ⟨hn0, gb, gc, v', i4, i5, w1', w2', rfl, hEB⟩
      · have cL := cell_of_one hL6
        go_wp2
        go_ret
        exact ⟨rfl, b6⟩
      · have hpos := pos_bounds aids ids na k
        obtain ⟨lg, lc, hv⟩ := own_shape hEB.l (by omega)
        subst hv
        obtain ⟨rfl, ib, hib, rfl, hints⟩ := hEB.inp
        have cL := cell_of_one hEB.L
        have q0 : w6.cell? ⟨lg, 6, none⟩ = some (.slice (some ⟨w4.heap.size, 0, none⟩) k k) := hEB.l.cellAt 6 (by omega)
        have q1 : w6.cell? ⟨lg, 7, none⟩ = some (.slice (some ⟨mbB, 0, none⟩) k k) := hEB.l.cellAt 7 (by omega)
        have q2 : w6.cell? ⟨lg, 8, none⟩ = some (.pointer none) := hEB.l.cellAt 8 (by omega)
        have q3 : w6.cell? ⟨lg, 9, none⟩ = some (.pointer none) := hEB.l.cellAt 9 (by omega)
        have q4 : w6.cell? ⟨lg, 10, none⟩ = some (.iface 36 (.pointer (some ⟨pkA, 0, none⟩))) := hEB.l.cellAt 10 (by omega)
        have q5 : w6.cell? ⟨lg, 11, none⟩ = some (.slice (some ⟨ib, 0, none⟩) k k) := hEB.l.cellAt 11 (by omega)
        have hI : Ints w6 ib k (fun i => lastIn aids (ids i) na) k := by
          have h1 : ib < w2'.heap.size := by obtain ⟨cur, h1, _⟩ := hints; exact lt_of_block h1
          exact hints.same (hEB.kept ib hib h1)
        have hzi : ((na : Int) == 0) = false := by simp; omega
        have e3a := cell_alloc e3
        have g2a := cell_alloc G6.g2
        have hn32 := neq32_same
        have HI : Hid (Ints w6 ib k (fun i => lastIn aids (ids i) na) k) := hI
        clear hI hints hpos hEB
        go_wp2
        go_quiet (fail)
        obtain ⟨w7, hw7⟩ : ∃ w7, w7 = w6.alloc (.cells #[.slice (some ⟨w4.heap.size, 0, none⟩) k k, .slice (some ⟨mbB, 0, none⟩) k k, .pointer none, .pointer none, .iface 36 (.pointer (some ⟨pkA, 0, none⟩)), .slice (some ⟨ib, 0, none⟩) k k] 35) := ⟨_, rfl⟩
        have b7 : Below w.heap.size w w7 := by rw [hw7]; exact b6.alloc b6.size _
        have c57 : w7.cell? ⟨w6.heap.size, 5, none⟩ = some (.slice (some ⟨ib, 0, none⟩) k k) := by rw [hw7, World.cell?_alloc_new]; rfl
        have HI7 : Hid (∀ j, j < k → w7.cell? ⟨ib, j, none⟩ = some (.int .i64 (lastIn aids (ids j) na))) := fun j hj => by rw [hw7]; exact cell_alloc (HI.out.cell hj) _
        have HA7 : Hid (Strs w7 aa na aids) := HSA.out.keep b7
        have HB7 : Hid (Strs w7 ab k ids) := HSB.out.keep b7
        rw [← hw7]
        clear hw7 e3a g2a e1 e3 f1 f3 cL q0 q1 q2 q3 q4 q5 HI HAB HBB HMB HMO HMA HSA6 HSB6 hend6' G6
        go_wp2
        go_loopw [187] (fun i wr => ∃ j q : Nat, j ≤ k ∧ i = .int .i64 j ∧ wr = w7.drewN q) (fun i _ => k - (intOf i).toNat)
        case atStart => exact ⟨0, _, Nat.zero_le _, rfl, rfl⟩
        case round =>
          obtain ⟨j, q, hj, rfl, hwr⟩ := hrel
          by_cases hjl : j < k
          · obtain ⟨x, hxe, hx⟩ := HB7.out j hjl
            subst hxe
            have hxr : wr.cell? (x.add j) = some (.string (ids j)) := by rw [hwr]; exact hx
            have hij : wr.cell? ⟨ib, j, none⟩ = some (.int .i64 (lastIn aids (ids j) na)) := by rw [hwr]; exact HI7.out j hjl
            have c5r : wr.cell? ⟨w6.heap.size, 5, none⟩ = some (.slice (some ⟨ib, 0, none⟩) k k) := by rw [hwr]; exact c57
            have HAr : Hid (Strs wr aa na aids) := by rw [hwr]; exact HA7.out
            have HWR : Hid (wr = w7.drewN q) := hwr
            clear hwr hx
            go_wp2
            go_quiet ((go_at_call 8; exact Calls.quiet_of_same (last_any aa na ca aids (ids j) _ hna (by exact HAr.out))))
            go_wp2
            go_roundw
            case rel => exact ⟨j + 1, q + _, by omega, by go_num, by rw [HWR.out, World.drewN_drewN]⟩
            case measure => simp [intOf]; omega
          · subst hwr
            go_wp2
            go_ret
            exact ⟨rfl, below_drewN b7 _⟩
end Go.Proofs.Ybulktog.lawS0994CCarry
