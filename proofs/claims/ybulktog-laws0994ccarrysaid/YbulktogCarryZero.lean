/-
  LawS0994CCarry: the walk where the earlier list is empty.
-/
import Derived.Test.YbulktogCarryPos
namespace Go.Proofs.Ybulktog.lawS0994CCarry
open Go.ChangeShapes Go.WideShapes Go.ChangeAt Go.RowKit

set_option maxHeartbeats 4000000 in
set_option maxRecDepth 100000 in
theorem walk_zero (aa ab : Option Addr) (na ca nb cb : Nat) (aids ids : Nat → ByteArray) (w : World) (hna : na ≤ 1024) (hnb : nb ≤ 1024) (hz : na = 0) (hsa : Strs w aa na aids) (hsb : Strs w ab nb ids) :
    Calls Yba.prog 4 #[.slice aa na ca, .slice ab nb cb] w fun e w' => e = .returned (.bool true) ∧ Below w.heap.size w w' := by
  have hl1 : ¬ (1024 : Int) < (na : Int) := by omega
  have hl2 : ¬ (1024 : Int) < (nb : Int) := by omega
  have HSA : Hid (Strs w aa na aids) := hsa
  have HSB : Hid (Strs w ab nb ids) := hsb
  have HZ : Hid (na = 0) := hz
  have HNL : Hid (∀ j, ¬ j < na) := fun j hj => by omega
  have HZI : Hid (((na : Int) == 0) = true) := by show ((na : Int) == 0) = true; simp; omega
  clear hsa hsb hz
  go_enter Yba.func4, Yba.ntmps4
  go_wp2_with fail
  obtain ⟨w2, hw2⟩ : ∃ w2, w2 = ((w.alloc (.cells #[.slice none 0 0] 25)).alloc (.cells (balC w.heap.size) 71)) := ⟨_, rfl⟩
  have hH := headW w
  rw [← hw2] at hH
  unfold balC at hw2
  rw [← hw2]
  clear hw2
  refine (insts_any aa na ca aids w2 hna (HSA.out.keep hH.below)).mono ?_
  rintro e w3 ⟨rfl, hin⟩
  have hs2 := hH.size
  have hs3 := hin.size
  have b3 := hH.below.trans (hin.below.mono (by omega))
  have B3 : Bal w3 (w.heap.size + 1) w.heap.size := hH.bal.turn (hin.below.block _ (by omega))
  have L3 : w3.heap[w.heap.size]? = some (.cells #[.slice none 0 0] 25 (0, 0)) := (hin.below.block _ (by omega)).trans hH.log
  have id3 := insts_ids hin
  have HS2 : Hid (w2.heap.size = w.heap.size + 2 ∧ w3.heap.size = w2.heap.size + 1) := ⟨hs2, hs3⟩
  clear hs2 hs3 hin hH
  go_wp2_with fail
  refine (fleetB1 w3 (w.heap.size + 1) w2.heap.size w.heap.size na aids hna B3 id3 L3).mono ?_
  rintro e w4 ⟨rfl, mbA, xbA, memA, gvA, hFA, hk4, hend⟩
  obtain ⟨hs2, hs3⟩ := HS2.out
  have hs4 := hk4.size
  have b4 : Below w.heap.size w w4 := b3.trans (hk4.below (by omega) (fun k hk => by omega))
  have B4 : Bal w4 (w.heap.size + 1) w.heap.size := B3.turn (hk4.block _ (by omega) (by omega))
  rcases hend with ⟨-, hgv, hL4⟩ | ⟨h0, -⟩
  rotate_left
  · exact absurd h0 (HNL.out 0)
  subst hgv
  have cL4 := cell_of_one hL4
  have HS4 : Hid (w2.heap.size = w.heap.size + 2 ∧ w3.heap.size = w2.heap.size + 1 ∧ w3.heap.size ≤ w4.heap.size) := ⟨hs2, hs3, hs4⟩
  clear hs2 hs3 hs4 HS2 B3 L3 id3 hk4 b3
  go_wp2_with fail
  refine (insts_any ab nb cb ids w4 hnb (HSB.out.keep b4)).mono ?_
  rintro e w5 ⟨rfl, hin5⟩
  obtain ⟨hs2, hs3, hs4⟩ := HS4.out
  have hs5 := hin5.size
  have k5 : ∀ S, Kept S w4 w5 := fun S => Kept.ofBelow hin5.below (fun k hk hk' => by omega)
  have b5 : Below w.heap.size w w5 := b4.trans (hin5.below.mono (by omega))
  have B5 : Bal w5 (w.heap.size + 1) w.heap.size := B4.turn (hin5.below.block _ (by omega))
  have id5 := insts_ids hin5
  have FA5 := hFA.keep (k5 _)
  have L5 := (hin5.below.block _ (by omega)).trans hL4
  have l5 : w5.ownsRow 0 35 6 (.slice none 0 0) 0 [] := World.ownsRow_nil _ _ _ _
  have hmemA : ∀ i, i < na → memA i < w4.heap.size := fun i hi => lt_of_block (hFA.new i hi (by simp)).2
  have HS5 : Hid (w5.heap.size = w4.heap.size + 1 ∧ w2.heap.size = w.heap.size + 2 ∧ w3.heap.size = w2.heap.size + 1 ∧ w3.heap.size ≤ w4.heap.size) := ⟨hs5, hs2, hs3, hs4⟩
  clear hs5 hs2 hs3 hs4 HS4 B4 b4 hin5 hL4 hFA cL4 k5
  go_wp2_with fail
  refine (fleetB2 w5 (w.heap.size + 1) w4.heap.size w.heap.size nb (w3.heap.size + 2) mbA xbA na 0 0 ids aids memA _ _ hnb (by omega) (Nat.zero_le _) B5 id5 (FA5.cell 1) (FA5.cell 2) FA5.mcell FA5.index L5 l5 (by simp) InpZ
    (fun mb xb mem X hnf gb w1 hb1 _ hg1 => gi_zero w5 (w.heap.size + 1) w4.heap.size w.heap.size nb (w3.heap.size + 2) ids _ memA B5 (FA5.cell 3) mb xb mem X hnf gb w1 hb1 hg1)).mono ?_
  rintro e w6 ⟨rfl, mbB, xbB, memB, gvB, FB, hk6, hend6⟩
  obtain ⟨hs5, hs2, hs3, hs4⟩ := HS5.out
  have hs6 := hk6.size
  have hS6 : ∀ k, (k = w.heap.size ∨ (Value.slice none 0 0).ownBlock = some k) → k < w3.heap.size := fun k hk => by
    rcases hk with rfl | hk
    · omega
    · cases hk
  have b6 : Below w.heap.size w w6 := b5.trans (hk6.below (by omega) (fun k hk => by rcases hk with h | h <;> first | omega | cases h))
  have FA := FA5.keep (hk6.mono (fun k _ hk => hS6 k hk))
  have sa := HSA.out.keep b6
  have sb := HSB.out.keep b6
  have e1 : w6.cell? ⟨w3.heap.size + 2, 1, none⟩ = some (.slice (some ⟨mbA, 0, none⟩) na na) := FA.cell 1
  have e3 : w6.cell? ⟨w3.heap.size + 2, 3, none⟩ = some (.slice none 0 0) := FA.cell 3
  have f1 : w6.cell? ⟨w5.heap.size + 2, 1, none⟩ = some (.slice (some ⟨mbB, 0, none⟩) nb nb) := FB.cell 1
  have f3 : w6.cell? ⟨w5.heap.size + 2, 3, none⟩ = some gvB := FB.cell 3
  have hn93 := neq93_same
  have mA := FA.mcell
  have eAB : ∀ j i, j < na → i < nb → lastIn aids (ids i) na < 0 → (binOp BinOp.eql 93 (.pointer (some ⟨memA j, 0, none⟩)) (.pointer (some ⟨memB i, 0, none⟩))).run Yba.prog w6 = .ok (.bool false) w6 := fun j i hj hi hp =>
    eql93_other (by have := hmemA j hj; have := (FB.new i hi hp).1; omega) (FA.new j hj (by simp)).2 (FB.new i hi hp).2
  have eBB : ∀ j i, j < i → i < nb → lastIn aids (ids i) na < 0 → (binOp BinOp.eql 93 (.pointer (some ⟨memB j, 0, none⟩)) (.pointer (some ⟨memB i, 0, none⟩))).run Yba.prog w6 = .ok (.bool false) w6 := fun j i hj hi hp => by
    by_cases hq : lastIn aids (ids j) na < 0
    · exact eql93_other (by have := FB.incr j i hj hi hq hp; omega) (FB.new j (by omega) hq).2 (FB.new i hi hp).2
    · have ho := FB.old j (by omega) (by show 0 ≤ lastIn aids (ids j) na; omega)
      have hlt := lastIn_lt aids (ids j) na (by omega)
      rw [ho]
      exact eql93_other (by have := hmemA _ hlt; have := (FB.new i hi hp).1; omega) (FA.new _ hlt (by simp)).2 (FB.new i hi hp).2
  have mB : ∀ i, i < nb → w6.cell? ⟨mbB, i, none⟩ = some (.pointer (some ⟨memB i, 0, none⟩)) := FB.mcell
  have mBo : ∀ i, i < nb → 0 ≤ lastIn aids (ids i) na → w6.cell? ⟨mbB, i, none⟩ = some (.pointer (some ⟨memA (lastIn aids (ids i) na).toNat, 0, none⟩)) := fun i hi hp => by rw [← FB.old i hi hp]; exact FB.mcell i hi
  have HAB : Hid (∀ j i, j < na → i < nb → lastIn aids (ids i) na < 0 → (binOp BinOp.eql 93 (.pointer (some ⟨memA j, 0, none⟩)) (.pointer (some ⟨memB i, 0, none⟩))).run Yba.prog w6 = .ok (.bool false) w6) := eAB
  have HBB : Hid (∀ j i, j < i → i < nb → lastIn aids (ids i) na < 0 → (binOp BinOp.eql 93 (.pointer (some ⟨memB j, 0, none⟩)) (.pointer (some ⟨memB i, 0, none⟩))).run Yba.prog w6 = .ok (.bool false) w6) := eBB
  have HMB : Hid (∀ i, i < nb → w6.cell? ⟨mbB, i, none⟩ = some (.pointer (some ⟨memB i, 0, none⟩))) := mB
  have HMO : Hid (∀ i, i < nb → 0 ≤ lastIn aids (ids i) na → w6.cell? ⟨mbB, i, none⟩ = some (.pointer (some ⟨memA (lastIn aids (ids i) na).toNat, 0, none⟩))) := mBo
  have HMA : Hid (∀ j, j < na → w6.cell? ⟨mbA, j, none⟩ = some (.pointer (some ⟨memA j, 0, none⟩))) := mA
  have HSA6 : Hid (Strs w6 aa na aids) := sa
  have HSB6 : Hid (Strs w6 ab nb ids) := sb
  have hend6' : Hid (OrA nb gvB (w6.heap[w.heap.size]? = some (.cells #[.slice none 0 0] 25 (0, 0)) ∧ w6.ownsRow 0 35 6 (.slice none 0 0) 0 []) (∃ gb gc v' i4 i5 w1' w2', gvB = .slice (some ⟨gb, 0, none⟩) 1 gc ∧ EndB2 w5 w6 w.heap.size w4.heap.size nb mbB 0 0 [] InpZ v' i4 i5 w1' w2')) := hend6
  clear eAB eBB mB mBo mA sa sb hend6 FA FB hk6 hS6 b5 B5 id5 FA5 L5 l5 hmemA hs5 hs2 hs3 hs4 hs6 HS5 
  go_wp2
  go_loop [54] (fun i => ∃ k : Nat, k ≤ nb ∧ i = .int .i64 k) (fun i => nb - (intOf i).toNat)
  case atStart => exact ⟨0, Nat.zero_le _, rfl⟩
  case round =>
    obtain ⟨k, hk, rfl⟩ := hrel
    by_cases hlt : k < nb
    · obtain ⟨x, hxe, hx⟩ := HSB6.out k hlt
      subst hxe
      by_cases hp : 0 ≤ lastIn aids (ids k) na
      · exact absurd (lastIn_lt aids (ids k) na hp) (HNL.out _)
      · have hp' : lastIn aids (ids k) na < 0 := by omega
        have m1 := HMB.out k hlt
        go_wp2_with (go_at_call 8; refine (last_any aa na ca aids (ids k) _ hna (by exact HSA6.out)).mono ?_; rintro e w' ⟨rfl, rfl⟩)
        go_loop [88] (fun i => ∃ j : Nat, j ≤ na ∧ i = .int .i64 j) (fun i => na - (intOf i).toNat)
        case atStart => exact ⟨0, Nat.zero_le _, rfl⟩
        case round =>
          obtain ⟨j, hj, rfl⟩ := hrel
          by_cases hjl : j < na
          · exact absurd hjl (HNL.out j)
          · go_wp2
            go_loop [14] (fun i => ∃ j : Nat, j ≤ k ∧ i = .int .i64 j) (fun i => k - (intOf i).toNat)
            case atStart => exact ⟨0, Nat.zero_le _, rfl⟩
            case round =>
              obtain ⟨t, ht, rfl⟩ := hrel
              by_cases htl : t < k
              · have m2 := HMB.out t (by omega)
                have he := HBB.out t k htl hlt hp'
                go_wp2
                go_round
                case rel => exact ⟨t + 1, by omega, by go_num⟩
                case measure => simp [intOf]; omega
              · go_wp2
                go_round
                case rel => exact ⟨k + 1, by omega, by go_num⟩
                case measure => simp [intOf]; omega
    · obtain rfl : k = nb := by omega
      rcases hend6'.out with ⟨rfl, rfl, hL6, hl6⟩ | ⟨hn0, gb, gc, v', i4, i5, w1', w2', rfl, hEB⟩
      · have cL := cell_of_one hL6
        go_wp2
        go_ret
        exact ⟨rfl, b6⟩
      · obtain ⟨lg, lc, hv⟩ := own_shape hEB.l (by omega)
        subst hv
        obtain ⟨rfl, rfl⟩ := hEB.inp
        have cL := cell_of_one hEB.L
        have q0 : w6.cell? ⟨lg, 0, none⟩ = some (.slice (some ⟨w4.heap.size, 0, none⟩) k k) := hEB.l.cellAt 0 (by omega)
        have q1 : w6.cell? ⟨lg, 1, none⟩ = some (.slice (some ⟨mbB, 0, none⟩) k k) := hEB.l.cellAt 1 (by omega)
        have q2 : w6.cell? ⟨lg, 2, none⟩ = some (.pointer none) := hEB.l.cellAt 2 (by omega)
        have q3 : w6.cell? ⟨lg, 3, none⟩ = some (.pointer none) := hEB.l.cellAt 3 (by omega)
        have q4 : w6.cell? ⟨lg, 4, none⟩ = some .nilIface := hEB.l.cellAt 4 (by omega)
        have q5 : w6.cell? ⟨lg, 5, none⟩ = some (.slice none 0 0) := hEB.l.cellAt 5 (by omega)
        have hzi := HZI.out
        have hn33 := eql33_nil
        clear hEB
        go_wp2
        go_ret
        exact ⟨rfl, b6.alloc b6.size _⟩
end Go.Proofs.Ybulktog.lawS0994CCarry
