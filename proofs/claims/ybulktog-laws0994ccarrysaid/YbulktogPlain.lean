/-
  The plain side of the two laws: the last place of an ID, the index map as a list of pairs, how many IDs are distinct; and what the operations on a map of strings to ints do to it. No Go function in sight.
-/
import Derived.MapKept
import Derived.ChangeMaps4
import Derived.ChangeMaps5
import Derived.OwnWalk
import Derived.Laws.StructEq
import Derived.Lib.SlicesS
namespace Go.Proofs.Ybulktog
open Go.ChangeMaps (setBlock heap_setBlock_same)

/-- The last place among the first k at which s stands; -1 where it stands nowhere. -/
def lastIn (ids : Nat → ByteArray) (s : ByteArray) : Nat → Int
  | 0 => -1
  | k + 1 => if ids k = s then (k : Int) else lastIn ids s k

theorem lastIn_hit {ids : Nat → ByteArray} {s : ByteArray} {k : Nat} (h : ids k = s) : lastIn ids s (k + 1) = k := by simp [lastIn, h]
theorem lastIn_miss {ids : Nat → ByteArray} {s : ByteArray} {k : Nat} (h : ids k ≠ s) : lastIn ids s (k + 1) = lastIn ids s k := by simp [lastIn, h]

theorem lastIn_bounds (ids : Nat → ByteArray) (s : ByteArray) (k : Nat) : -1 ≤ lastIn ids s k ∧ lastIn ids s k < k ∨ (k = 0 ∧ lastIn ids s k = -1) := by
  induction k with
  | zero => exact .inr ⟨rfl, rfl⟩
  | succ k ih =>
    refine .inl ?_
    by_cases h : ids k = s
    · rw [lastIn_hit h]; omega
    · rw [lastIn_miss h]; omega

theorem lastIn_ge (ids : Nat → ByteArray) (s : ByteArray) (k : Nat) : -1 ≤ lastIn ids s k := by rcases lastIn_bounds ids s k with h | h <;> omega
theorem lastIn_lt (ids : Nat → ByteArray) (s : ByteArray) (k : Nat) (h : 0 ≤ lastIn ids s k) : (lastIn ids s k).toNat < k := by rcases lastIn_bounds ids s k with h | h <;> omega

/-- An ID that stands among the first k has a last place there. -/
theorem lastIn_mem (ids : Nat → ByteArray) (k i : Nat) (hi : i < k) : 0 ≤ lastIn ids (ids i) k := by
  induction k with
  | zero => omega
  | succ k ih =>
    by_cases h : ids k = ids i
    · rw [lastIn_hit h]; omega
    · rw [lastIn_miss h]
      refine ih ?_
      by_cases hik : i = k
      · subst hik; exact absurd rfl h
      · omega

/-- The index map after the first k IDs, as a list of pairs: a new ID behind the others, an old one in its place. -/
def put (A : List (ByteArray × Nat)) (s : ByteArray) (v : Nat) : List (ByteArray × Nat) :=
  match A with
  | [] => [(s, v)]
  | (t, u) :: A => if s = t then (s, v) :: A else (t, u) :: put A s v

def look (A : List (ByteArray × Nat)) (s : ByteArray) : Option Nat :=
  match A with
  | [] => none
  | (t, u) :: A => if s = t then some u else look A s

def tab (ids : Nat → ByteArray) : Nat → List (ByteArray × Nat)
  | 0 => []
  | k + 1 => put (tab ids k) (ids k) k

theorem look_put (A : List (ByteArray × Nat)) (s t : ByteArray) (v : Nat) : look (put A s v) t = if t = s then some v else look A t := by
  induction A with
  | nil => by_cases h : t = s <;> simp [put, look, h]
  | cons p A ih =>
    obtain ⟨u, x⟩ := p
    by_cases h : s = u
    · subst h
      by_cases h' : t = s <;> simp [put, look, h']
    · by_cases h' : t = u
      · subst h'
        have : ¬ t = s := fun e => h e.symm
        simp [put, look, h, this]
      · simp only [put, h, if_false, look, h']
        exact ih

/-- What the index map answers is the last place. -/
theorem look_tab (ids : Nat → ByteArray) (s : ByteArray) (k : Nat) : look (tab ids k) s = if 0 ≤ lastIn ids s k then some (lastIn ids s k).toNat else none := by
  induction k with
  | zero => simp [tab, look, lastIn]
  | succ k ih =>
    rw [tab, look_put]
    by_cases h : s = ids k
    · rw [if_pos h, lastIn_hit h.symm]; simp
    · rw [if_neg h, lastIn_miss (fun e => h e.symm)]; exact ih

/-! ### How many are distinct -/
theorem mem_put_val (A : List (ByteArray × Nat)) (s : ByteArray) (v x : Nat) (h : x ∈ (put A s v).map Prod.snd) : x = v ∨ x ∈ A.map Prod.snd := by
  induction A with
  | nil => simp [put] at h; exact .inl h
  | cons p A ih =>
    obtain ⟨t, u⟩ := p
    by_cases e : s = t
    · simp only [put, e, if_true, List.map_cons, List.mem_cons] at h ⊢
      rcases h with h | h
      · exact .inl h
      · exact .inr (.inr h)
    · simp only [put, e, if_false, List.map_cons, List.mem_cons] at h ⊢
      rcases h with h | h
      · exact .inr (.inl h)
      · rcases ih h with h | h
        · exact .inl h
        · exact .inr (.inr h)

theorem nodup_put (A : List (ByteArray × Nat)) (s : ByteArray) (v : Nat) (hA : (A.map Prod.snd).Nodup) (hv : ∀ x ∈ A.map Prod.snd, x < v) : ((put A s v).map Prod.snd).Nodup := by
  induction A with
  | nil => simp [put]
  | cons p A ih =>
    obtain ⟨t, u⟩ := p
    simp only [List.map_cons, List.nodup_cons] at hA
    have hu : u < v := hv u (by simp)
    have hr : ∀ x ∈ A.map Prod.snd, x < v := fun x hx => hv x (by simp only [List.map_cons, List.mem_cons]; exact .inr hx)
    by_cases e : s = t
    · simp only [put, e, if_true, List.map_cons, List.nodup_cons]
      exact ⟨fun h => Nat.lt_irrefl _ (hr v h), hA.2⟩
    · simp only [put, e, if_false, List.map_cons, List.nodup_cons]
      refine ⟨fun h => ?_, ih hA.2 hr⟩
      rcases mem_put_val A s v u h with h | h
      · omega
      · exact hA.1 h

theorem tab_vals (ids : Nat → ByteArray) (k : Nat) : ((tab ids k).map Prod.snd).Nodup ∧ ∀ x ∈ (tab ids k).map Prod.snd, x < k := by
  induction k with
  | zero => simp [tab]
  | succ k ih =>
    refine ⟨nodup_put _ _ _ ih.1 ih.2, fun x hx => ?_⟩
    rcases mem_put_val _ _ _ _ hx with h | h
    · omega
    · have := ih.2 x h; omega

theorem mem_of_look (A : List (ByteArray × Nat)) (s : ByteArray) (v : Nat) (h : look A s = some v) : v ∈ A.map Prod.snd := by
  induction A with
  | nil => simp [look] at h
  | cons p A ih =>
    obtain ⟨t, u⟩ := p
    by_cases e : s = t
    · simp [look, e] at h; simp [h]
    · simp only [look, e, if_false] at h
      have := ih h
      simp only [List.map_cons, List.mem_cons]
      exact .inr this

/-- Every pair's value is the last place of its own ID. -/
theorem put_pairs (Q : ByteArray → Nat → Prop) (A : List (ByteArray × Nat)) (s : ByteArray) (v : Nat) (h : ∀ p ∈ A, p.1 ≠ s → Q p.1 p.2) (hs : Q s v) (hn : (A.map Prod.fst).Nodup) : (∀ p ∈ put A s v, Q p.1 p.2) ∧ ((put A s v).map Prod.fst).Nodup ∧ ∀ x ∈ (put A s v).map Prod.fst, x = s ∨ x ∈ A.map Prod.fst := by
  induction A with
  | nil => exact ⟨fun p hp => by simp [put] at hp; subst hp; exact hs, by simp [put], fun x hx => by simp [put] at hx; exact .inl hx⟩
  | cons q A ih =>
    obtain ⟨t, u⟩ := q
    simp only [List.map_cons, List.nodup_cons] at hn
    by_cases e : s = t
    · subst e
      simp only [put, if_true]
      refine ⟨fun p hp => ?_, by simpa using hn, fun x hx => by simpa using hx⟩
      rcases List.mem_cons.1 hp with rfl | hp
      · exact hs
      · exact h p (by simp [hp]) (fun e => hn.1 (by rw [← e]; exact List.mem_map_of_mem hp))
    · obtain ⟨a1, a2, a3⟩ := ih (fun p hp => h p (by simp [hp])) hn.2
      simp only [put, e, if_false]
      refine ⟨fun p hp => ?_, ?_, fun x hx => ?_⟩
      · rcases List.mem_cons.1 hp with rfl | hp
        · exact h _ (by simp) (fun e' => e e'.symm)
        · exact a1 p hp
      · simp only [List.map_cons, List.nodup_cons]
        refine ⟨fun hm => ?_, a2⟩
        rcases a3 t hm with h' | h'
        · exact e h'.symm
        · exact hn.1 h'
      · simp only [List.map_cons, List.mem_cons] at hx ⊢
        rcases hx with hx | hx
        · exact .inr (.inl hx)
        · rcases a3 x hx with h' | h'
          · exact .inl h'
          · exact .inr (.inr h')

theorem tab_pairs (ids : Nat → ByteArray) (k : Nat) : (∀ p ∈ tab ids k, ids p.2 = p.1 ∧ lastIn ids p.1 k = p.2) ∧ ((tab ids k).map Prod.fst).Nodup := by
  induction k with
  | zero => simp [tab]
  | succ k ih =>
    obtain ⟨a, b, _⟩ := put_pairs (fun s v => ids v = s ∧ lastIn ids s (k + 1) = v) (tab ids k) (ids k) k (fun p hp hne => ⟨(ih.1 p hp).1, by rw [lastIn_miss (fun e => hne e.symm)]; exact (ih.1 p hp).2⟩) ⟨rfl, lastIn_hit rfl⟩ ih.2
    exact ⟨a, b⟩

theorem countP_mem (V : List Nat) (n : Nat) (hV : V.Nodup) (hlt : ∀ x ∈ V, x < n) : (List.range n).countP (fun i => decide (i ∈ V)) = V.length := by
  induction V with
  | nil => simp
  | cons v V ih =>
    simp only [List.nodup_cons] at hV
    have e : ∀ (L : List Nat), L.countP (fun i => decide (i ∈ v :: V)) = L.countP (fun i => decide (i = v)) + L.countP (fun i => decide (i ∈ V)) := by
      intro L
      induction L with
      | nil => simp
      | cons a L ihL =>
        have key : (if decide (a ∈ v :: V) = true then 1 else 0) = (if decide (a = v) = true then 1 else 0) + (if decide (a ∈ V) = true then 1 else 0) := by
          by_cases h1 : a = v
          · subst h1; simp [hV.1]
          · by_cases h2 : a ∈ V <;> simp [h1, h2]
        rw [List.countP_cons, List.countP_cons, List.countP_cons, ihL, key]
        omega
    rw [e, ih hV.2 (fun x hx => hlt x (by simp [hx]))]
    have h1 : (List.range n).countP (fun i => decide (i = v)) = 1 := by
      have := (List.nodup_range (n := n)).count (a := v)
      rw [if_pos (List.mem_range.2 (hlt v (by simp)))] at this
      rw [List.count, List.countP_congr] at this
      · exact this
      · intro a _
        simp
    rw [h1, List.length_cons]
    omega

/-- How many of the first i places are the last of their ID among all n. -/
def lasts (ids : Nat → ByteArray) (n : Nat) : Nat → Nat
  | 0 => 0
  | i + 1 => lasts ids n i + if lastIn ids (ids i) n = (i : Int) then 1 else 0

theorem lasts_countP (ids : Nat → ByteArray) (n i : Nat) : lasts ids n i = (List.range i).countP (fun j => decide (lastIn ids (ids j) n = (j : Int))) := by
  induction i with
  | zero => simp [lasts]
  | succ i ih =>
    rw [lasts, ih, List.range_succ, List.countP_append]
    by_cases h : lastIn ids (ids i) n = (i : Int) <;> simp [h]

theorem lasts_le (ids : Nat → ByteArray) (n i : Nat) : lasts ids n i ≤ i := by
  induction i with
  | zero => simp [lasts]
  | succ i ih => rw [lasts]; split <;> omega

/-- THE PLAIN LAW: the map holds as many entries as there are last places. -/
theorem tab_length (ids : Nat → ByteArray) (n : Nat) : (tab ids n).length = lasts ids n n := by
  rw [lasts_countP, ← List.length_map (f := Prod.snd), ← countP_mem _ n (tab_vals ids n).1 (tab_vals ids n).2]
  refine List.countP_congr fun j hj => ?_
  simp only [decide_eq_true_eq, List.mem_map]
  constructor
  · rintro ⟨p, hp, rfl⟩
    have := (tab_pairs ids n).1 p hp
    rw [this.1]
    exact this.2
  · intro h
    have hl := look_tab ids (ids j) n
    rw [h, if_pos (by omega)] at hl
    simpa using mem_of_look _ _ _ hl

/-! ### The map in memory -/
/-- The entries bear the pairs, whenever they were born. -/
def Ents (es : List MapEntry) (A : List (ByteArray × Nat)) : Prop := es.map (fun e => (e.key, e.val)) = A.map (fun p => (Value.string p.1, Value.int .i64 p.2))

theorem Ents.length {es : List MapEntry} {A : List (ByteArray × Nat)} (h : Ents es A) : es.length = A.length := by
  have := congrArg List.length h
  simpa using this

theorem now_string (a b : ByteArray) : Instr.sameNow .string (.string a) (.string b) = some (decide (a = b)) := by
  simp only [Instr.sameNow]
  rw [beq_toListBytes]
  by_cases h : a = b
  · subst h; simp
  · rw [(Go.Lib.bytes_beq_false_iff a b).2 h]; simp [h]

theorem find_none (s : ByteArray) : ∀ (es : List MapEntry) (A : List (ByteArray × Nat)) (i : Nat), Ents es A → look A s = none → Instr.findNow .string (.string s) es i = some none
  | [], A, i, h, hl => rfl
  | e :: es, [], i, h, hl => by simp [Ents] at h
  | e :: es, (t, u) :: A, i, h, hl => by
    simp only [Ents, List.map_cons, List.cons.injEq, Prod.mk.injEq] at h
    obtain ⟨⟨hk, hv⟩, hr⟩ := h
    by_cases he : s = t
    · simp [look, he] at hl
    · simp only [look, he, if_false] at hl
      simp only [Instr.findNow, hk, now_string, he, decide_false]
      exact find_none s es A (i + 1) hr hl

theorem find_some (s : ByteArray) (v : Nat) : ∀ (es : List MapEntry) (A : List (ByteArray × Nat)) (i : Nat), Ents es A → look A s = some v →
    ∃ j, Instr.findNow .string (.string s) es i = some (some (i + j, .int .i64 v)) ∧ j < es.length ∧ (∀ h : j < es.length, es[j].key = .string s)
  | [], [], i, h, hl => by simp [look] at hl
  | [], p :: A, i, h, hl => by simp [Ents] at h
  | e :: es, [], i, h, hl => by simp [Ents] at h
  | e :: es, (t, u) :: A, i, h, hl => by
    simp only [Ents, List.map_cons, List.cons.injEq, Prod.mk.injEq] at h
    obtain ⟨⟨hk, hv⟩, hr⟩ := h
    by_cases he : s = t
    · subst he
      simp [look] at hl
      subst hl
      exact ⟨0, by simp [Instr.findNow, hk, now_string, hv], by simp, fun _ => hk⟩
    · simp only [look, he, if_false] at hl
      obtain ⟨j, h1, h2, h3⟩ := find_some s v es A (i + 1) hr hl
      refine ⟨j + 1, ?_, by simp; omega, fun hj => by simpa using h3 (by omega)⟩
      simp only [Instr.findNow, hk, now_string, he, decide_false, h1]
      simp
      omega

/-- Where an ID has an entry, that entry's place is where 'put' writes. -/
theorem put_modify (s : ByteArray) (v : Nat) : ∀ (es : List MapEntry) (A : List (ByteArray × Nat)) (i j : Nat) (x : Value), Ents es A → Instr.findNow .string (.string s) es i = some (some (i + j, x)) →
    Ents (es.modify j fun e => { e with key := .string s, val := .int .i64 v }) (put A s v)
  | [], A, i, j, x, h, hf => by simp [Instr.findNow] at hf
  | e :: es, [], i, j, x, h, hf => by simp [Ents] at h
  | e :: es, (t, u) :: A, i, j, x, h, hf => by
    simp only [Ents, List.map_cons, List.cons.injEq, Prod.mk.injEq] at h
    obtain ⟨⟨hk, hv⟩, hr⟩ := h
    by_cases he : s = t
    · subst he
      simp [Instr.findNow, hk, now_string] at hf
      obtain ⟨rfl, rfl⟩ := hf
      simp [Ents, put] at hr ⊢
      exact hr
    · simp only [Instr.findNow, hk, now_string, he, decide_false] at hf
      cases j with
      | zero =>
        exfalso
        have := find_ge s es (i + 1) _ _ hf
        omega
      | succ j =>
        have ih := put_modify s v es A (i + 1) j x hr (by rw [hf]; congr 3; omega)
        simp only [put, he, if_false]
        simp only [Ents, List.modify_succ_cons, List.map_cons, hk, hv] at ih ⊢
        rw [ih]
where
  find_ge (s : ByteArray) : ∀ (es : List MapEntry) (i p : Nat) (x : Value), Instr.findNow .string (.string s) es i = some (some (p, x)) → i ≤ p
  | [], i, p, x, h => by simp [Instr.findNow] at h
  | e :: es, i, p, x, h => by
    simp only [Instr.findNow] at h
    split at h
    · simp at h; omega
    · have := find_ge s es (i + 1) p x h; omega
    · cases h

theorem put_new (s : ByteArray) (v : Nat) : ∀ (A : List (ByteArray × Nat)), look A s = none → put A s v = A ++ [(s, v)]
  | [], _ => rfl
  | (t, u) :: A, h => by
    by_cases he : s = t
    · simp [look, he] at h
    · simp only [look, he, if_false] at h
      simp only [put, he, if_false, put_new s v A h, List.cons_append]

section
variable {P : Program} {w : World}

theorem check_string {t : TypeId} (ht : P.underlying t = some .string) (b : Bool) (s : ByteArray) : (Instr.checkKey b 10000 t (.string s)).run P w = .ok () w := by
  have h : ∀ d : Nat, (Instr.checkKey b (d + 1) t (.string s)).run P w = .ok () w := fun d => by simp [Instr.checkKey, run_underlying ht]
  exact h 9999

theorem stays (a : ByteArray) : (Instr.keyThatStays (.string a) (.string a)).run P w = .ok (.string a) w := by
  have h : Instr.sameBits 10000 (.string a) (.string a) = true := by
    have : ∀ n, Instr.sameBits n (.string a) (.string a) = true := fun n => by cases n <;> simp [Instr.sameBits, beq_toListBytes]
    exact this 10000
  simp [Instr.keyThatStays, h]

/-- 'm[s] = v'. -/
theorem run_put {t kt : TypeId} (ht : P.underlying t = some (.map kt 3)) (hk : P.underlying kt = some .string) {M : Nat} {es : Array MapEntry} {clock : Nat} {A : List (ByteArray × Nat)} (hM : w.heap[M]? = some (.map es clock)) (hE : Ents es.toList A) (s : ByteArray) (v : Nat) :
    ∃ w', (Instr.mapUpdate t (.map (some M)) (.string s) (.int .i64 v)).run P w = .ok () w' ∧ (∃ es' clock', w'.heap[M]? = some (.map es' clock') ∧ Ents es'.toList (put A s v)) ∧ w.grownBy w' (some M) := by
  have keep : ∀ o : Obj, w.grownBy (setBlock w M o) (some M) := fun o => ⟨rfl, rfl, rfl, by simp [setBlock], fun i _ hi => by
    have hne : i ≠ M := fun e => hi (by rw [e])
    simp only [setBlock]
    rw [Array.getElem?_setIfInBounds_ne hne.symm]⟩
  cases hl : look A s with
  | none =>
    have hf : (Instr.findKey kt (.string s) es.toList).run P w = .ok none w := by simp [Instr.findKey, run_underlying hk, find_none s es.toList A 0 hE hl]
    refine ⟨setBlock w M (.map (es.push { key := .string s, val := .int .i64 v, born := clock }) (clock + 1)), ?_, ⟨_, _, heap_setBlock_same hM _, ?_⟩, keep _⟩
    · simp [Instr.mapUpdate, run_underlying ht, MapKept.run_getObj_map hM, check_string hk, hf, MapKept.run_setObj_map _ hM, Result.andThen, setBlock]
    · rw [put_new s v A hl]
      simp only [Ents] at hE ⊢
      simp [hE]
  | some u =>
    obtain ⟨j, h1, h2, h3⟩ := find_some s u es.toList A 0 hE hl
    have hf : (Instr.findKey kt (.string s) es.toList).run P w = .ok (some (j, .int .i64 u)) w := by simp [Instr.findKey, run_underlying hk, h1]
    have hkey : ((es[j]?).map (·.key)).getD (.string s) = .string s := by
      have hj : j < es.size := by simpa using h2
      have := h3 h2
      simp only [Array.getElem_toList] at this
      simp [hj, this]
    refine ⟨setBlock w M (.map (es.modify j fun e => { e with key := .string s, val := .int .i64 v }) clock), ?_, ⟨_, _, heap_setBlock_same hM _, ?_⟩, keep _⟩
    · simp [Instr.mapUpdate, run_underlying ht, MapKept.run_getObj_map hM, check_string hk, hf, hkey, stays, MapKept.run_setObj_map _ hM, Result.andThen, setBlock]
    · have := put_modify s v es.toList A 0 j _ hE h1
      simpa using this

/-- 'v, ok := m[s]'. -/
theorem run_look {t kt : TypeId} (ht : P.underlying t = some (.map kt 3)) (hk : P.underlying kt = some .string) (hz : (zeroValue 3).run P w = .ok (.int .i64 0) w) {M : Nat} {es : Array MapEntry} {clock : Nat} {A : List (ByteArray × Nat)} (hM : w.heap[M]? = some (.map es clock)) (hE : Ents es.toList A) (s : ByteArray) :
    (Instr.lookup t (.map (some M)) (.string s) true).run P w = .ok (.tuple #[.int .i64 ((look A s).getD 0), .bool (look A s).isSome]) w := by
  cases hl : look A s with
  | none =>
    have hf : (Instr.findKey kt (.string s) es.toList).run P w = .ok none w := by simp [Instr.findKey, run_underlying hk, find_none s es.toList A 0 hE hl]
    simp [Instr.lookup, run_underlying ht, MapKept.run_getObj_map hM, check_string hk, hf, hz]
  | some u =>
    obtain ⟨j, h1, h2, h3⟩ := find_some s u es.toList A 0 hE hl
    have hf : (Instr.findKey kt (.string s) es.toList).run P w = .ok (some (j, .int .i64 u)) w := by simp [Instr.findKey, run_underlying hk, h1]
    simp [Instr.lookup, run_underlying ht, MapKept.run_getObj_map hM, check_string hk, hf]

theorem run_look_nil {t kt : TypeId} (ht : P.underlying t = some (.map kt 3)) (hk : P.underlying kt = some .string) (hz : (zeroValue 3).run P w = .ok (.int .i64 0) w) (s : ByteArray) :
    (Instr.lookup t (.map none) (.string s) true).run P w = .ok (.tuple #[.int .i64 0, .bool false]) w := by
  have hf : (Instr.findKey kt (.string s) []).run P w = .ok none w := by simp [Instr.findKey, run_underlying hk, Instr.findNow]
  simp [Instr.lookup, run_underlying ht, check_string hk, hf, hz]

theorem run_len {t kt : TypeId} (ht : P.underlying t = some (.map kt 3)) {M : Nat} {es : Array MapEntry} {clock : Nat} {A : List (ByteArray × Nat)} (hM : w.heap[M]? = some (.map es clock)) (hE : Ents es.toList A) (ty : TypeId) :
    (Builtin.len_ #[t] ty #[.map (some M)]).run P w = .ok (.int .i64 A.length) w := by
  have := hE.length
  simp at this
  simp [Builtin.len_, run_underlying ht, MapKept.run_getObj_map hM, goInt, this]

/-- 'make(map[K]V, n)': the size is a hint alone. -/
theorem run_makeMap_hint {t kt et : TypeId} (ht : P.underlying t = some (.map kt et)) (q : IntKind) (n : Int) (w : World) :
    (Instr.makeMap t (some (.int q n))).run P w = .ok (.map (some w.heap.size)) (w.alloc (.map #[] 0)) := by
  simp [Instr.makeMap, run_underlying ht, asInt, asIntOf]
end
end Go.Proofs.Ybulktog
