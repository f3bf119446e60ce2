/-
  A map whose keys are pointers to whole new blocks: what 'm[p] = v' (p a new key), 'v, ok := m[p]' and '!=' on two interface values of one pointer do. Over any program.
-/
import Derived.LaidEqlPtr
import Derived.MapKept
import Derived.ChangeMaps4
import Derived.ChangeMaps5
import Derived.OwnWalk
namespace Go.Proofs.Ybulktmc.PtrMap
open Go.ChangeMaps (setBlock heap_setBlock_same)

/-- A pointer to the head of block b. -/
def ptr (b : Nat) : Value := .pointer (some ⟨b, 0, none⟩)

/-- Block b is a row of cells, none of them frozen. -/
def Row (w : World) (b : Nat) : Prop := ∃ c t, w.heap[b]? = some (.cells c t (0, 0))

theorem Row.same {w w' : World} {b : Nat} (h : Row w b) (e : w'.heap[b]? = w.heap[b]?) : Row w' b := by
  obtain ⟨c, t, hc⟩ := h
  exact ⟨c, t, e.trans hc⟩

section
variable {P : Program} {w : World} {kt te : TypeId} {j : TypeInfo}

theorem equal_same (hp : P.underlying kt = some (.pointer te)) (hte : P.info? te = some j) (b : Nat) : (Op.equal kt (ptr b) (ptr b)).run P w = .ok true w := by
  have h : ∀ d : Nat, (Op.equalIn (d + 1) kt (ptr b) (ptr b)).run P w = .ok true w := fun d => by
    simp [ptr, Op.equalIn, run_underlying hp, sizeOf, typeInfo, hte, run_sameAddr_same]
  exact h 9999

theorem equal_other (hp : P.underlying kt = some (.pointer te)) (hte : P.info? te = some j) (hsz : j.size ≠ 0) {a b : Nat} (hne : a ≠ b) (ha : Row w a) (hb : Row w b) : (Op.equal kt (ptr a) (ptr b)).run P w = .ok false w := by
  obtain ⟨ca, ta, ha⟩ := ha
  obtain ⟨cb, tb, hb⟩ := hb
  have h : ∀ d : Nat, (Op.equalIn (d + 1) kt (ptr a) (ptr b)).run P w = .ok false w := fun d => by
    simp [ptr, Op.equalIn, run_underlying hp, sizeOf, typeInfo, hte, hsz, run_sameAddr_other w (a := ⟨a, 0, none⟩) (b := ⟨b, 0, none⟩) (by simpa using hne) ha hb]
  exact h 9999

/-- No entry bears the key. -/
theorem asking_none (hp : P.underlying kt = some (.pointer te)) (hte : P.info? te = some j) (hsz : j.size ≠ 0) {k : Nat} (hk : Row w k) :
    ∀ (es : List MapEntry) (i : Nat), (∀ e ∈ es, ∃ b, e.key = ptr b ∧ k ≠ b ∧ Row w b) → (Instr.findAsking kt (ptr k) es i).run P w = .ok none w
  | [], i, _ => by simp [Instr.findAsking]
  | e :: es, i, h => by
    obtain ⟨b, hb, hne, hrow⟩ := h e (by simp)
    have ih := asking_none hp hte hsz hk es (i + 1) (fun x hx => h x (by simp [hx]))
    simp [Instr.findAsking, hb, equal_other hp hte hsz hne hk hrow, ih]

/-- The entry at place 'pre.length' bears the key; none ahead of it does. -/
theorem asking_hit (hp : P.underlying kt = some (.pointer te)) (hte : P.info? te = some j) (hsz : j.size ≠ 0) {k : Nat} (hk : Row w k) (e : MapEntry) (he : e.key = ptr k) (post : List MapEntry) :
    ∀ (pre : List MapEntry) (i : Nat), (∀ e ∈ pre, ∃ b, e.key = ptr b ∧ k ≠ b ∧ Row w b) → (Instr.findAsking kt (ptr k) (pre ++ e :: post) i).run P w = .ok (some (i + pre.length, e.val)) w
  | [], i, _ => by simp [Instr.findAsking, he, equal_same hp hte]
  | x :: pre, i, h => by
    obtain ⟨b, hb, hne, hrow⟩ := h x (by simp)
    have ih := asking_hit hp hte hsz hk e he post pre (i + 1) (fun y hy => h y (by simp [hy]))
    simp [Instr.findAsking, hb, equal_other hp hte hsz hne hk hrow, ih]
    omega

theorem now_none (es : List MapEntry) (k : Value) (hne : es ≠ []) (i : Nat) : Instr.findNow (.pointer te) k es i = none := by
  cases es with
  | nil => exact absurd rfl hne
  | cons e es => simp [Instr.findNow, Instr.sameNow]

theorem find_none (hp : P.underlying kt = some (.pointer te)) (hte : P.info? te = some j) (hsz : j.size ≠ 0) {k : Nat} (hk : Row w k) (es : List MapEntry) (h : ∀ e ∈ es, ∃ b, e.key = ptr b ∧ k ≠ b ∧ Row w b) :
    (Instr.findKey kt (ptr k) es).run P w = .ok none w := by
  by_cases he : es = []
  · subst he
    simp [Instr.findKey, run_underlying hp, Instr.findNow]
  · simp [Instr.findKey, run_underlying hp, now_none es _ he, asking_none hp hte hsz hk es 0 h]

theorem find_hit (hp : P.underlying kt = some (.pointer te)) (hte : P.info? te = some j) (hsz : j.size ≠ 0) {k : Nat} (hk : Row w k) (pre post : List MapEntry) (e : MapEntry) (he : e.key = ptr k) (h : ∀ e ∈ pre, ∃ b, e.key = ptr b ∧ k ≠ b ∧ Row w b) :
    (Instr.findKey kt (ptr k) (pre ++ e :: post)).run P w = .ok (some (pre.length, e.val)) w := by
  have h1 := asking_hit hp hte hsz hk e he post pre 0 h
  simp only [Nat.zero_add] at h1
  simp [Instr.findKey, run_underlying hp, now_none (pre ++ e :: post) _ (by simp), h1]

theorem check_ptr (hp : P.underlying kt = some (.pointer te)) (b : Bool) (k : Nat) : (Instr.checkKey b 10000 kt (ptr k)).run P w = .ok () w := by
  have h : ∀ d : Nat, (Instr.checkKey b (d + 1) kt (ptr k)).run P w = .ok () w := fun d => by simp [Instr.checkKey, run_underlying hp, ptr]
  exact h 9999

/-- 'm[p] = v', p a key that the map does not hold: one entry more, in its last place. -/
theorem run_update {t : TypeId} {et : TypeId} (ht : P.underlying t = some (.map kt et)) (hp : P.underlying kt = some (.pointer te)) (hte : P.info? te = some j) (hsz : j.size ≠ 0) {M k : Nat} (hk : Row w k) (es : Array MapEntry) (clock : Nat)
    (hM : w.heap[M]? = some (.map es clock)) (h : ∀ e ∈ es.toList, ∃ b, e.key = ptr b ∧ k ≠ b ∧ Row w b) (v : Value) :
    ∃ w', (Instr.mapUpdate t (.map (some M)) (ptr k) v).run P w = .ok () w' ∧ w'.heap[M]? = some (.map (es.push { key := ptr k, val := v, born := clock }) (clock + 1)) ∧ w.grownBy w' (some M) := by
  refine ⟨setBlock w M (.map (es.push { key := ptr k, val := v, born := clock }) (clock + 1)), ?_, heap_setBlock_same hM _, ⟨rfl, rfl, rfl, by simp [setBlock], fun i _ hi => ?_⟩⟩
  · simp [Instr.mapUpdate, run_underlying ht, MapKept.run_getObj_map hM, check_ptr hp, find_none hp hte hsz hk es.toList h, MapKept.run_setObj_map _ hM, Result.andThen, setBlock]
  · have hne : i ≠ M := fun e => hi (by rw [e])
    simp only [setBlock]
    rw [Array.getElem?_setIfInBounds_ne hne.symm]

/-- 'v, ok := m[p]', p the key of the entry at place 'pre.length'. -/
theorem run_lookup {t : TypeId} {et : TypeId} (ht : P.underlying t = some (.map kt et)) (hp : P.underlying kt = some (.pointer te)) (hte : P.info? te = some j) (hsz : j.size ≠ 0) {M k : Nat} (hk : Row w k) (es : Array MapEntry) (clock : Nat)
    (hM : w.heap[M]? = some (.map es clock)) (pre post : List MapEntry) (e : MapEntry) (hes : es.toList = pre ++ e :: post) (he : e.key = ptr k) (h : ∀ e ∈ pre, ∃ b, e.key = ptr b ∧ k ≠ b ∧ Row w b) :
    (Instr.lookup t (.map (some M)) (ptr k) true).run P w = .ok (.tuple #[e.val, .bool true]) w := by
  simp [Instr.lookup, run_underlying ht, MapKept.run_getObj_map hM, check_ptr hp, hes, find_hit hp hte hsz hk pre post e he h]

/-- 'x != y', both interface values of one pointer type and one address: false. -/
theorem run_neq_iface_ptr_same {ti tp : TypeId} {ms : Array (String × TypeId)} {i : TypeInfo} (a : Addr)
    (hi : P.underlying ti = some (.interface ms)) (hp : P.underlying tp = some (.pointer te)) (hinfo : P.info? tp = some i) (hcomp : i.comparable = true) (hte : P.info? te = some j) (w : World) :
    (binOp .neq ti (.iface tp (.pointer (some a))) (.iface tp (.pointer (some a)))).run P w = .ok (.bool false) w := by
  simp only [binOp]
  simp [Op.equal, Op.maxDepth, run_equalIn_iface_ptr_same w 9998 a hi hp hinfo hcomp hte]

/-- 'make(map[K]V, n)': the size is a hint alone. -/
theorem run_makeMap_hint {t et : TypeId} (ht : P.underlying t = some (.map kt et)) (q : IntKind) (n : Int) (w : World) :
    (Instr.makeMap t (some (.int q n))).run P w = .ok (.map (some w.heap.size)) (w.alloc (.map #[] 0)) := by
  simp [Instr.makeMap, run_underlying ht, asInt, asIntOf]
end
end Go.Proofs.Ybulktmc.PtrMap
