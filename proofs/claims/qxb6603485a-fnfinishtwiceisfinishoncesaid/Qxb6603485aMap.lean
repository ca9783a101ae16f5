/- A plain word for a map's block: 'mp w emb good vemb b f n': block b of w is a map of n entries that holds just the finite function f (keys x as 'emb x', elements v as 'vemb v'). Laws: made, kept, looked up, written, counted, ranged over. No program. -/
import Derived.Maps.RangeWalk
import Derived.WalkKit
import Derived.Deep.QuietTactic
import Derived.BigQuiet
import Derived.WalkSpells
import Derived.WalkLawsBesides
namespace Go.Proofs.Qxb6603485a
open Go.MapKept Go.RowKit
open Go.ChangeMaps (setBlock heap_setBlock_same heap_setBlock_other modify_eq_set)
open Go.Maps (Keyed)

/-- The key's type: how a key x of mine lies in the map. -/
structure Ky (P : Program) (k : TypeId) {κ : Type} (emb : κ → Value) (good : κ → Prop) : Prop where
  keyed : Keyed P k
  read : ∀ x, good x → ∃ l, keyOf P k (emb x) = some l
  inj : ∀ x y, emb x = emb y → x = y

section
variable {κ α : Type}

structure IsMp (emb : κ → Value) (good : κ → Prop) (vemb : α → Value) (es : Array MapEntry) (clock : Nat) (f : κ → Option α) : Prop where
  st : Stamped es clock
  each : ∀ e ∈ es.toList, ∃ x v, good x ∧ e.key = emb x ∧ e.val = vemb v ∧ f x = some v
  all : ∀ x v, f x = some v → ∃ e ∈ es.toList, e.key = emb x ∧ e.val = vemb v

/-- BLOCK b OF w IS A MAP OF n ENTRIES THAT HOLDS f. -/
def mp (w : World) (emb : κ → Value) (good : κ → Prop) (vemb : α → Value) (b : Nat) (f : κ → Option α) (n : Nat) : Prop :=
  ∃ es clock, w.heap[b]? = some (.map es clock) ∧ es.size = n ∧ IsMp emb good vemb es clock f

variable {emb : κ → Value} {good : κ → Prop} {vemb : α → Value} {w w' : World} {b n : Nat} {f : κ → Option α}

theorem mp_made (w : World) (emb : κ → Value) (good : κ → Prop) (vemb : α → Value) : mp (w.alloc (.map #[] 0)) emb good vemb w.heap.size (fun _ => none) 0 :=
  ⟨#[], 0, (MapKept.heap_alloc w _).1, rfl, ⟨stamped_empty 0, by simp, by simp⟩⟩

theorem mp.lt (h : mp w emb good vemb b f n) : b < w.heap.size := by
  obtain ⟨es, clock, hb, _⟩ := h
  exact (Array.getElem?_eq_some_iff.1 hb).1

theorem mp.at (h : mp w emb good vemb b f n) (hb : w'.heap[b]? = w.heap[b]?) : mp w' emb good vemb b f n := by
  obtain ⟨es, clock, h1, r⟩ := h
  exact ⟨es, clock, hb.trans h1, r⟩

theorem mp.kept {row : Option Nat} (h : mp w emb good vemb b f n) (hg : w.grownBy w' row) (hne : some b ≠ row) : mp w' emb good vemb b f n :=
  h.at (hg.block b h.lt hne)

theorem mp.alloc (h : mp w emb good vemb b f n) (o : Obj) : mp (w.alloc o) emb good vemb b f n := h.kept (World.grownBy_alloc w o none) (by simp)

theorem mp.below {B : Nat} (h : mp w emb good vemb b f n) (hb : Below B w w') (hlt : b < B) : mp w' emb good vemb b f n := h.at (hb.block b hlt)

theorem mp.drewN (h : mp w emb good vemb b f n) (q : Nat) : mp (w.drewN q) emb good vemb b f n := h

theorem mp.setCell (h : mp w emb good vemb b f n) {a : Addr} (ha : b ≠ a.block) (u : Value) : mp (w.setCell a u) emb good vemb b f n :=
  h.at (Below.heap_setCell _ _ _ _ ha)

theorem mp.fits (h : mp w emb good vemb b f n) (hinj : ∀ x y, emb x = emb y → x = y) {x : κ} {v : α} (hf : f x = some v) : good x := by
  obtain ⟨es, clock, _, _, I⟩ := h
  obtain ⟨e, he, hk, _⟩ := I.all x v hf
  obtain ⟨x', _, hg, hk', _⟩ := I.each e he
  rw [hinj x x' (hk.symm.trans hk')]
  exact hg

/-- What a look-up answers. -/
def lookV (c : Bool) (vemb : α → Value) (z : Value) : Option α → Value
  | some v => if c then .tuple #[vemb v, .bool true] else vemb v
  | none => if c then .tuple #[z, .bool false] else z

/-- Where the key is, the search finds it. -/
theorem find_at {P : Program} {k : TypeId} (K : Ky P k emb good) {es : Array MapEntry} {clock : Nat} (I : IsMp emb good vemb es clock f) {x : κ} (hx : good x) (w : World) :
    ((Instr.findKey k (emb x) es.toList).run P w = .ok none w ∧ f x = none ∧ ∀ e ∈ es.toList, e.key ≠ emb x) ∨
    ∃ j e v, (Instr.findKey k (emb x) es.toList).run P w = .ok (some (j, e.val)) w ∧ es.toList[j]? = some e ∧ e.key = emb x ∧ f x = some v ∧ e.val = vemb v := by
  obtain ⟨l, hl⟩ := K.read x hx
  have hks : ∀ e ∈ es.toList, ∃ l, keyOf P k e.key = some l := fun e he => by
    obtain ⟨y, _, hy, hk, _⟩ := I.each e he
    rw [hk]
    exact K.read y hy
  rcases K.keyed.find w hl es.toList hks with ⟨h1, h2⟩ | ⟨j, e, h1, h2, h3⟩
  · refine Or.inl ⟨h1, ?_, h2⟩
    cases hf : f x with
    | none => rfl
    | some v =>
      obtain ⟨e, he, hk, _⟩ := I.all x v hf
      exact absurd hk (h2 e he)
  · obtain ⟨y, v, _, hk, hv, hf⟩ := I.each e (List.mem_of_getElem? h2)
    have hxy := K.inj y x (hk.symm.trans h3)
    subst hxy
    exact Or.inr ⟨j, e, v, h1, h2, h3, hf, hv⟩

/-- 'm[k]' and 'v, ok := m[k]'. -/
theorem mp.look {P : Program} {k t e : TypeId} (h : mp w emb good vemb b f n) (K : Ky P k emb good) (ht : P.underlying t = some (.map k e)) {z : Value} (hz : ∀ w : World, (zeroValue e).run P w = .ok z w) (c : Bool) {x : κ} (hx : good x) (q : Nat) :
    (Instr.lookup t (.map (some b)) (emb x) c).run P (w.drewN q) = .ok (lookV c vemb z (f x)) (w.drewN q) := by
  obtain ⟨es, clock, hb0, _, I⟩ := h
  have hb : (w.drewN q).heap[b]? = some (.map es clock) := hb0
  obtain ⟨l, hl⟩ := K.read x hx
  rcases find_at K I hx (w.drewN q) with ⟨h1, h2, _⟩ | ⟨j, e0, v, h1, _, _, h2, h3⟩
  · simp [Instr.lookup, run_underlying ht, MapKept.run_getObj_map hb, K.keyed.check (w.drewN q) _ hl, h1, hz, Result.andThen, h2, lookV]
  · simp [Instr.lookup, run_underlying ht, MapKept.run_getObj_map hb, K.keyed.check (w.drewN q) _ hl, h1, Result.andThen, h2, h3, lookV]

/-- .. in a nil map. -/
theorem look_nil {P : Program} {k t e : TypeId} (K : Ky P k emb good) (ht : P.underlying t = some (.map k e)) {z : Value} (hz : ∀ w : World, (zeroValue e).run P w = .ok z w) (c : Bool) {x : κ} (hx : good x) (w : World) :
    (Instr.lookup t (.map none) (emb x) c).run P w = .ok (lookV c vemb z (none : Option α)) w := by
  obtain ⟨l, hl⟩ := K.read x hx
  have I : IsMp emb good vemb #[] 0 (fun _ => (none : Option α)) := ⟨stamped_empty 0, by simp, by simp⟩
  rcases find_at K I hx w with ⟨h1, _, _⟩ | ⟨j, e0, v, _, _, _, h2, _⟩
  · simp at h1
    simp [Instr.lookup, run_underlying ht, K.keyed.check w _ hl, h1, hz, Result.andThen, lookV]
  · cases h2

/-- 'len(m)'. -/
theorem mp.len {P : Program} {k t e : TypeId} (h : mp w emb good vemb b f n) (ht : P.underlying t = some (.map k e)) (ty : TypeId) (q : Nat) : (Builtin.len_ #[t] ty #[.map (some b)]).run P (w.drewN q) = .ok (.int .i64 n) (w.drewN q) := by
  obtain ⟨es, clock, hb0, rfl, I⟩ := h
  have hb : (w.drewN q).heap[b]? = some (.map es clock) := hb0
  simp [Builtin.len_, run_underlying ht, MapKept.run_getObj_map hb, goInt, Result.andThen]

def upd [DecidableEq κ] (f : κ → Option α) (x : κ) (v : α) : κ → Option α := fun y => if y = x then some v else f y

theorem key_at {es : Array MapEntry} {clock : Nat} (st : Stamped es clock) {i j : Nat} {x y : MapEntry} (hi : es.toList[i]? = some x) (hj : es.toList[j]? = some y) (h : x.key = y.key) : i = j := by
  have hp := ((stamped_iff es clock).1 st).2.2
  rw [List.pairwise_iff_getElem] at hp
  obtain ⟨hi', rfl⟩ := List.getElem?_eq_some_iff.1 hi
  obtain ⟨hj', rfl⟩ := List.getElem?_eq_some_iff.1 hj
  rcases Nat.lt_trichotomy i j with hlt | heq | hlt
  · exact absurd h (hp i j hi' hj' hlt)
  · exact heq
  · exact absurd h.symm (hp j i hj' hi' hlt)

/-- 'm[k] = v'. -/
theorem mp.put [DecidableEq κ] {P : Program} {k t e : TypeId} (h : mp w emb good vemb b f n) (K : Ky P k emb good) (ht : P.underlying t = some (.map k e)) {x : κ} (hx : good x) (v : α) :
    ∃ w', (∀ q, (Instr.mapUpdate t (.map (some b)) (emb x) (vemb v)).run P (w.drewN q) = .ok () (w'.drewN q)) ∧ mp w' emb good vemb b (upd f x v) (if (f x).isSome then n else n + 1) ∧ w.grownBy w' (some b) ∧ w'.heap.size = w.heap.size := by
  obtain ⟨es, clock, hb, rfl, I⟩ := h
  obtain ⟨l, hl⟩ := K.read x hx
  rcases find_at K I hx w with ⟨_, hf, h2⟩ | ⟨j, e0, v0, _, h2, h3, hf, hv0⟩
  · refine ⟨setBlock w b (.map (es.push ⟨emb x, vemb v, clock⟩) (clock + 1)), fun q => ?_, ⟨_, _, heap_setBlock_same hb _, by simp [hf], ?_⟩, ⟨rfl, rfl, rfl, by simp [setBlock], fun i _ hi => heap_setBlock_other hb _ (fun e => hi (by rw [e]))⟩, by simp [setBlock]⟩
    · have hbq : (w.drewN q).heap[b]? = some (.map es clock) := hb
      have h1 : (Instr.findKey k (emb x) es.toList).run P (w.drewN q) = .ok none (w.drewN q) := by
        rcases find_at K I hx (w.drewN q) with ⟨h1, _⟩ | ⟨_, _, v', _, _, _, hf', _⟩
        · exact h1
        · rw [hf] at hf'; cases hf'
      simp [Instr.mapUpdate, run_underlying ht, MapKept.run_getObj_map hbq, K.keyed.check (w.drewN q) false hl, h1, MapKept.run_setObj_map _ hbq, Result.andThen, setBlock]
      rfl
    · refine ⟨stamped_push I.st h2, ?_, ?_⟩
      · intro e he
        simp only [Array.toList_push, List.mem_append, List.mem_singleton] at he
        rcases he with he | rfl
        · obtain ⟨y, u, hy, hk, hu, hfy⟩ := I.each e he
          refine ⟨y, u, hy, hk, hu, ?_⟩
          have : y ≠ x := fun e1 => h2 e he (e1 ▸ hk)
          simp [upd, this, hfy]
        · exact ⟨x, v, hx, rfl, rfl, by simp [upd]⟩
      · intro y u hy
        simp only [Array.toList_push, List.mem_append, List.mem_singleton]
        unfold upd at hy
        split at hy
        · rename_i e1
          cases hy
          exact ⟨_, Or.inr rfl, by rw [e1], rfl⟩
        · obtain ⟨e, he, hk, hu⟩ := I.all y u hy
          exact ⟨e, Or.inl he, hk, hu⟩
  · have hj : es[j]? = some e0 := by simpa using h2
    have hlist : (es.modify j (fun e' => { e' with key := emb x, val := vemb v })).toList = es.toList.set j { e0 with key := emb x, val := vemb v } := by rw [Array.toList_modify, modify_eq_set _ _ _ _ h2]
    have hjl : j < es.toList.length := (List.getElem?_eq_some_iff.1 h2).1
    refine ⟨setBlock w b (.map (es.modify j (fun e' => { e' with key := emb x, val := vemb v })) clock), fun q => ?_, ⟨_, _, heap_setBlock_same hb _, by simp [hf], ?_⟩, ⟨rfl, rfl, rfl, by simp [setBlock], fun i _ hi => heap_setBlock_other hb _ (fun e => hi (by rw [e]))⟩, by simp [setBlock]⟩
    · have hbq : (w.drewN q).heap[b]? = some (.map es clock) := hb
      have h1 : ∃ u, (Instr.findKey k (emb x) es.toList).run P (w.drewN q) = .ok (some (j, u)) (w.drewN q) := by
        rcases find_at K I hx (w.drewN q) with ⟨_, hf', _⟩ | ⟨j', e1, _, h1, h2', h3', _⟩
        · rw [hf] at hf'; cases hf'
        · have := key_at I.st h2' h2 (h3'.trans h3.symm)
          subst this
          exact ⟨_, h1⟩
      obtain ⟨u, h1⟩ := h1
      simp [Instr.mapUpdate, run_underlying ht, MapKept.run_getObj_map hbq, K.keyed.check (w.drewN q) false hl, h1, hj, h3, K.keyed.stays (w.drewN q) hl, MapKept.run_setObj_map _ hbq, Result.andThen, setBlock]
      rfl
    · refine ⟨stamped_modify I.st _ _ (fun _ _ => rfl) (fun e' _ he' => by rw [hj] at he'; cases he'; exact h3.symm), ?_, ?_⟩
      · intro e he
        rw [hlist] at he
        obtain ⟨i, hi, ex⟩ := List.getElem_of_mem he
        rw [List.getElem_set] at ex
        split at ex
        · subst ex
          exact ⟨x, v, hx, rfl, rfl, by simp [upd]⟩
        · rename_i hne
          have hi' : i < es.toList.length := by simpa using hi
          have hie : es.toList[i]? = some e := by rw [List.getElem?_eq_getElem hi', ex]
          obtain ⟨y, u, hy, hk, hu, hfy⟩ := I.each e (List.mem_of_getElem? hie)
          refine ⟨y, u, hy, hk, hu, ?_⟩
          have : y ≠ x := fun e1 => hne (key_at I.st h2 hie (by rw [h3, hk, e1]))
          simp [upd, this, hfy]
      · intro y u hy
        rw [hlist]
        unfold upd at hy
        split at hy
        · rename_i e1
          cases hy
          exact ⟨{ e0 with key := emb x, val := vemb v }, List.mem_iff_getElem.2 ⟨j, by simpa using hjl, by simp⟩, by rw [e1], rfl⟩
        · rename_i hne
          obtain ⟨e, he, hk, hu⟩ := I.all y u hy
          obtain ⟨i, hi⟩ := List.getElem?_of_mem he
          have hij : j ≠ i := fun e1 => hne (by
            subst e1
            rw [h2] at hi
            cases hi
            exact K.inj y x (hk.symm.trans h3))
          obtain ⟨hil, hie⟩ := List.getElem?_eq_some_iff.1 hi
          exact ⟨e, List.mem_iff_getElem.2 ⟨i, by simpa using hil, by rw [List.getElem_set, if_neg hij, hie]⟩, hk, hu⟩

/-- THE KEYS, each once. -/
theorem keys_of (hinj : ∀ x y, emb x = emb y → x = y) : ∀ l : List MapEntry, l.Pairwise (fun x y => x.key ≠ y.key) → (∀ e ∈ l, ∃ x, e.key = emb x) → ∃ ks : List κ, ks.Nodup ∧ ks.length = l.length ∧ ∀ x, x ∈ ks ↔ ∃ e ∈ l, e.key = emb x
  | [], _, _ => ⟨[], List.nodup_nil, rfl, by simp⟩
  | e :: l, hp, hk => by
    obtain ⟨h1, h2⟩ := List.pairwise_cons.1 hp
    obtain ⟨ks, hn, hl, hm⟩ := keys_of hinj l h2 (fun e he => hk e (by simp [he]))
    obtain ⟨x, hx⟩ := hk e (by simp)
    refine ⟨x :: ks, List.nodup_cons.2 ⟨fun hxk => ?_, hn⟩, by simp [hl], fun y => ?_⟩
    · obtain ⟨e', he', hk'⟩ := (hm x).1 hxk
      exact h1 e' he' (hx.trans hk'.symm)
    · constructor
      · intro hy
        rcases List.mem_cons.1 hy with rfl | hy
        · exact ⟨e, by simp, hx⟩
        · obtain ⟨e', he', hk'⟩ := (hm y).1 hy
          exact ⟨e', by simp [he'], hk'⟩
      · rintro ⟨e', he', hk'⟩
        rcases List.mem_cons.1 he' with rfl | he'
        · exact List.mem_cons.2 (Or.inl (hinj y x (hk'.symm.trans hx)))
        · exact List.mem_cons.2 (Or.inr ((hm y).2 ⟨e', he', hk'⟩))

theorem mp.dom (h : mp w emb good vemb b f n) (hinj : ∀ x y, emb x = emb y → x = y) : ∃ ks : List κ, ks.Nodup ∧ ks.length = n ∧ ∀ x, x ∈ ks ↔ (f x).isSome = true := by
  obtain ⟨es, clock, _, rfl, I⟩ := h
  obtain ⟨ks, h1, h2, h3⟩ := keys_of hinj es.toList ((stamped_iff es clock).1 I.st).2.2 (fun e he => by obtain ⟨x, _, _, hk, _⟩ := I.each e he; exact ⟨x, hk⟩)
  refine ⟨ks, h1, by simpa using h2, fun x => (h3 x).trans ⟨?_, ?_⟩⟩
  · rintro ⟨e, he, hk⟩
    obtain ⟨y, v, _, hk', _, hf⟩ := I.each e he
    rw [hinj x y (hk.symm.trans hk'), hf]
    rfl
  · intro hs
    obtain ⟨v, hv⟩ := Option.isSome_iff_exists.1 hs
    obtain ⟨e, he, hk, _⟩ := I.all x v hv
    exact ⟨e, he, hk⟩

theorem nodup_len {l l' : List κ} (h : l.Nodup) (h' : l'.Nodup) (hm : ∀ x, x ∈ l ↔ x ∈ l') : l.length = l'.length :=
  ((List.perm_ext_iff_of_nodup h h').2 hm).length_eq

/-- Two maps over the same keys count alike. -/
theorem mp.same_size {β : Type} {vemb' : β → Value} {b' n' : Nat} {f' : κ → Option β} {good' : κ → Prop} {w' : World} (h : mp w emb good vemb b f n) (h' : mp w' emb good' vemb' b' f' n') (hinj : ∀ x y, emb x = emb y → x = y) (hd : ∀ x, (f x).isSome = true ↔ (f' x).isSome = true) : n = n' := by
  obtain ⟨ks, h1, rfl, h3⟩ := h.dom hinj
  obtain ⟨ks', h1', rfl, h3'⟩ := h'.dom hinj
  exact nodup_len h1 h1' fun x => (h3 x).trans ((hd x).trans (h3' x).symm)

/-- THE RANGE UNDER WAY: block r an iterator over block b; 'left x': is x still to come? -/
def rng (w : World) (emb : κ → Value) (good : κ → Prop) (vemb : α → Value) (b r : Nat) (f : κ → Option α) (left : κ → Bool) (cnt : Nat) : Prop :=
  ∃ es clock since seen c0, w.heap[b]? = some (.map es clock) ∧ IsMp emb good vemb es clock f ∧ w.heap[r]? = some (.mapIter (some b) since seen c0) ∧ (∀ e ∈ es.toList, e.born < since) ∧ (leftOf es seen).size = cnt ∧
    (∀ e ∈ es.toList, ∀ x, e.key = emb x → left x = !seen.contains e.born) ∧ (∀ x, left x = true → (f x).isSome = true) ∧ since ≤ c0 ∧ since ≤ clock

variable {r cnt : Nat} {left : κ → Bool}

theorem rng.left_eq (h : rng w emb good vemb b r f left cnt) : w.rangeLeft b r = cnt := by
  obtain ⟨es, clock, since, seen, c0, hb, _, hr, _, hc, _⟩ := h
  simp only [World.rangeLeft, hb, hr]
  exact hc

theorem rng.ne (h : rng w emb good vemb b r f left cnt) : r ≠ b := by
  obtain ⟨es, clock, since, seen, c0, hb, _, hr, _⟩ := h
  intro e
  rw [e, hb] at hr
  cases hr

theorem rng.lt (h : rng w emb good vemb b r f left cnt) : r < w.heap.size ∧ b < w.heap.size := by
  obtain ⟨es, clock, since, seen, c0, hb, _, hr, _⟩ := h
  exact ⟨(Array.getElem?_eq_some_iff.1 hr).1, (Array.getElem?_eq_some_iff.1 hb).1⟩

theorem rng.kept {row : Option Nat} (h : rng w emb good vemb b r f left cnt) (hg : w.grownBy w' row) (hb' : some b ≠ row) (hr' : some r ≠ row) : rng w' emb good vemb b r f left cnt := by
  obtain ⟨h1, h2⟩ := h.lt
  obtain ⟨es, clock, since, seen, c0, hb, I, hr, rest⟩ := h
  exact ⟨es, clock, since, seen, c0, (hg.block b h2 hb').trans hb, I, (hg.block r h1 hr').trans hr, rest⟩

theorem mp.range {P : Program} {k t e : TypeId} (h : mp w emb good vemb b f n) (hinj : ∀ x y, emb x = emb y → x = y) (ht : P.underlying t = some (.map k e)) :
    ∃ w', (Instr.range t (.map (some b))).run P w = .ok (.pointer (some ⟨w.heap.size, 0, none⟩)) w' ∧ rng w' emb good vemb b w.heap.size f (fun x => (f x).isSome) n ∧ w.grownBy w' none ∧ w'.heap.size = w.heap.size + 1 := by
  have hlt := h.lt
  obtain ⟨es, clock, hb, rfl, I⟩ := h
  refine ⟨_, run_range_map w t k e b es clock ht hb, ⟨es, clock, clock, #[], clock, ((MapKept.heap_alloc w _).2 b hlt).trans hb, I, (MapKept.heap_alloc w _).1, I.st.1, ?_, ?_, fun _ h => h, Nat.le_refl _, Nat.le_refl _⟩, World.grownBy_alloc w _ none, by simp⟩
  · simp [leftOf]
  · intro e he x hk
    obtain ⟨y, v, _, hk', _, hf⟩ := I.each e he
    rw [hinj x y (hk.symm.trans hk')]
    simp [hf]

/-- THE STEP. -/
theorem rng.next [DecidableEq κ] {P : Program} (h : rng w emb good vemb b r f left cnt) (hinj : ∀ x y, emb x = emb y → x = y) (ty : TypeId) :
    (cnt = 0 ∧ (∀ x, left x = false) ∧ (Instr.next (.pointer (some ⟨r, 0, none⟩)) false ty).run P w = .ok (.tuple #[.bool false]) w) ∨
    ∃ x v w' cnt', good x ∧ left x = true ∧ f x = some v ∧ (Instr.next (.pointer (some ⟨r, 0, none⟩)) false ty).run P w = .ok (.tuple #[.bool true, emb x, vemb v]) w' ∧
      rng w' emb good vemb b r f (fun y => left y && !decide (y = x)) cnt' ∧ cnt' < cnt ∧ w.grownBy w' (some r) ∧ w'.heap.size = w.heap.size ∧ (Instr.entry (.pointer (some ⟨r, 0, none⟩))).run P w' = .ok (.tuple #[emb x, vemb v]) w' := by
  have hne := h.ne
  obtain ⟨es, clock, since, seen, c0, hb, I, hr, hold, rfl, hl1, hl2, hsc, hsk⟩ := h
  have hst := (stamped_iff es clock).1 I.st
  rcases run_next_at (P := P) w ty r b since c0 seen es clock hr hb hold hsc with ⟨h0, hrun⟩ | ⟨e, he, w1, hal, hrun⟩
  · refine Or.inl ⟨h0, fun x => ?_, hrun⟩
    cases hk : left x
    · rfl
    · obtain ⟨v, hv⟩ := Option.isSome_iff_exists.1 (hl2 x hk)
      obtain ⟨e, he, hke, _⟩ := I.all x v hv
      rw [hl1 e he x hke, all_seen es seen h0 e he] at hk
      cases hk
  · obtain ⟨hem, hes⟩ := mem_left he
    obtain ⟨x, v, hgx, hkx, hvx, hfx⟩ := I.each e hem
    have hr1 : w1.heap[r]? = some (.mapIter (some b) since seen c0) := by rcases hal with rfl | rfl <;> exact hr
    have hb1 : w1.heap[b]? = some (.map es clock) := by rcases hal with rfl | rfl <;> exact hb
    have hset := heap_set (o' := .mapIter (some b) since (seen.push e.born) clock) hr1
    have hb' : (setBlock w1 r (.mapIter (some b) since (seen.push e.born) clock)).heap[b]? = some (.map es clock) := (hset.2 b (fun e1 => hne e1.symm)).trans hb1
    rw [hkx, hvx] at hrun
    have hen := run_entry_at (P := P) _ r b since seen es clock e hset.1 hb' hem hst.2.1
    rw [hkx, hvx] at hen
    refine Or.inr ⟨x, v, _, _, hgx, by rw [hl1 e hem x hkx, hes]; rfl, hfx, hrun,
      ⟨es, clock, since, seen.push e.born, clock, hb', I, hset.1, hold, rfl, fun e' he' y hy => ?_, fun y hy => hl2 y (by simp at hy; exact hy.1), hsk, hsk⟩, left_shrinks es seen e he, ?_, ?_, hen⟩
    · show (left y && !decide (y = x)) = _
      rw [hl1 e' he' y hy, contains_push]
      by_cases hyx : y = x
      · subst hyx
        have := entry_eq_of_key hst.2.2 he' hem (hy.trans hkx.symm)
        subst this
        simp
      · have hbe : (e'.born == e.born) = false := by
          rw [beq_eq_false_iff_ne]
          intro hbe
          have := born_inj hst.2.1 he' hem hbe
          subst this
          exact hyx (hinj y x (hy.symm.trans hkx))
        rw [hbe]
        simp [hyx]
    · rcases hal with rfl | rfl <;> exact ⟨rfl, rfl, rfl, by simp [setBlock], fun i _ hi => hset.2 i (fun e1 => hi (by rw [e1]))⟩
    · rcases hal with rfl | rfl <;> simp [setBlock]

end

section
variable {κ α : Type} {emb : κ → Value} {good : κ → Prop} {vemb : α → Value} {P : Program} (w : World) {ops : Array Oper} {rest : List Oper} {o : Oper} {a : Act} {Q : Exit → Act → World → Prop}

/-- 'range m' AT THE OPERATION. -/
theorem wpList_range_mp (hg : o.guard = none) (m : Operand) (t : TypeId) (hop : o.op = Op.range t m) (k e : TypeId) (ht : P.underlying t = some (.map k e)) (hinj : ∀ x y, emb x = emb y → x = y) (b n : Nat) (f : κ → Option α)
    (hm : a.eval m = .map (some b)) (h : mp w emb good vemb b f n)
    (hK : ∀ w', rng w' emb good vemb b w.heap.size f (fun x => (f x).isSome) n → w.grownBy w' none → w'.heap.size = w.heap.size + 1 → wpList P ops Q rest (a.put o.dst (.pointer (some ⟨w.heap.size, 0, none⟩))) w') :
    wpList P ops Q (o :: rest) a w := by
  refine wpList_plain hg fun K' hK' => ?_
  obtain ⟨w', hrun, r1, r2, r3⟩ := h.range (P := P) hinj ht
  unfold Oper.wp
  simp [execOp, hop, hm, hrun, Result.andThen]
  exact hK' _ _ (hK w' r1 r2 r3)

/-- THE STEP AT THE OPERATION. -/
theorem wpList_next_mp [DecidableEq κ] (hg : o.guard = none) (it : Operand) (hop : o.op = Op.next it false) (hinj : ∀ x y, emb x = emb y → x = y) (b r : Nat) (f : κ → Option α) (left : κ → Bool) (cnt : Nat)
    (hit : a.eval it = .pointer (some ⟨r, 0, none⟩)) (h : rng w emb good vemb b r f left cnt)
    (hDone : cnt = 0 → (∀ x, left x = false) → wpList P ops Q rest (a.put o.dst (.tuple #[.bool false])) w)
    (hMore : ∀ (x : κ) (v : α) (w' : World) (cnt' : Nat), good x → left x = true → f x = some v → rng w' emb good vemb b r f (fun y => left y && !decide (y = x)) cnt' → cnt' < cnt →
      w.grownBy w' (some r) → w'.heap.size = w.heap.size → (Instr.entry (.pointer (some ⟨r, 0, none⟩))).run P w' = .ok (.tuple #[emb x, vemb v]) w' → wpList P ops Q rest (a.put o.dst (.tuple #[.bool true, emb x, vemb v])) w') :
    wpList P ops Q (o :: rest) a w := by
  refine wpList_plain hg fun K' hK' => ?_
  unfold Oper.wp
  rcases h.next (P := P) hinj o.type with ⟨h0, hl, hrun⟩ | ⟨x, v, w', cnt', h1, h2, h3, hrun, h4, h5, h6, h7, h8⟩
  · simp [execOp, hop, hit, hrun, Result.andThen]
    exact hK' _ _ (hDone h0 hl)
  · simp [execOp, hop, hit, hrun, Result.andThen]
    exact hK' _ _ (hMore x v w' cnt' h1 h2 h3 h4 h5 h6 h7 h8)

/-- 'm[k] = v' AT THE OPERATION. -/
theorem wpList_put_mp [DecidableEq κ] (hg : o.guard = none) (m x v : Operand) (t : TypeId) (hop : o.op = Op.mapUpdate t m x v) (k e : TypeId) (K : Ky P k emb good) (ht : P.underlying t = some (.map k e)) (b n : Nat) (f : κ → Option α)
    (hm : a.eval m = .map (some b)) (h : mp w emb good vemb b f n) (y : κ) (hy : good y) (u : α) (hx : a.eval x = emb y) (hv : a.eval v = vemb u)
    (hK : ∀ w', mp w' emb good vemb b (upd f y u) (if (f y).isSome then n else n + 1) → w.grownBy w' (some b) → w'.heap.size = w.heap.size → wpList P ops Q rest (a.put o.dst undef) w') :
    wpList P ops Q (o :: rest) a w := by
  refine wpList_plain hg fun K' hK' => ?_
  obtain ⟨w', hrun, r1, r2, r3⟩ := h.put K ht hy u
  have hrun0 := hrun 0
  simp only [World.drewN_zero] at hrun0
  unfold Oper.wp
  simp [execOp, hop, hm, hx, hv, hrun0, Result.andThen]
  exact hK' _ _ (hK w' r1 r2 r3)

end

end Go.Proofs.Qxb6603485a
