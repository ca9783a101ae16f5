/- Arguments opened: a slice of strings; a map of strings to strings; a map of strings to slices of strings. -/
import Derived.Test.Qxb6602946aFit
import Derived.Maps.StringElems
import Derived.SliceStrings
import Derived.ProofKit
import Derived.Below
namespace Go.Proofs.Qxb6602946a
open Go.ChangeShapes (open_strings)
open Go.RowKit Go.MapKept

theorem Try.cells9 : Try.prog.cellsOf 9 = 1 := by kernel_rfl

section
variable {κ α : Type} {emb : κ → Value} {good : κ → Prop} {vemb : α → Value}

/-- Entries whose keys and elements have the shapes hold some function. -/
theorem mk_mp {es : Array MapEntry} {clock : Nat} (st : Stamped es clock) (hvinj : ∀ x y, vemb x = vemb y → x = y)
    (h : ∀ e ∈ es.toList, ∃ x v, good x ∧ e.key = emb x ∧ e.val = vemb v) : ∃ f : κ → Option α, IsMp emb good vemb es clock f := by
  have hp := ((stamped_iff es clock).1 st).2.2
  have hex : ∀ x : κ, ∃ o : Option α, ∀ v, o = some v ↔ ∃ e ∈ es.toList, e.key = emb x ∧ e.val = vemb v := by
    intro x
    by_cases hx : ∃ v, ∃ e ∈ es.toList, e.key = emb x ∧ e.val = vemb v
    · obtain ⟨v, e, he, hk, hv⟩ := hx
      refine ⟨some v, fun v' => ⟨fun h => ?_, ?_⟩⟩
      · cases h
        exact ⟨e, he, hk, hv⟩
      · rintro ⟨e', he', hk', hv'⟩
        have := entry_eq_of_key hp he he' (hk.trans hk'.symm)
        subst this
        rw [hvinj v v' (hv.symm.trans hv')]
    · refine ⟨none, fun v => ⟨fun h => by (cases h), fun h => absurd ⟨v, h⟩ hx⟩⟩
  obtain ⟨f, hf⟩ : ∃ f : κ → Option α, ∀ x v, f x = some v ↔ ∃ e ∈ es.toList, e.key = emb x ∧ e.val = vemb v := ⟨fun x => Classical.choose (hex x), fun x => Classical.choose_spec (hex x)⟩
  refine ⟨f, st, fun e he => ?_, fun x v hfx => (hf x v).1 hfx⟩
  obtain ⟨x, v, hg, hk, hv⟩ := h e he
  exact ⟨x, v, hg, hk, hv, (hf x v).2 ⟨e, he, hk, hv⟩⟩
end

section
variable {H : Type} {enc : TypeId × Value → H} {w : World} {base : Nat} {sp : Nat → Bool} {held : Bool} {fuel : Nat}

/-- A slice of strings. -/
theorem open_strs' {ao : Option Addr} {len cap : Nat} {x : DataW H × List MemPlace} (h : DataW.trod enc Try.prog w base sp held fuel 23 [.slice ao len cap] = some x) : ∃ L, strs w ao len L ∧ len ≤ maxLen := by
  rcases open_strings Try.underlying23 Try.underlying9 Try.cells9 h with ⟨hcs, _⟩ | ⟨a, len', cap', ss, hcs, _, hl, hm, hz, _, hcell, hws⟩
  · simp only [List.cons.injEq, Value.slice.injEq, and_true] at hcs
    obtain ⟨rfl, rfl, rfl⟩ := hcs
    exact ⟨[], ⟨rfl, fun j hj => by omega, by simp⟩, Nat.zero_le _⟩
  · simp only [List.cons.injEq, Value.slice.injEq, and_true] at hcs
    obtain ⟨rfl, rfl, rfl⟩ := hcs
    have hle : len ≤ ss.length := by rw [hz]; split <;> omega
    refine ⟨ss.take len, ⟨by rw [List.length_take]; omega, fun j hj => ?_, fun s hs => hws s (List.mem_of_mem_take hs)⟩, by omega⟩
    obtain ⟨b, off, spot⟩ := a
    have hspot : spot = none := by simpa [Addr.add] using World.cell?_spot (hcell 0 (by omega))
    subst hspot
    refine ⟨b, off, rfl, ?_⟩
    have := hcell j (by omega)
    rw [Go.WideShapes.add_plain] at this
    rw [this]
    have h1 : j < ss.length := by omega
    simp [List.getD, h1, hj]

/-- A map of strings to strings. -/
theorem open_map30 {mo : Option Nat} {x : DataW H × List MemPlace} (h : DataW.trod enc Try.prog w base sp held fuel 30 [.map mo] = some x) :
    mo = none ∨ ∃ b f n, mo = some b ∧ mp w Value.string okS Value.string b f n ∧ ∀ x v, f x = some v → okS v := by
  rcases WideElems.open_map Try.underlying30 h with ⟨hcs, _⟩ | ⟨b, es, clock, n, rfl, hcs, hb, _, F, _⟩
  · simp only [List.cons.injEq, Value.map.injEq, and_true] at hcs
    exact Or.inl hcs
  · simp only [List.cons.injEq, Value.map.injEq, and_true] at hcs
    subst hcs
    have hev : ∀ e ∈ es.toList, ∃ x v, okS x ∧ e.key = .string x ∧ e.val = .string v ∧ okS v := by
      intro e he
      obtain ⟨y, hy⟩ := F.reads e he
      obtain ⟨s, hs, _, hsz⟩ := WideMaps.string_of_keyOf Try.underlying9 (WideElems.rd_key hy)
      obtain ⟨z, hz, _⟩ := WideElems.rd_val hy
      obtain ⟨v, hv, _, hvz⟩ := WideElems.elemAt_string Try.underlying9 hz
      exact ⟨s, v, hsz, hs, hv, hvz⟩
    obtain ⟨f, I⟩ := mk_mp (emb := Value.string) (good := okS) (vemb := Value.string) F.stamped inj9 (fun e he => by obtain ⟨x, v, h1, h2, h3, _⟩ := hev e he; exact ⟨x, v, h1, h2, h3⟩)
    refine Or.inr ⟨b, f, es.size, rfl, ⟨es, clock, hb, rfl, I⟩, fun x v hf => ?_⟩
    obtain ⟨e, he, _, hv⟩ := I.all x v hf
    obtain ⟨_, v', _, _, hv', hok⟩ := hev e he
    rw [inj9 v v' (hv.symm.trans hv')]
    exact hok

theorem slv_inj (x y : Sl) (h : slv x = slv y) : x = y := by
  obtain ⟨a, l, c⟩ := x
  obtain ⟨a', l', c'⟩ := y
  simp only [slv, Value.slice.injEq] at h
  obtain ⟨rfl, rfl, rfl⟩ := h
  rfl

/-- An element that reads as a slice of strings IS a slice. -/
theorem elem_slice {n : Nat} {v : Value} {z : DataW H × List MemPlace} (h : WideElems.elemAt enc Try.prog w base sp held n 23 v = some z) : ∃ sl L, v = slv sl ∧ strs w sl.a sl.l L := by
  unfold WideElems.elemAt at h
  split at h
  · rename_i hf
    have hv : ∃ a l c, v = .slice a l c := by
      rcases open_strings Try.underlying23 Try.underlying9 Try.cells9 h with ⟨hcs, _⟩ | ⟨a, len', cap', ss, hcs, _⟩
      · cases v <;> simp [Value.formed, Try.underlying23, Value.cells] at hf hcs
        exact ⟨_, _, _, rfl⟩
      · cases v <;> simp [Value.formed, Try.underlying23, Value.cells] at hf hcs
        exact ⟨_, _, _, rfl⟩
    obtain ⟨a, l, c, rfl⟩ := hv
    obtain ⟨L, hs, _⟩ := open_strs' h
    exact ⟨⟨a, l, c⟩, L, rfl, hs⟩
  · cases h

/-- A map of strings to slices of strings. -/
theorem open_map27 {mo : Option Nat} {x : DataW H × List MemPlace} (h : DataW.trod enc Try.prog w base sp held fuel 27 [.map mo] = some x) :
    mo = none ∨ ∃ (b : Nat) (f : ByteArray → Option Sl) (G : ByteArray → List ByteArray) (n : Nat), mo = some b ∧ mp w Value.string okS slv b f n ∧ ∀ x sl, f x = some sl → strs w sl.a sl.l (G x) := by
  rcases WideElems.open_map Try.underlying27 h with ⟨hcs, _⟩ | ⟨b, es, clock, n, rfl, hcs, hb, _, F, _⟩
  · simp only [List.cons.injEq, Value.map.injEq, and_true] at hcs
    exact Or.inl hcs
  · simp only [List.cons.injEq, Value.map.injEq, and_true] at hcs
    subst hcs
    have hev : ∀ e ∈ es.toList, ∃ x v, okS x ∧ e.key = .string x ∧ e.val = slv v ∧ ∃ L, strs w v.a v.l L := by
      intro e he
      obtain ⟨y, hy⟩ := F.reads e he
      obtain ⟨s, hs, _, hsz⟩ := WideMaps.string_of_keyOf Try.underlying9 (WideElems.rd_key hy)
      obtain ⟨z, hz, _⟩ := WideElems.rd_val hy
      obtain ⟨sl, L, hv, hL⟩ := elem_slice hz
      exact ⟨s, sl, hsz, hs, hv, L, hL⟩
    obtain ⟨f, I⟩ := mk_mp (emb := Value.string) (good := okS) (vemb := slv) F.stamped slv_inj (fun e he => by obtain ⟨x, v, h1, h2, h3, _⟩ := hev e he; exact ⟨x, v, h1, h2, h3⟩)
    have hG : ∀ x, ∃ L, ∀ sl, f x = some sl → strs w sl.a sl.l L := by
      intro x
      cases hx : f x with
      | none => exact ⟨[], fun sl h => by cases h⟩
      | some sl =>
        obtain ⟨e, he, _, hv⟩ := I.all x sl hx
        obtain ⟨_, v', _, _, hv', L, hL⟩ := hev e he
        have := slv_inj sl v' (hv.symm.trans hv')
        subst this
        exact ⟨L, fun sl' h => by cases h; exact hL⟩
    exact Or.inr ⟨b, f, fun x => Classical.choose (hG x), es.size, rfl, ⟨es, clock, hb, rfl, I⟩, fun x => Classical.choose_spec (hG x)⟩

end

end Go.Proofs.Qxb6602946a
