/- Arguments opened: a slice of strings; many arguments laid end to end. -/
import Derived.Test.Qxb6603485aBase
import Derived.SliceStrings
import Derived.ProofKit
import Derived.Below
import Derived.ShutString
import Derived.ChangeOld
namespace Go.Proofs.Qxb6603485a
open Go.ChangeShapes (open_strings)
open Go.RowKit

theorem Try.cells9 : Try.prog.cellsOf 9 = 1 := by kernel_rfl
theorem own : ownKnob Try.prog.godebug = none := by kernel_rfl
theorem laidOut : laidOutB Try.prog = true := by kernel_rfl

section
variable {H : Type} {enc : TypeId × Value → H} {P : Program} {w : World} {base : Nat} {sp : Nat → Bool} {held : Bool} {fuel : Nat}

theorem all_cons {t : TypeId} {ts : List TypeId} {v : Value} {vs : List Value} {d : DataW H} {ds : List (DataW H)} {p p' : List MemPlace}
    (h : DataW.Trod enc P w base sp held t v d p) (hs : DataW.TrodAll enc P w base sp held ts vs ds p') : DataW.TrodAll enc P w base sp held (t :: ts) (v :: vs) (d :: ds) (p ++ p') := ⟨p, p', h, hs, rfl⟩

/-- A slice of strings. -/
theorem open_strs' {ao : Option Addr} {len cap : Nat} {d : DataW H} {p : List MemPlace} (h : DataW.Trod enc Try.prog w base sp held 22 (.slice ao len cap) d p) : ∃ L, strs w ao len L ∧ len ≤ maxLen := by
  obtain ⟨fuel, h⟩ := h
  rcases open_strings Try.underlying22 Try.underlying9 Try.cells9 h with ⟨hcs, _⟩ | ⟨a, len', cap', ss, hcs, _, hl, hm, hz, _, hcell, hws⟩
  · simp [Value.cells] at hcs
    obtain ⟨rfl, rfl, rfl⟩ := hcs
    exact ⟨[], ⟨rfl, fun j hj => by omega, by simp⟩, Nat.zero_le _⟩
  · simp [Value.cells] at hcs
    obtain ⟨rfl, rfl, rfl⟩ := hcs
    have hle : len ≤ ss.length := by rw [hz]; split <;> omega
    refine ⟨ss.take len, ⟨by rw [List.length_take]; omega, fun j hj => ?_, fun s hs => hws s (List.mem_of_mem_take hs)⟩, by omega⟩
    obtain ⟨b, off, spot⟩ := a
    have hspot : spot = none := by simpa [Addr.add] using World.cell?_spot (hcell 0 (by omega))
    subst hspot
    refine ⟨b, off, rfl, ?_⟩
    have := hcell j (by omega)
    rw [Go.WideShapes.add_plain] at this
    rw [this]
    have h1 : j < ss.length := by omega
    simp [List.getD, h1, hj]

/-- Behind a call that has turned nothing old it reads as it did. -/
theorem lt_of_trod {t : TypeId} {v : Value} {d : DataW H} {p : List MemPlace} (h : DataW.Trod enc P w base sp held t v d p) : ∀ x ∈ p, x.block < w.heap.size := by
  obtain ⟨m, hm⟩ := h
  exact DataW.trod_lt m _ _ _ hm
end

end Go.Proofs.Qxb6603485a
