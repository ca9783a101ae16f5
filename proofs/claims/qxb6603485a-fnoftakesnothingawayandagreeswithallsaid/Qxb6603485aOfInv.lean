/- FnOfTakesNothingAwayAndAgreesWithAll: what its first loop lays in memory, plainly (no walk). -/
import Derived.Test.Qxb6603485aPend
import Derived.Laws.MakeOwn
namespace Go.Proofs.Qxb6603485a
open Go.RowKit

/-- An index, as a map's element. -/
def ixv (i : Nat) : Value := .int .i64 i

/-- Which end waits under x after k keys: the blocks of the ends begin at B. -/
def pf (L : List ByteArray) (B k : Nat) (x : ByteArray) : Option Nat := (lastIx L x k).map (B + ·)

theorem upd_last (L : List ByteArray) (k : Nat) : upd (fun x => lastIx L x k) (L.getD k ⟨#[]⟩) k = fun x => lastIx L x (k + 1) := by
  funext x
  unfold upd
  by_cases h : x = L.getD k ⟨#[]⟩
  · rw [if_pos h]
    simp only [lastIx]
    rw [if_pos h.symm]
  · rw [if_neg h]
    have : ¬ L.getD k ⟨#[]⟩ = x := fun e => h e.symm
    simp only [lastIx, if_neg this]

theorem upd_pf (L : List ByteArray) (B k : Nat) : upd (pf L B k) (L.getD k ⟨#[]⟩) (B + k) = pf L B (k + 1) := by
  funext x
  unfold upd
  by_cases h : x = L.getD k ⟨#[]⟩
  · rw [if_pos h]
    simp only [pf, lastIx]
    rw [if_pos h.symm]
    rfl
  · rw [if_neg h]
    have : ¬ L.getD k ⟨#[]⟩ = x := fun e => h e.symm
    simp only [pf, lastIx, if_neg this]

theorem lastIx_some (L : List ByteArray) (j : Nat) : ∀ k, j < k → ∃ i, lastIx L (L.getD j ⟨#[]⟩) k = some i ∧ i < k
  | 0, h => absurd h (Nat.not_lt_zero _)
  | k + 1, h => by
    unfold lastIx
    split
    · exact ⟨k, rfl, Nat.lt_succ_self _⟩
    · rename_i hne
      have hj : j < k := by
        rcases Nat.lt_or_eq_of_le (Nat.le_of_lt_succ h) with h | rfl
        · exact h
        · exact absurd rfl hne
      obtain ⟨i, h1, h2⟩ := lastIx_some L j k hj
      exact ⟨i, h1, Nat.lt_succ_of_lt h2⟩

/-- THE STATE after k keys: the slice of ends lies in block E, the map of the last places in E + 1, the map of the ends waiting in E + 2, the ends from E + 3 on. -/
structure OfInv (L : List ByteArray) (E : Nat) (w wr : World) (n k : Nat) : Prop where
  size : wr.heap.size = E + 3 + k
  below : Below E w wr
  ends : ∃ cs : Array Value, wr.heap[E]? = some (.cells cs 29 (0, 0)) ∧ cs.size = n ∧ ∀ j, j < k → cs[j]? = some (ptr (E + 3 + j))
  last : ∃ c, mp wr Value.string okS ixv (E + 1) (fun x => lastIx L x k) c
  wait : ∃ c, mp wr Value.string okS ptr (E + 2) (pf L (E + 3) k) c

theorem inf29 : ∃ i, Try.prog.info? 29 = some i ∧ i.zero = some (.pointer none) ∧ i.size = 1 ∧ i.bytes = 8 := by
  have h1 : ((Try.prog.info? 29).map fun i => (i.size, i.bytes)) = some (1, 8) := by kernel_rfl
  have h2 : ((Try.prog.info? 29).bind fun i => i.zero) = some (.pointer none) := by kernel_rfl
  cases hi : Try.prog.info? 29 with
  | none => rw [hi] at h1; cases h1
  | some i =>
    rw [hi] at h1 h2
    simp only [Option.map_some, Option.some.injEq, Prod.mk.injEq] at h1
    exact ⟨i, rfl, h2, h1.1, h1.2⟩

theorem start_any (L : List ByteArray) (n : Nat) (hn : n ≤ 65536) (w : World) :
    ∃ wA wB wC, (Instr.makeSlice 26 (.int .i64 n) (.int .i64 n)).run Try.prog w = .ok (.slice (some ⟨w.heap.size, 0, none⟩) n n) wA ∧
      (Instr.makeMap 27 (some (.int .i64 n))).run Try.prog wA = .ok (.map (some (w.heap.size + 1))) wB ∧
      (Instr.makeMap 28 (some (.int .i64 n))).run Try.prog wB = .ok (.map (some (w.heap.size + 2))) wC ∧ OfInv L w.heap.size w wC n 0 := by
  obtain ⟨i, hi, hz, hs, hb⟩ := inf29
  have hr := run_make (P := Try.prog) w 26 29 i _ Try.underlying26 hi hz .i64 .i64 n n (by omega) (Int.le_refl _) (by rw [hb]; omega) (by omega)
  rw [hs] at hr
  simp only [Int.toNat_natCast, Nat.mul_one] at hr
  have h27 := run_makeMap_some (P := Try.prog) Try.underlying27 .i64 (n : Int) (w.alloc (.cells (madeCells (Value.pointer none).cells n) 29))
  have h28 := run_makeMap_some (P := Try.prog) Try.underlying28 .i64 (n : Int) ((w.alloc (.cells (madeCells (Value.pointer none).cells n) 29)).alloc (.map #[] 0))
  have s1 : (w.alloc (.cells (madeCells (Value.pointer none).cells n) 29)).heap.size = w.heap.size + 1 := by simp
  have s2 : ((w.alloc (.cells (madeCells (Value.pointer none).cells n) 29)).alloc (.map #[] 0)).heap.size = w.heap.size + 2 := by simp
  rw [s1] at h27
  rw [s2] at h28
  refine ⟨_, _, _, hr, h27, h28, ⟨by simp, ?_, ?_, ?_, ?_⟩⟩
  · exact ((((Below.refl _ _).alloc (Nat.le_refl _) _).alloc (by simp) _).alloc (by simp; omega) _)
  · refine ⟨madeCells (Value.pointer none).cells n, ?_, size_madeCells _ _, fun j hj => absurd hj (Nat.not_lt_zero _)⟩
    rw [heap_alloc_old _ _ _ (by simp; omega), heap_alloc_old _ _ _ (by simp)]
    exact heap_alloc_new _ _
  · refine ⟨0, mp.alloc ?_ _⟩
    have := mp_made (α := Nat) (w.alloc (.cells (madeCells (Value.pointer none).cells n) 29)) Value.string okS ixv
    rw [s1] at this
    exact this
  · refine ⟨0, ?_⟩
    have := mp_made (α := Nat) ((w.alloc (.cells (madeCells (Value.pointer none).cells n) 29)).alloc (.map #[] 0)) Value.string okS ptr
    rw [s2] at this
    exact this

theorem step_any (L : List ByteArray) (E : Nat) (w wr w1 : World) (n k : Nat) (h : OfInv L E w wr n k) (hk : k < n) (hx : okS (L.getD k ⟨#[]⟩)) (hb : Below wr.heap.size wr w1) (hs : w1.heap.size = wr.heap.size + 1) :
    (w1.cell? ⟨E, k, none⟩).isSome = true ∧ w1.frozen? ⟨E, k, none⟩ = false ∧ Below E w (w1.setCell ⟨E, k, none⟩ (ptr wr.heap.size)) ∧
    ∃ w3 w4 : World, (Instr.mapUpdate 28 (.map (some (E + 2))) (.string (L.getD k ⟨#[]⟩)) (ptr wr.heap.size)).run Try.prog (w1.setCell ⟨E, k, none⟩ (ptr wr.heap.size)).drew = .ok () w3.drew ∧
      (Instr.mapUpdate 27 (.map (some (E + 1))) (.string (L.getD k ⟨#[]⟩)) (.int .i64 k)).run Try.prog w3.drew = .ok () w4.drew ∧ Below E w w3.drew ∧ OfInv L E w w4.drew n (k + 1) := by
  obtain ⟨hsz, hbl, ⟨cs, hE, hcs, hj⟩, ⟨c1, hl⟩, ⟨c2, hw⟩⟩ := h
  have e1 : E < wr.heap.size := by omega
  have hE1 : w1.heap[E]? = some (.cells cs 29 (0, 0)) := (hb.block E e1).trans hE
  have hc : w1.cell? ⟨E, k, none⟩ = cs[k]? := cell_of_row w1 E k cs 29 (0, 0) hE1
  have hB2 : Below E w (w1.setCell ⟨E, k, none⟩ (ptr wr.heap.size)) := (hbl.trans (hb.mono (by omega))).setCell (Nat.le_refl _) _
  have hl2 := (hl.below hb hl.lt).setCell (a := ⟨E, k, none⟩) (show E + 1 ≠ E by omega) (ptr wr.heap.size)
  have hw2 := (hw.below hb hw.lt).setCell (a := ⟨E, k, none⟩) (show E + 2 ≠ E by omega) (ptr wr.heap.size)
  have hE2 : (w1.setCell ⟨E, k, none⟩ (ptr wr.heap.size)).heap[E]? = some (.cells (cs.setIfInBounds k (ptr wr.heap.size)) 29 (0, 0)) := heap_setCell_same w1 E k _ 29 _ hE1
  have hs2 : (w1.setCell ⟨E, k, none⟩ (ptr wr.heap.size)).heap.size = w1.heap.size := by simp [World.setCell]
  obtain ⟨w3, hp3, hw3, hg3, hs3⟩ := hw2.put (P := Try.prog) (t := 28) ky9 Try.underlying28 hx wr.heap.size
  have hl3 := hl2.kept hg3 (by simp)
  obtain ⟨w4, hp4, hl4, hg4, hs4⟩ := hl3.put (P := Try.prog) (t := 27) ky9 Try.underlying27 hx k
  have hw4 := hw3.kept hg4 (by simp)
  have hB3 : Below E w w3 := hB2.grown hg3 (by omega) (fun j hj => by cases hj; omega)
  have hB4 : Below E w w4 := hB3.grown hg4 (by omega) (fun j hj => by cases hj; omega)
  refine ⟨?_, frozen_of_row w1 E k cs 29 hE1, hB2, w3, w4, hp3 1, hp4 1, hB3.drew, ⟨?_, hB4.drew, ?_, ?_, ?_⟩⟩
  · rw [hc]
    have : k < cs.size := by omega
    simp [this]
  · show w4.heap.size = _
    omega
  · refine ⟨cs.setIfInBounds k (ptr wr.heap.size), ?_, by simp [hcs], fun j hjk => ?_⟩
    · show w4.heap[E]? = _
      rw [hg4.block E (by omega) (by simp), hg3.block E (by omega) (by simp), hE2]
    · rw [Array.getElem?_setIfInBounds]
      split
      · rename_i e
        subst e
        rw [if_pos (by omega), hsz]
      · exact hj j (by omega)
  · rw [upd_last] at hl4
    exact ⟨_, hl4⟩
  · rw [hsz, upd_pf] at hw4
    exact ⟨_, hw4⟩

end Go.Proofs.Qxb6603485a
