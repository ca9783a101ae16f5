/- The keys [2]string. -/
import Derived.Test.Qxb6602946aFit
import Derived.ProofKit
namespace Go.Proofs.Qxb6602946a
open Go.RowKit

/-- Two strings, as a key. -/
def prv (p : ByteArray × ByteArray) : Value := .agg #[.string p.1, .string p.2]
def okP (p : ByteArray × ByteArray) : Prop := okS p.1 ∧ okS p.2

theorem laidOut0 : laidOutB Try.prog = true := by kernel_rfl
theorem Try.cells34 : Try.prog.cellsOf 34 = 2 := by kernel_rfl
theorem Try.cells9' : Try.prog.cellsOf 9 = 1 := by kernel_rfl
theorem key34 : Try.prog.keyType 34 = true := by kernel_rfl
theorem keyed34 : Maps.Keyed Try.prog 34 :=
  Maps.Keyed.of_law (deep_law_laid laidOut0 (m := 10) (by decide) (of_decide_eq_true (by kernel_rfl)) (by kernel_rfl) (by kernel_rfl))
theorem types0 : 0 < Try.prog.types.size := of_decide_eq_true (by kernel_rfl)

theorem read34 (p : ByteArray × ByteArray) (h : okP p) : ∃ l, keyOf Try.prog 34 (prv p) = some l := by
  obtain ⟨h1, h2⟩ := h
  unfold okS at h1 h2
  have h0 := types0
  have hn : Try.prog.types.size + 1 = (Try.prog.types.size - 1) + 2 := by omega
  generalize Try.prog.types.size - 1 = n at hn
  have e9 : ∀ s : ByteArray, s.size ≤ maxLen → Try.prog.keyLits (n + 1) 9 [.string s] = some [.string s.data.toList] := by
    intro s hs
    unfold Program.keyLits
    simp only [Try.underlying9, if_pos hs]
  have e34 : ∃ ls, Try.prog.keyLits (n + 1 + 1) 34 [.string p.1, .string p.2] = some ls := by
    unfold Program.keyLits
    simp only [Try.underlying34, Try.cells34, Try.cells9']
    rw [if_pos (show [Value.string p.1, Value.string p.2].length = 2 from rfl)]
    have hr : List.range 2 = [0, 1] := rfl
    rw [hr]
    simp only [List.mapM_cons, List.mapM_nil, Nat.zero_mul, Nat.one_mul, List.drop_zero, List.drop_succ_cons, List.take_succ_cons, List.take_zero, e9 p.1 h1, e9 p.2 h2]
    exact ⟨_, rfl⟩
  obtain ⟨ls, hls⟩ := e34
  have hf : (prv p).formed Try.prog 34 = true := by
    unfold prv Value.formed
    simp only [Try.underlying34, Try.cells34]
    rfl
  refine ⟨.string (keyBytes ls), ?_⟩
  unfold keyOf
  simp only [Try.underlying34, key34, hf, hn]
  rw [show (prv p).cells.toList = [.string p.1, .string p.2] from rfl, hls]
  rfl

theorem inj34 (x y : ByteArray × ByteArray) (h : prv x = prv y) : x = y := by
  obtain ⟨a, b⟩ := x
  obtain ⟨c, d⟩ := y
  simp [prv] at h
  simp [h]

theorem ky34 : Ky Try.prog 34 prv okP := ⟨keyed34, read34, inj34⟩

end Go.Proofs.Qxb6602946a
