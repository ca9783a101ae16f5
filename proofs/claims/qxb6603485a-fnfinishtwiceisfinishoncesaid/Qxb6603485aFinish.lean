/- finish: the walk. -/
import Derived.Test.Qxb6603485aBranch
import Derived.BigRegion
namespace Go.Proofs.Qxb6603485a
open Go.RowKit

theorem bytesAt.at {w w' : World} {b : Nat} {err : ByteArray} (h : bytesAt w b err) (hb : w'.heap[b]? = w.heap[b]?) : bytesAt w' b err := by
  intro j hj
  have hadd : (⟨b, 0, none⟩ : Addr).add j = ⟨b, j, none⟩ := by unfold Addr.add; split <;> simp_all
  have := h j hj
  rw [hadd] at this ⊢
  exact (World.cell?_of_block (a := ⟨b, j, none⟩) hb).trans this

section
variable {w w' : World} {b bm bs c : Nat} {name resource xid state stamp : ByteArray} {ft status : Int} {err : ByteArray}

theorem Br.lt (h : Br w b bm bs c name resource xid state stamp ft status err) : b < w.heap.size := (Array.getElem?_eq_some_iff.1 h.cells).1

theorem Br.at (h : Br w b bm bs c name resource xid state stamp ft status err) (h1 : w'.heap[b]? = w.heap[b]?) (h2 : w'.heap[bm]? = w.heap[bm]?) (h3 : w'.heap[bs]? = w.heap[bs]?) (h4 : w.heap.size ≤ w'.heap.size) : Br w' b bm bs c name resource xid state stamp ft status err :=
  ⟨h1.trans h.cells, h.ends.at h2, h.pay.at h3, h.ne, Nat.lt_of_lt_of_le h.slt h4⟩

/-- One cell of the branch is written. -/
theorem Br.set {state' stamp' : ByteArray} {ft' : Int} (h : Br w b bm bs c name resource xid state stamp ft status err) (j : Nat) (u : Value)
    (hu : (brCells name resource xid state stamp bm bs c ft status err).setIfInBounds j u = brCells name resource xid state' stamp' bm bs c ft' status err) :
    Br (w.setCell ⟨b, j, none⟩ u) b bm bs c name resource xid state' stamp' ft' status err := by
  refine ⟨?_, h.ends.setCell h.ne.1 u, h.pay.at (Below.heap_setCell _ _ _ _ h.ne.2), h.ne, by simpa [World.setCell] using h.slt⟩
  rw [← hu]
  exact heap_setCell_same w b j _ 55 u h.cells
end

theorem Br.alloc {w : World} {b bm bs c : Nat} {name resource xid state stamp : ByteArray} {ft status : Int} {err : ByteArray} (h : Br w b bm bs c name resource xid state stamp ft status err) (o : Obj) : Br (w.alloc o) b bm bs c name resource xid state stamp ft status err :=
  h.at (heap_alloc_old w o b h.lt) (heap_alloc_old w o bm h.ends.lt) (heap_alloc_old w o bs h.slt) (by simp)

theorem Br.drew {w : World} {b bm bs c : Nat} {name resource xid state stamp : ByteArray} {ft status : Int} {err : ByteArray} (h : Br w b bm bs c name resource xid state stamp ft status err) : Br w.drew b bm bs c name resource xid state stamp ft status err :=
  h.at rfl rfl rfl (Nat.le_refl _)

theorem grown_set (w : World) (b j : Nat) (u : Value) : w.grownBy (w.setCell ⟨b, j, none⟩ u) (some b) :=
  ⟨rfl, rfl, rfl, by simp [World.setCell], fun k _ hk => heap_setCell_other w ⟨b, j, none⟩ k u (fun e => hk (by rw [e]))⟩

theorem grown_drew {w w' : World} {row : Option Nat} (h : w.grownBy w' row) : w.grownBy w'.drew row := ⟨h.os, h.tape, h.output, h.size, h.block⟩

/-- A logged end of a branch. -/
def finv (p : ByteArray × ByteArray) : Value := .agg #[.string p.1, .string p.2]

def endCells (fr to : ByteArray) (bb : Nat) (rs : Bool) : Array Value := #[.string fr, .string to, .map (some bb), .bool rs, .int .u64 0, .int .i64 0, .pointer none]

/-- What finish leaves. -/
def stateOf (o : Option (ByteArray × ByteArray)) (state : ByteArray) : ByteArray := match o with | some p => p.1 | none => state
def stampOf (o : Option (ByteArray × ByteArray)) (stamp : ByteArray) : ByteArray := match o with | some p => if p.2.toList.isEmpty then stamp else p.2 | none => stamp
def triesOf (o : Option (ByteArray × ByteArray)) (rs : Bool) (ft : Int) : Int := match o with | some _ => 0 | none => if rs then 0 else ft

theorem zero40 (w : World) : (zeroValue 40).run Try.prog w = .ok (finv (⟨#[]⟩, ⟨#[]⟩)) w := by kernel_rfl

set_option maxHeartbeats 1000000 in
set_option maxRecDepth 100000 in
theorem finish_any (be b bm bs c bb fn : Nat) (fr to name resource xid state stamp : ByteArray) (rs : Bool) (ft status : Int) (err : ByteArray) (ff : ByteArray → Option (ByteArray × ByteArray)) (w : World)
    (hE : w.heap[be]? = some (.cells (endCells fr to bb rs) 59 (0, 0))) (hm : mp w Value.string okS finv bb ff fn) (hB : Br w b bm bs c name resource xid state stamp ft status err) (hn : okS name) :
    Calls Try.prog 21 #[.pointer (some ⟨be, 0, none⟩), .pointer (some ⟨b, 0, none⟩)] w fun e w' => e = .returned (.tuple #[]) ∧
      Br w' b bm bs c name resource xid (stateOf (ff name) state) (stampOf (ff name) stamp) (triesOf (ff name) rs ft) status err ∧ w.grownBy w' (some b) := by
  have hlk0 := hm.look (P := Try.prog) ky9 Try.underlying37 zero40 true hn 1
  have hlk1 := (hm.alloc (.cells #[.string ⟨#[]⟩, .string ⟨#[]⟩] 40)).look (P := Try.prog) ky9 Try.underlying37 zero40 true hn 1
  have ce2 : w.cell? ⟨be, 2, none⟩ = some (.map (some bb)) := cell_of_row w be 2 _ 59 (0, 0) hE
  have ce3 : w.cell? ⟨be, 3, none⟩ = some (.bool rs) := cell_of_row w be 3 _ 59 (0, 0) hE
  have cb0 : w.cell? ⟨b, 0, none⟩ = some (.string name) := cell_of_row w b 0 _ 55 (0, 0) hB.cells
  have cb3 : w.cell? ⟨b, 3, none⟩ = some (.string state) := cell_of_row w b 3 _ 55 (0, 0) hB.cells
  have cb4 : w.cell? ⟨b, 4, none⟩ = some (.string stamp) := cell_of_row w b 4 _ 55 (0, 0) hB.cells
  have cb7 : w.cell? ⟨b, 7, none⟩ = some (.int .i64 ft) := cell_of_row w b 7 _ 55 (0, 0) hB.cells
  have fb3 : w.frozen? ⟨b, 3, none⟩ = false := frozen_of_row w b 3 _ 55 hB.cells
  have fb4 : w.frozen? ⟨b, 4, none⟩ = false := frozen_of_row w b 4 _ 55 hB.cells
  have fb7 : w.frozen? ⟨b, 7, none⟩ = false := frozen_of_row w b 7 _ 55 hB.cells
  have hbl := hB.lt
  have hel : be < w.heap.size := (Array.getElem?_eq_some_iff.1 hE).1
  have hco : ∀ o j, (w.alloc o).cell? ⟨b, j, none⟩ = w.cell? ⟨b, j, none⟩ := fun o j => World.cell?_of_block (a := ⟨b, j, none⟩) (heap_alloc_old w o b hbl)
  have hce : ∀ o j, (w.alloc o).cell? ⟨be, j, none⟩ = w.cell? ⟨be, j, none⟩ := fun o j => World.cell?_of_block (a := ⟨be, j, none⟩) (heap_alloc_old w o be hel)
  have hfo : ∀ o j, (w.alloc o).frozen? ⟨b, j, none⟩ = w.frozen? ⟨b, j, none⟩ := fun o j => World.frozen?_of_block (a := ⟨b, j, none⟩) (heap_alloc_old w o b hbl)
  cases hf : ff name with
  | none =>
    rw [hf] at hlk0 hlk1
    have hl0 : (Instr.lookup 37 (.map (some bb)) (.string name) true).run Try.prog w.drew = .ok (.tuple #[.agg #[.string ⟨#[]⟩, .string ⟨#[]⟩], .bool false]) w.drew := hlk0
    have hl1 : (Instr.lookup 37 (.map (some bb)) (.string name) true).run Try.prog (w.alloc (.cells #[.string ⟨#[]⟩, .string ⟨#[]⟩] 40)).drew = .ok (.tuple #[.agg #[.string ⟨#[]⟩, .string ⟨#[]⟩], .bool false]) (w.alloc (.cells #[.string ⟨#[]⟩, .string ⟨#[]⟩] 40)).drew := hlk1
    clear hlk0 hlk1 hf hE hm
    cases rs
    · go_enter Try.func21, Try.ntmps21
      go_wp2_with fail
      go_region
      all_goals
        go_wp2
        refine bodyPost_ret (results_none rfl _ _ _) rfl ⟨rfl, ?_, ?_⟩
        · exact (hB.alloc _).drew
        · exact grown_drew (World.grownBy_alloc w _ _)
    · go_enter Try.func21, Try.ntmps21
      go_wp2_with fail
      go_region
      all_goals
        go_wp2
        refine bodyPost_ret (results_none rfl _ _ _) rfl ⟨rfl, ?_, ?_⟩
        · exact ((hB.set (ft' := 0) 7 (.int .i64 0) rfl).alloc _).drew
        · exact grown_drew ((grown_set _ _ _ _).trans (World.grownBy_alloc _ _ _))
  | some p =>
    obtain ⟨s1, t1⟩ := p
    rw [hf] at hlk0 hlk1
    have hl0 : (Instr.lookup 37 (.map (some bb)) (.string name) true).run Try.prog w.drew = .ok (.tuple #[.agg #[.string s1, .string t1], .bool true]) w.drew := hlk0
    have hl1 : (Instr.lookup 37 (.map (some bb)) (.string name) true).run Try.prog (w.alloc (.cells #[.string ⟨#[]⟩, .string ⟨#[]⟩] 40)).drew = .ok (.tuple #[.agg #[.string s1, .string t1], .bool true]) (w.alloc (.cells #[.string ⟨#[]⟩, .string ⟨#[]⟩] 40)).drew := hlk1
    clear hlk0 hlk1 hf hE hm
    cases ht : t1.toList.isEmpty
    · have hst : stampOf (some (s1, t1)) stamp = t1 := by simp only [stampOf, ht]; rfl
      rw [hst]
      clear hst
      go_enter Try.func21, Try.ntmps21
      go_wp2_with fail
      go_region
      all_goals
        go_wp2
        refine bodyPost_end (results_none rfl _ _ _) rfl ⟨rfl, ?_, ?_⟩
        · exact ((((hB.set (ft' := 0) 7 (.int .i64 0) rfl).set (state' := s1) 3 (.string s1) rfl).set (stamp' := t1) 4 (.string t1) rfl).alloc _).drew
        · exact grown_drew ((((grown_set _ _ _ _).trans (grown_set _ _ _ _)).trans (grown_set _ _ _ _)).trans (World.grownBy_alloc _ _ _))
    · have hst : stampOf (some (s1, t1)) stamp = stamp := by simp only [stampOf, ht]; rfl
      rw [hst]
      clear hst
      go_enter Try.func21, Try.ntmps21
      go_wp2_with fail
      go_region
      all_goals
        go_wp2
        refine bodyPost_end (results_none rfl _ _ _) rfl ⟨rfl, ?_, ?_⟩
        · exact (((hB.set (ft' := 0) 7 (.int .i64 0) rfl).set (state' := s1) 3 (.string s1) rfl).alloc _).drew
        · exact grown_drew (((grown_set _ _ _ _).trans (grown_set _ _ _ _)).trans (World.grownBy_alloc _ _ _))

end Go.Proofs.Qxb6603485a
