/- Branches: zzb1NewBranch, finish, zzb1Untouched: the walks. -/
import Derived.Test.Qxb6603485aBase
import Derived.Laws.IdiomStrings
import Derived.BigRegion
namespace Go.Proofs.Qxb6603485a
open Go.RowKit

/-- "action". -/
def actn : ByteArray := ⟨#[97, 99, 116, 105, 111, 110]⟩
theorem actn_ok : okS actn := by unfold okS actn maxLen; decide

/-- The bytes of err lie in block b. -/
def bytesAt (w : World) (b : Nat) (err : ByteArray) : Prop := ∀ j (hj : j < err.data.toList.length), w.cell? ((⟨b, 0, none⟩ : Addr).add j) = some (.int .u8 (err.data.toList[j].toNat : Int))

theorem conv_any (err : ByteArray) (w : World) : ∃ c w2, (convert 9 46 (.string err)).run Try.prog w = .ok (.slice (some ⟨w.heap.size, 0, none⟩) err.size c) w2 ∧ bytesAt w2 w.heap.size err ∧ w.grownBy w2 none ∧ w2.heap.size = w.heap.size + 1 := by
  refine ⟨_, _, run_bytes_of_string (P := Try.prog) w 9 46 5 err Try.underlying9 Try.underlying46 Try.underlying5, ?_, ?_, ?_⟩
  · intro j hj
    have hadd : (⟨w.heap.size, 0, none⟩ : Addr).add j = ⟨w.heap.size, j, none⟩ := by unfold Addr.add; split <;> simp_all
    rw [hadd]
    rw [cell_of_row _ w.heap.size j _ 5 _ (heap_alloc_new w.drew _)]
    have hj' : j < err.data.size := by simpa using hj
    have hj2 : j < err.size := hj'
    simp [bytesRow, Array.getElem?_append, hj2]
  · exact ⟨rfl, rfl, rfl, by simp, fun k hk _ => heap_alloc_old w.drew _ k hk⟩
  · simp

/-- A branch's thirteen cells. -/
def brCells (name resource xid state stamp : ByteArray) (bm bs c : Nat) (ft status : Int) (err : ByteArray) : Array Value :=
  #[.string name, .string resource, .string xid, .string state, .string stamp, .map (some bm), .slice (some ⟨bs, 0, none⟩) err.size c, .int .i64 ft, .int .u64 0, .int .i64 0, .pointer none, .int .i64 status, .string err]

/-- Block b is such a branch. -/
structure Br (w : World) (b bm bs c : Nat) (name resource xid state stamp : ByteArray) (ft status : Int) (err : ByteArray) : Prop where
  cells : w.heap[b]? = some (.cells (brCells name resource xid state stamp bm bs c ft status err) 55 (0, 0))
  ends : mp w Value.string okS Value.string bm (upd (fun _ => none) actn resource) 1
  pay : bytesAt w bs err
  ne : bm ≠ b ∧ bs ≠ b
  slt : bs < w.heap.size

set_option maxHeartbeats 1000000 in
set_option maxRecDepth 100000 in
theorem new_any (name resource xid state stamp : ByteArray) (ft status : Int) (err : ByteArray) (w : World) :
    Calls Try.prog 14 #[.string name, .string resource, .string xid, .string state, .string stamp, .int .i64 ft, .int .i64 status, .string err] w fun e w' =>
      ∃ b bm bs c, e = .returned (.pointer (some ⟨b, 0, none⟩)) ∧ w.heap.size ≤ b ∧ w.heap.size ≤ bm ∧ w.heap.size ≤ bs ∧ Br w' b bm bs c name resource xid state stamp ft status err ∧ Below w.heap.size w w' := by
  have hmk := @run_makeMap Try.prog
  obtain ⟨w1, hput, hm1, hg1, hs1⟩ := (mp_made (α := ByteArray) w Value.string okS Value.string).put (P := Try.prog) (t := 45) ky9 Try.underlying45 actn_ok resource
  have hput0 : (Instr.mapUpdate 45 (.map (some w.heap.size)) (.string ⟨#[97, 99, 116, 105, 111, 110]⟩) (.string resource)).run Try.prog (w.alloc (.map #[] 0)) = .ok () w1 := hput 0
  obtain ⟨c, w2, hcv, hby, hg2, hs2⟩ := conv_any err w1
  have HM := hm1.kept hg2 (by simp)
  have HB2 : Below w.heap.size w w2 := (((Below.refl _ _).alloc (Nat.le_refl _) _).grown hg1 (by simp) (fun k hk => by cases hk; exact Nat.le_refl _)).grown hg2 (by rw [hs1]; simp) (fun k hk => by cases hk)
  have HZ : Hid (w1.heap.size = w.heap.size + 1 ∧ w2.heap.size = w1.heap.size + 1) := ⟨by rw [hs1]; simp, hs2⟩
  clear hput hm1 hg1 hg2 hs1 hs2
  go_enter Try.func14, Try.ntmps14
  go_wp2
  go_ret
  have hz := HZ.out
  refine ⟨w2.heap.size, w.heap.size, w1.heap.size, c, rfl, by omega, Nat.le_refl _, by omega, ⟨heap_alloc_new _ _, HM.alloc _, ?_, ⟨by omega, by omega⟩, by simp; omega⟩, HB2.alloc HB2.size _⟩
  intro j hj
  have hadd : (⟨w1.heap.size, 0, none⟩ : Addr).add j = ⟨w1.heap.size, j, none⟩ := by unfold Addr.add; split <;> simp_all
  have := hby j hj
  rw [hadd] at this ⊢
  exact (World.cell?_of_block (heap_alloc_old w2 _ w1.heap.size (by omega))).trans this

end Go.Proofs.Qxb6603485a
