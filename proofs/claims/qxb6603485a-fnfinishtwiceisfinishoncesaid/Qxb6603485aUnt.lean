/- zzb1Untouched: the walk. -/
import Derived.Test.Qxb6603485aFinish
import Derived.Laws.StructEq
namespace Go.Proofs.Qxb6603485a
open Go.RowKit

theorem back_any {w : World} {bs : Nat} {err : ByteArray} (h : bytesAt w bs err) (c : Nat) : (convert 47 9 (.slice (some ⟨bs, 0, none⟩) err.size c)).run Try.prog w = .ok (.string err) w := by
  have e : err.size = err.data.toList.length := by rw [Array.length_toList]; rfl
  have h1 := run_convert_bytes_back (P := Try.prog) w 47 9 5 ⟨bs, 0, none⟩ c err.data.toList Try.underlying47 Try.underlying5 Try.underlying9 h
  rw [e, h1]

theorem ptr_nil (d : Nat) (w : World) : (Op.equalIn (d + 1) 49 (.pointer none) (.pointer none)).run Try.prog w = .ok true w := by
  simp [Op.equalIn, run_underlying Try.underlying49]

set_option maxHeartbeats 1000000 in
set_option maxRecDepth 100000 in
theorem unt_any (b bm bs c : Nat) (name resource xid state stamp : ByteArray) (ft status : Int) (err : ByteArray) (w : World)
    (hB : Br w b bm bs c name resource xid state stamp ft status err) :
    Calls Try.prog 17 #[.pointer (some ⟨b, 0, none⟩), .string name, .string resource, .string xid, .int .i64 status, .string err] w fun e w' => e = .returned (.bool true) ∧ w' = w := by
  have c0 : w.cell? ⟨b, 0, none⟩ = some (.string name) := cell_of_row w b 0 _ 55 (0, 0) hB.cells
  have c1 : w.cell? ⟨b, 1, none⟩ = some (.string resource) := cell_of_row w b 1 _ 55 (0, 0) hB.cells
  have c2 : w.cell? ⟨b, 2, none⟩ = some (.string xid) := cell_of_row w b 2 _ 55 (0, 0) hB.cells
  have c5 : w.cell? ⟨b, 5, none⟩ = some (.map (some bm)) := cell_of_row w b 5 _ 55 (0, 0) hB.cells
  have c6 : w.cell? ⟨b, 6, none⟩ = some (.slice (some ⟨bs, 0, none⟩) err.size c) := cell_of_row w b 6 _ 55 (0, 0) hB.cells
  have c8 : w.cell? ⟨b, 8, none⟩ = some (.int .u64 0) := cell_of_row w b 8 _ 55 (0, 0) hB.cells
  have c9 : w.cell? ⟨b, 9, none⟩ = some (.int .i64 0) := cell_of_row w b 9 _ 55 (0, 0) hB.cells
  have c10 : w.cell? ⟨b, 10, none⟩ = some (.pointer none) := cell_of_row w b 10 _ 55 (0, 0) hB.cells
  have c11 : w.cell? ⟨b, 11, none⟩ = some (.int .i64 status) := cell_of_row w b 11 _ 55 (0, 0) hB.cells
  have c12 : w.cell? ⟨b, 12, none⟩ = some (.string err) := cell_of_row w b 12 _ 55 (0, 0) hB.cells
  have hlen := fun ty => hB.ends.len (P := Try.prog) (t := 45) Try.underlying45 ty 0
  have hlk := hB.ends.look (P := Try.prog) (t := 45) ky9 Try.underlying45 zero9 false actn_ok 0
  have hl : (Instr.lookup 45 (.map (some bm)) (.string ⟨#[97, 99, 116, 105, 111, 110]⟩) false).run Try.prog w = .ok (.string resource) w := by
    have e : upd (fun _ => none) actn resource actn = some resource := by simp [upd]
    rw [e] at hlk
    exact hlk
  have hcv := back_any hB.pay c
  simp only [World.drewN_zero] at hlen
  have hp := fun w : World => ptr_nil 9997 w
  clear hlk hB
  go_enter Try.func17, Try.ntmps17
  go_wp2
  go_ret
  exact ⟨rfl, rfl⟩

end Go.Proofs.Qxb6603485a
