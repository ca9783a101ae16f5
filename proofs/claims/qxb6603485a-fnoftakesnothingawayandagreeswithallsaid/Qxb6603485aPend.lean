/- The pending ends: zzNewPendingEnd, ZZNewPendingEnds, of, all, and maps.Clone: the walks. -/
import Derived.Test.Qxb6603485aBase
import Derived.Test.Qxb6603485aLocks
import Derived.Conc.MuLone
import Derived.Laws.Externs
import Derived.LaidEqlPtr
import Derived.Lib.Builder
namespace Go.Proofs.Qxb6603485a
open Go.RowKit Go.MuLone

/-- A pointer to block b. -/
def ptr (b : Nat) : Value := .pointer (some ⟨b, 0, none⟩)

def ptrO (o : Option Nat) : Value := .pointer (o.map fun b => ⟨b, 0, none⟩)

theorem lookV_ptr (o : Option Nat) : lookV false ptr (.pointer none) o = ptrO o := by cases o <;> rfl

theorem zero29 (w : World) : (zeroValue 29).run Try.prog w = .ok (.pointer none) w := by kernel_rfl

theorem pend_new (fr to : ByteArray) (rs : Bool) (w : World) :
    Calls Try.prog 9 #[.string fr, .string to, .map none, .bool rs] w fun e w' => e = .returned (.pointer (some ⟨w.heap.size, 0, none⟩)) ∧ Below w.heap.size w w' ∧ w'.heap.size = w.heap.size + 1 := by
  go_enter Try.func9, Try.ntmps9
  go_wp2
  go_ret
  exact ⟨rfl, (Below.refl _ _).alloc (Nat.le_refl _) _, by simp⟩

/-- Block q is a pendingEnds whose lock is free and whose map 'waiting' is block m. -/
def pends (w : World) (q m : Nat) : Prop := ∃ cs : Array Value, w.heap[q]? = some (.cells cs 75 (0, 0)) ∧ cs[1]? = some (.int .i32 0) ∧ cs[3]? = some (.map (some m))

theorem pends_new (m : Nat) (w : World) :
    Calls Try.prog 10 #[.map (some m)] w fun e w' => e = .returned (.pointer (some ⟨w.heap.size, 0, none⟩)) ∧ pends w' w.heap.size m ∧ Below w.heap.size w w' := by
  go_enter Try.func10, Try.ntmps10
  go_wp2
  go_ret
  exact ⟨rfl, ⟨_, heap_alloc_new _ _, rfl, rfl⟩, (Below.refl _ _).alloc (Nat.le_refl _) _⟩

theorem set_back (w : World) (q i : Nat) (u v : Value) (h : w.cell? ⟨q, i, none⟩ = some v) : (w.setCell ⟨q, i, none⟩ u).setCell ⟨q, i, none⟩ v = w := by
  unfold World.setCell
  have : ∀ (H : Array Obj), H = w.heap → ({ w with heap := H } : World) = w := by rintro H rfl; rfl
  apply this
  simp only
  apply Array.ext
  · simp
  · intro k h1 h2
    simp only [Array.getElem_modify]
    split
    · rename_i hk
      subst hk
      have hq : w.heap[q]? = some w.heap[q] := Array.getElem?_eq_getElem h2
      simp only [World.cell?, hq] at h
      generalize w.heap[q] = o at h
      cases o <;> simp_all
      rename_i c _ _
      obtain ⟨hi, rfl⟩ := Array.getElem?_eq_some_iff.1 h
      simp [Array.setIfInBounds, hi]
    · rfl

theorem pends.cells {w : World} {q m : Nat} (h : pends w q m) : w.cell? ⟨q, 1, none⟩ = some (.int .i32 0) ∧ w.cell? ⟨q, 3, none⟩ = some (.map (some m)) ∧ w.frozen? ⟨q, 1, none⟩ = false := by
  obtain ⟨cs, hq, h1, h3⟩ := h
  exact ⟨(cell_of_row w q 1 cs 75 (0, 0) hq).trans h1, (cell_of_row w q 3 cs 75 (0, 0) hq).trans h3, frozen_of_row w q 1 cs 75 hq⟩

theorem pends.lt {w : World} {q m : Nat} (h : pends w q m) : q < w.heap.size := by
  obtain ⟨cs, hq, _⟩ := h
  exact (Array.getElem?_eq_some_iff.1 hq).1

theorem pends.below {w w' : World} {B q m : Nat} (h : pends w q m) (hb : Below B w w') (hlt : q < B) : pends w' q m := by
  obtain ⟨cs, hq, r⟩ := h
  exact ⟨cs, (hb.block q hlt).trans hq, r⟩

theorem mp_ne_pends {w : World} {q m fn : Nat} {f : ByteArray → Option Nat} (h : pends w q m) (hm : mp w Value.string okS ptr m f fn) : m ≠ q := by
  obtain ⟨cs, hq, _⟩ := h
  obtain ⟨es, clock, hb, _⟩ := hm
  rintro rfl
  rw [hq] at hb
  cases hb

set_option maxHeartbeats 1000000 in
theorem of_any (q m fn : Nat) (f : ByteArray → Option Nat) (x : ByteArray) (w : World) (hp : pends w q m) (hm : mp w Value.string okS ptr m f fn) (hx : okS x) :
    Calls Try.prog 19 #[.pointer (some ⟨q, 0, none⟩), .string x] w fun e w' => e = .returned (ptrO (f x)) ∧ w' = w := by
  obtain ⟨c1, c3, f1⟩ := hp.cells
  have hlk := (hm.setCell (a := ⟨q, 1, none⟩) (mp_ne_pends hp hm) (.int .i32 1)).look (P := Try.prog) (t := 28) ky9 Try.underlying28 zero29 false hx 0
  rw [lookV_ptr] at hlk
  have hl : (Instr.lookup 28 (.map (some m)) (.string x) false).run Try.prog (w.setCell ⟨q, 1, none⟩ (.int .i32 1)) = .ok (ptrO (f x)) (w.setCell ⟨q, 1, none⟩ (.int .i32 1)) := hlk
  have hb := set_back w q 1 (.int .i32 1) (.int .i32 0) c1
  have HB : Hid ((w.setCell ⟨q, 1, none⟩ (.int .i32 1)).setCell ⟨q, 1, none⟩ (.int .i32 0) = w) := hb
  clear hlk hb hm hp
  generalize f x = o at hl ⊢
  go_enter_defers Try.func19, Try.ntmps19
  go_wp2_with (first
    | (go_at_call 22; refine (lock_free Try.muLib ⟨q, 1, none⟩ _ c1 f1).mono ?_; rintro e w' ⟨rfl, rfl⟩))
  refine leaves_cons (f := 23) (args := #[.pointer (some ⟨q, 1, none⟩)]) (by simp) (by simp [go_sem]) ?_
  refine (unlock_deferred Try.muLib ⟨q, 1, none⟩ .returning _ ?_ ?_).mono ?_
  · exact World.cell?_setCell_same w ⟨q, 1, none⟩ (.int .i32 1) c1
  · simp [f1]
  rintro e u' w'' ⟨rfl, rfl, rfl⟩
  exact ⟨_, results_tmp rfl _ _ _, rfl, HB.out⟩

theorem zzof_any (q m fn : Nat) (f : ByteArray → Option Nat) (x : ByteArray) (w : World) (hp : pends w q m) (hm : mp w Value.string okS ptr m f fn) (hx : okS x) :
    Calls Try.prog 11 #[.pointer (some ⟨q, 0, none⟩), .string x] w fun e w' => e = .returned (ptrO (f x)) ∧ w' = w := by
  have hf := of_any q m fn f x w hp hm hx
  clear hp hm hx
  generalize f x = o at hf ⊢
  go_enter Try.func11, Try.ntmps11
  go_wp2_with fail
  refine hf.mono ?_
  clear hf
  rintro e w' ⟨rfl, hw⟩
  obtain rfl := hw.symm
  clear hw
  go_wp2
  go_ret
  exact ⟨rfl, rfl⟩

section
variable {P : Program} (w : World)
/-- 'x.(M)' where x's type is the map type M. -/
theorem assert_map (t xT k e : TypeId) (v : Value) (h : P.underlying t = some (.map k e)) : (Instr.typeAssert (.iface t v) xT t false).run P w = .ok v w := by
  simp [Instr.typeAssert, run_underlying h, go_sem, Result.andThen]
/-- The model's maps.clone. -/
theorem run_clone {r : Nat} {es : Array MapEntry} {clock : Nat} (t : TypeId) (hb : w.heap[r]? = some (.map es clock)) :
    (Extern.MapsClone.clone #[.iface t (.map (some r))]).run P w = .ok (.iface t (.map (some w.heap.size))) (w.alloc (.map es clock)) := by
  obtain ⟨k, h1, h2⟩ : ∃ k, Extern.MapsClone.clone #[.iface t (.map (some r))] = getObj r >>= k ∧ ∀ es c, k (.map es c) = newObj (.map es c) >>= fun b => pure (.iface t (.map (some b))) := ⟨_, rfl, fun _ _ => rfl⟩
  rw [h1]
  simp [MapKept.run_getObj_map hb, h2, Result.andThen, go_sem]
end

set_option maxHeartbeats 2000000 in
theorem clone_any (m : Nat) (es : Array MapEntry) (clock : Nat) (w : World) (hb : w.heap[m]? = some (.map es clock)) :
    Calls Try.prog 24 #[.map (some m)] w fun e w' => e = .returned (.map (some w.heap.size)) ∧ w' = w.alloc (.map es clock) := by
  have hq : ∀ w : World, (binOp .eql 28 (.map (some m)) (.map none)).run Try.prog w = .ok (.bool false) w := fun w => run_eql_map_nil w _ _ _ (some m) Try.underlying28
  have hc : (callFunc 27 #[.iface 28 (.map (some m))]).run Try.prog w = .ok (.value (.iface 28 (.map (some w.heap.size)))) (w.alloc (.map es clock)) := by
    rw [run_callFunc_extern Try.func27 (by kernel_rfl) (by kernel_rfl) (by kernel_rfl) (e := Extern.MapsClone.clone) (by kernel_rfl), run_clone w 28 hb]
    rfl
  have ha := fun (w : World) (v : Value) => assert_map (P := Try.prog) w 28 20 _ _ v Try.underlying28
  clear hb
  go_enter Try.func24, Try.ntmps24
  go_wp2
  go_ret
  exact ⟨rfl, rfl⟩

theorem mp.clone {κ α : Type} {emb : κ → Value} {good : κ → Prop} {vemb : α → Value} {w : World} {b n : Nat} {f : κ → Option α} (h : mp w emb good vemb b f n) : ∃ es clock, w.heap[b]? = some (.map es clock) ∧ ∀ w' : World, mp (w'.alloc (.map es clock)) emb good vemb w'.heap.size f n := by
  obtain ⟨es, clock, hb, r⟩ := h
  exact ⟨es, clock, hb, fun w' => ⟨es, clock, heap_alloc_new _ _, r⟩⟩

theorem set_alloc (w : World) (q i : Nat) (u v : Value) (o : Obj) (hq : q < w.heap.size) (h : w.cell? ⟨q, i, none⟩ = some v) : ((w.setCell ⟨q, i, none⟩ u).alloc o).setCell ⟨q, i, none⟩ v = w.alloc o := by
  rw [World.setCell_alloc_past _ _ _ _ (by simpa [World.setCell] using hq), set_back w q i u v h]

set_option maxHeartbeats 1000000 in
theorem all_any (q m fn : Nat) (f : ByteArray → Option Nat) (w : World) (hp : pends w q m) (hm : mp w Value.string okS ptr m f fn) :
    Calls Try.prog 20 #[.pointer (some ⟨q, 0, none⟩)] w fun e w' => e = .returned (.map (some w.heap.size)) ∧ mp w' Value.string okS ptr w.heap.size f fn ∧ Below w.heap.size w w' := by
  obtain ⟨c1, c3, f1⟩ := hp.cells
  have hlt := hp.lt
  have hne := mp_ne_pends hp hm
  obtain ⟨es, clock, hb, hcl⟩ := (hm.setCell (a := ⟨q, 1, none⟩) hne (.int .i32 1)).clone
  have hca := clone_any m es clock (w.setCell ⟨q, 1, none⟩ (.int .i32 1)) hb
  have hs : (w.setCell ⟨q, 1, none⟩ (.int .i32 1)).heap.size = w.heap.size := by simp [World.setCell]
  rw [hs] at hca
  have HB : Hid (((w.setCell ⟨q, 1, none⟩ (.int .i32 1)).alloc (.map es clock)).setCell ⟨q, 1, none⟩ (.int .i32 0) = w.alloc (.map es clock)) := set_alloc w q 1 _ _ _ hlt c1
  have HM : Hid (mp (w.alloc (.map es clock)) Value.string okS ptr w.heap.size f fn) := hcl w
  have HC : Hid (((w.setCell ⟨q, 1, none⟩ (.int .i32 1)).alloc (.map es clock)).cell? ⟨q, 1, none⟩ = some (.int .i32 1) ∧ ((w.setCell ⟨q, 1, none⟩ (.int .i32 1)).alloc (.map es clock)).frozen? ⟨q, 1, none⟩ = false) := by
    have hlt' : q < (w.setCell ⟨q, 1, none⟩ (.int .i32 1)).heap.size := by rw [hs]; exact hlt
    refine ⟨(World.cell?_of_block (a := ⟨q, 1, none⟩) (heap_alloc_old _ _ q hlt')).trans (World.cell?_setCell_same w ⟨q, 1, none⟩ (.int .i32 1) c1), (World.frozen?_of_block (a := ⟨q, 1, none⟩) (heap_alloc_old _ _ q hlt')).trans ?_⟩
    simp [f1]
  clear hb hcl hm hp hne hs hlt
  go_enter_defers Try.func20, Try.ntmps20
  go_wp2_with (first
    | (go_at_call 22; refine (lock_free Try.muLib ⟨q, 1, none⟩ _ c1 f1).mono ?_; rintro e w' ⟨rfl, rfl⟩)
    | (go_at_call 24; refine hca.mono ?_; rintro e w' ⟨rfl, rfl⟩))
  refine leaves_cons (f := 23) (args := #[.pointer (some ⟨q, 1, none⟩)]) (by simp) (by simp [go_sem]) ?_
  refine (unlock_deferred Try.muLib ⟨q, 1, none⟩ .returning _ HC.out.1 HC.out.2).mono ?_
  rintro e u' w'' ⟨rfl, rfl, rfl⟩
  refine ⟨_, results_tmp rfl _ _ _, rfl, ?_, ?_⟩
  · rw [HB.out]; exact HM.out
  · rw [HB.out]; exact (Below.refl _ _).alloc (Nat.le_refl _) _

theorem zzall_any (q m fn : Nat) (f : ByteArray → Option Nat) (w : World) (hp : pends w q m) (hm : mp w Value.string okS ptr m f fn) :
    Calls Try.prog 12 #[.pointer (some ⟨q, 0, none⟩)] w fun e w' => e = .returned (.map (some w.heap.size)) ∧ mp w' Value.string okS ptr w.heap.size f fn ∧ Below w.heap.size w w' := by
  have hf := all_any q m fn f w hp hm
  clear hp hm
  go_enter Try.func12, Try.ntmps12
  go_wp2_with fail
  refine hf.mono ?_
  clear hf
  rintro e w' ⟨rfl, hm', hb⟩
  go_wp2
  go_ret
  exact ⟨rfl, hm', hb⟩

theorem nil_eq (d : Nat) (w : World) : (Op.equalIn (d + 1) 29 (.pointer none) (.pointer none)).run Try.prog w = .ok true w := by
  simp [Op.equalIn, run_underlying Try.underlying29]

theorem info59 : ∃ j, Try.prog.info? 59 = some j := Option.isSome_iff_exists.1 (by kernel_rfl)

theorem ptr_eq (o : Option Nat) (w : World) : (binOp .eql 29 (ptrO o) (ptrO o)).run Try.prog w = .ok (.bool true) w := by
  cases o with
  | none =>
    simp only [binOp, ptrO]
    simp [Op.equal, Op.maxDepth, nil_eq 9999]
  | some b =>
    obtain ⟨j, hj⟩ := info59
    exact run_eql_ptr_same w ⟨b, 0, none⟩ Try.underlying29 hj

theorem ptr_neq (o : Option Nat) (w : World) : (binOp .neq 29 (ptrO o) (ptrO o)).run Try.prog w = .ok (.bool false) w := by
  cases o with
  | none =>
    simp only [binOp, ptrO]
    simp [Op.equal, Op.maxDepth, nil_eq 9999]
  | some b =>
    obtain ⟨j, hj⟩ := info59
    exact Go.Lib.run_neq_ptr_same w ⟨b, 0, none⟩ Try.underlying29 hj

end Go.Proofs.Qxb6603485a
