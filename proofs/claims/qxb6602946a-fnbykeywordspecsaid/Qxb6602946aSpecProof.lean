/- THE STATEMENT 'Rows.FnByKeywordSpecSaid': the row out of the walks 'spec_some', 'spec_nil'. -/
import Derived.Test.Qxb6602946aSpec
import Derived.Test.Qxb6602946aOpen
import Derived.ProofKit
import Derived.ChangeOld
namespace Go.Proofs.Qxb6602946a.fnByKeywordSpec
open Go.ChangeShapes Go.WideShapes Go.ChangeAt Go.RowKit
set_option linter.unusedVariables false

theorem own : ownKnob Try.prog.godebug = none := by kernel_rfl
theorem laidOut : laidOutB Try.prog = true := by kernel_rfl

theorem walk (mo : Option Nat) (ao : Option Addr) (len cap : Nat) (w : World) {H : Type} {enc : TypeId × Value → H} {x y : DataW H × List MemPlace} {fuel fuel' : Nat} {sp sp' : Nat → Bool} {held held' : Bool} {base base' : Nat}
    (h0 : DataW.trod enc Try.prog w base sp held fuel 27 [.map mo] = some x) (h1 : DataW.trod enc Try.prog w base' sp' held' fuel' 23 [.slice ao len cap] = some y) :
    Calls Try.prog 5 #[.map mo, .slice ao len cap] w fun e w' => e = .returned (.bool true) ∧ Below w.heap.size w w' := by
  obtain ⟨L, hs, hmax⟩ := open_strs' h1
  rcases open_map27 h0 with rfl | ⟨b, f, G, n, rfl, hm, hG⟩
  · exact spec_nil ao len cap L w hs hmax
  · exact spec_some b n f G ao len cap L w hm hG hs hmax

set_option maxRecDepth 100000 in
theorem lifted (os : Os) (started : os.Started) (H : Type) (enc : TypeId × Value → H) :
    ReturnsInHanded {} Try.checked os 5 .any (Rows.fnByKeywordSpecSpec.pre6 enc Try.prog Try.f5 Rows.fnByKeywordSpecRow.domain false) (Rows.fnByKeywordSpecSpec.post enc Try.prog Try.f5 false true false false) := by
  refine returnsInHanded_of_change (C := Try.checked) own started (by kernel_rfl) Try.func5
    (ChangeSpec.witness6 (enc := enc) (C := Try.checked) false ⟨#[], #[.map none, .slice none 0 0], []⟩ 8 (by kernel_rfl) (by kernel_rfl) (by kernel_rfl) (by kernel_rfl)) ?_
  intro W base args ds gs before hval0 hW hcnd _
  have hval : ∀ (j : Nat) t v, Try.f5.params[j]? = some t → args[j]? = some v → Value.okWide Try.prog W .any base t v := hval0
  have hW' := hW
  obtain ⟨p, q, hA0, hV, rfl, hfz, hnd⟩ := hW
  have hA : DataW.TrodAll enc Try.prog W 0 (fun _ => true) true Try.f5.params.toList args.toList ds p := hA0
  rw [Try.params5] at hA hval
  obtain ⟨v0, v1, d0, d1, p0, p1, rfl, rfl, rfl, h0, h1⟩ := trodAll_two hA
  obtain ⟨rfl, rfl⟩ := trodVars_none hV
  obtain ⟨mo, rfl⟩ := okWide_map Try.underlying27 (hval 0 27 v0 rfl rfl)
  obtain ⟨ao, len, cap, rfl⟩ := okWide_slice Try.underlying23 (hval 1 23 v1 rfl rfl)
  have k0 := h0
  have k1 := h1
  have lt0 : ∀ x ∈ p0, x.block < W.heap.size := by obtain ⟨m, hm⟩ := k0; exact DataW.trod_lt m _ _ _ hm
  have lt1 : ∀ x ∈ p1, x.block < W.heap.size := by obtain ⟨m, hm⟩ := k1; exact DataW.trod_lt m _ _ _ hm
  obtain ⟨fuel, hf⟩ := h0
  obtain ⟨fuel', hf'⟩ := h1
  clear hA0 hval0
  refine (walk mo ao len cap W hf hf').mono fun e W' ⟨he, bel⟩ => ?_
  subst he
  exact ⟨_, rfl, _, _, _, [], _, [], hW', trodAll_mk1 (shut_bool Try.underlying4 _), trodAll_mk2 (Below.trod laidOut (by kernel_rfl) (of_decide_eq_true (by kernel_rfl)) k0 bel lt0) (Below.trod laidOut (by kernel_rfl) (of_decide_eq_true (by kernel_rfl)) k1 bel lt1), rfl, bel.frame _, fun h => by cases h⟩

theorem over : Rows.fnByKeywordSpecRow.holds Try.pinned (OpenSpec.ofChange Rows.fnByKeywordSpecSpec) :=
  OpenClaim.holds_of_wide 5 Try.f5 rfl rfl rfl rfl rfl rfl rfl ⟨rfl, rfl, rfl, rfl, rfl⟩ rfl rfl rfl rfl rfl (by kernel_rfl) Try.func5 (by kernel_rfl)
    (of_decide_eq_true (by kernel_rfl)) (by unfold Func.isWrapper; first | (rw [if_pos (by decide +kernel)]; kernel_rfl) | (rw [if_neg (by decide +kernel)]; exact ⟨rfl, rfl⟩))
    (fun os started H enc _ => lifted os started H enc)

theorem proved : Rows.FnByKeywordSpecSaid := over
#print axioms proved
end Go.Proofs.Qxb6602946a.fnByKeywordSpec
