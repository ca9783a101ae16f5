/- The groups: a map of slices that the call itself fills. -/
import Derived.Test.Qxb6602946aFit
import Derived.Maps.AppendAt
import Derived.Deep.RegionLaw
import Derived.BigRegion
namespace Go.Proofs.Qxb6602946a
open Go.RowKit

/-- An append whose run is known, as one step of a region that draws its order. -/
theorem step_append_run {P : Program} {ops : Array Oper} {o : Oper} {a : Act} {w : World} {K : Act → World → Prop} {Q : Exit → Act → World → Prop} {E : Prop}
    (hg : o.guard = none) (s x : Operand) (t ty : TypeId) (hop : o.op = Op.call { callee := Callee.builtin Builtin.append, args := #[s, x], argTypes := #[t, t] }) (hty : o.type = ty)
    (v v1 : Value) (hs : a.eval s = v) (hx : a.eval x = v1) (v' : Value) (w' : World) (hrun : Hid ((Builtin.append_ #[t, t] ty #[v, v1]).run P w = .ok v' w'))
    (hK : K (a.put o.dst v') w') : if Region.wanted o (yielded ops a.tmps) = true then Oper.wp P o a w K Q else E := by
  have hw : Region.wanted o (yielded ops a.tmps) = true := by simp [Region.wanted, hg]
  have hr := hrun.out
  subst hty
  rw [if_pos hw]
  unfold Oper.wp
  simp [execOp, hop, resolve, invoke, builtin, hs, hx, hr, Result.andThen]
  exact hK

/-- Those of M whose reason is why. -/
def grp (f : ByteArray → Option ByteArray) (M : List ByteArray) (why : ByteArray) : List ByteArray := M.filter fun kw => decide (f kw = some why)

theorem grp_len (f : ByteArray → Option ByteArray) (M : List ByteArray) (why : ByteArray) : (grp f M why).length ≤ M.length := List.length_filter_le _ _
theorem grp_mem {f : ByteArray → Option ByteArray} {M : List ByteArray} {why kw : ByteArray} : kw ∈ grp f M why ↔ kw ∈ M ∧ f kw = some why := by simp [grp]
theorem grp_same {f : ByteArray → Option ByteArray} {M : List ByteArray} {why s : ByteArray} (h : f s = some why) : grp f (M ++ [s]) why = grp f M why ++ [s] := by simp [grp, List.filter_append, h]
theorem grp_other {f : ByteArray → Option ByteArray} {M : List ByteArray} {why why' s : ByteArray} (h : f s = some why) (hne : why' ≠ why) : grp f (M ++ [s]) why' = grp f M why' := by
  simp only [grp, List.filter_append, List.filter_cons, List.filter_nil, h]
  rw [if_neg (by simpa using fun e => hne e.symm)]
  simp

structure Grp (w : World) (Bg : Nat) (f : ByteArray → Option ByteArray) (M : List ByteArray) (gf : ByteArray → Option Sl) (gn : Nat) : Prop where
  m : mp w Value.string okS slv Bg gf gn
  own : ∀ why sl, gf why = some sl → w.ownsRow (Bg + 1) 9 1 (slv sl) (grp f M why).length ((grp f M why).map Value.string)
  has : ∀ why sl, gf why = some sl → grp f M why ≠ []
  none_ : ∀ why, gf why = none → grp f M why = []
  apart : ∀ why why' sl sl', gf why = some sl → gf why' = some sl' → why ≠ why' → (slv sl).ownBlock ≠ (slv sl').ownBlock

/-- The slice at a key: nil where there is none. -/
def slAt : Option Sl → Value
  | some sl => slv sl
  | none => .slice none 0 0

theorem slAt_look (o : Option Sl) : lookV false slv (.slice none 0 0) o = slAt o := by cases o <;> rfl

theorem Grp.made (w : World) (f : ByteArray → Option ByteArray) : Grp (w.alloc (.map #[] 0)) w.heap.size f [] (fun _ => none) 0 :=
  ⟨mp_made _ _ _ _, fun _ _ h => by (cases h), fun _ _ h => by (cases h), fun _ _ => rfl, fun _ _ _ _ h => by (cases h)⟩

theorem Grp.ownAt {w : World} {Bg gn : Nat} {f : ByteArray → Option ByteArray} {M : List ByteArray} {gf : ByteArray → Option Sl} (G : Grp w Bg f M gf gn) (why : ByteArray) :
    w.ownsRow (Bg + 1) 9 1 (slAt (gf why)) (grp f M why).length ((grp f M why).map Value.string) := by
  cases h : gf why with
  | some sl => exact G.own why sl h
  | none =>
    rw [G.none_ why h]
    exact World.ownsRow_nil _ _ _ _

theorem own_form {w : World} {base : Nat} {e : TypeId} {v : Value} {n : Nat} {xs : List Value} (h : w.ownsRow base e 1 v n xs) (hn : 0 < n) :
    ∃ g cap, v = .slice (some ⟨g, 0, none⟩) n cap ∧ base ≤ g ∧ g < w.heap.size ∧ ∀ j, j < n → w.cell? ⟨g, j, none⟩ = xs[j]? := by
  rcases h.2 with ⟨_, h0⟩ | ⟨g, cap, cur, hv, hb, hg, _⟩
  · omega
  · subst hv
    exact ⟨g, cap, rfl, hb, (Array.getElem?_eq_some_iff.1 hg).1, fun j hj => h.cellAt j (by omega)⟩

/-- ONE KEYWORD MORE: the append's run and the store's, and what they leave. -/
theorem Grp.step {w : World} {Bg gn : Nat} {f : ByteArray → Option ByteArray} {M : List ByteArray} {gf : ByteArray → Option Sl} (G : Grp w Bg f M gf gn) {s why : ByteArray} (hwhy : okS why) (hf : f s = some why) (hM : M.length ≤ 65536) :
    ∃ g cap w1 w2 gf' gn', (Builtin.append_ #[23, 23] 23 #[slAt (gf why), .slice (some ⟨w.heap.size, 0, none⟩) 1 1]).run Try.prog (w.alloc (.cells #[.string s] 9)).drew = .ok (.slice (some ⟨g, 0, none⟩) ((grp f M why).length + 1) cap) w1 ∧
      (Instr.mapUpdate 27 (.map (some Bg)) (.string why) (.slice (some ⟨g, 0, none⟩) ((grp f M why).length + 1) cap)).run Try.prog w1 = .ok () w2 ∧ Grp w2 Bg f (M ++ [s]) gf' gn' ∧ Below Bg w w2 := by
  obtain ⟨i0, hi, hz0, hz1, hz2⟩ := info_parts Try.info9
  have hBg := G.m.lt
  have hown := G.ownAt why
  have hl := grp_len f M why
  obtain ⟨v', w1, hrun, hown', hgrow, _, hloc⟩ := run_append_own_at (P := Try.prog) (w.alloc (.cells #[.string s] 9)).drew (Bg + 1) 23 23 9 i0 (.string ⟨#[]⟩) 1 16 Try.underlying23 hi hz0 hz1 hz2 rfl (by decide)
    (slAt (gf why)) _ _ (hown.alloc _).drew ⟨w.heap.size, 0, none⟩ 1 1 [.string s] rfl (cell_one_new _ _ _) (fun u hu => by simp at hu; subst hu; rfl) (by unfold maxLen; omega) (by omega) (by show Bg + 1 ≤ (w.alloc _).heap.size; simp; omega)
  obtain ⟨g, cap, rfl, hgb, hgl, _⟩ := own_form hown' (by omega)
  have hgw : (w.alloc (.cells #[.string s] 9)).grownBy w1 (slAt (gf why)).ownBlock := ⟨hgrow.os, hgrow.tape, hgrow.output, hgrow.size, hgrow.block⟩
  have hall : w.grownBy w1 (slAt (gf why)).ownBlock := (World.grownBy_alloc w _ _).trans hgw
  have hbne : some Bg ≠ (slAt (gf why)).ownBlock := fun e => by have := (hown.lt Bg e.symm).1; omega
  have hm1 := G.m.kept hall hbne
  obtain ⟨w2, hput, hm2, hg2, hs2⟩ := hm1.put (P := Try.prog) ky9 Try.underlying27 hwhy (⟨some ⟨g, 0, none⟩, (grp f M why).length + 1, cap⟩ : Sl)
  refine ⟨g, cap, w1, w2, _, _, hrun, hput 0, ⟨hm2, ?_, ?_, ?_, ?_⟩, ?_⟩
  · intro why' sl hsl
    unfold upd at hsl
    split at hsl
    · rename_i e
      subst e
      cases hsl
      rw [grp_same hf]
      have := hown'.kept hg2 (Or.inr (by simp [Value.ownBlock]; omega))
      simpa using this
    · rename_i hne
      rw [grp_other hf hne]
      have h0 := G.own why' sl hsl
      have h1 : (slv sl).ownBlock ≠ (slAt (gf why)).ownBlock := by
        cases hgw : gf why with
        | some sl' => exact G.apart why' why sl sl' hsl hgw hne
        | none =>
          obtain ⟨g', cap', hv, _⟩ := own_form h0 (List.length_pos_iff.2 (G.has why' sl hsl))
          rw [hv]
          simp [slAt, Value.ownBlock]
      have h2 := h0.kept hall (Or.inr h1)
      exact h2.kept hg2 (Or.inr (fun e => by have := (h0.lt Bg e).1; omega))
  · intro why' sl hsl
    unfold upd at hsl
    split at hsl
    · rename_i e
      subst e
      rw [grp_same hf]
      simp
    · rename_i hne
      rw [grp_other hf hne]
      exact G.has why' sl hsl
  · intro why' hn
    unfold upd at hn
    split at hn
    · cases hn
    · rename_i hne
      rw [grp_other hf hne]
      exact G.none_ why' hn
  · have hnew : ∀ why' sl, gf why' = some sl → why' ≠ why → (slv sl).ownBlock ≠ some g := by
      intro why' sl hsl hne e
      rcases hloc with hl | hl
      · cases hgw : gf why with
        | some sl' =>
          rw [hgw] at hl
          exact G.apart why' why sl sl' hsl hgw hne (e.trans hl)
        | none =>
          rw [hgw] at hl
          simp [slAt, Value.ownBlock] at hl
      · have h1 := ((G.own why' sl hsl).lt g e).2
        simp [Value.ownBlock] at hl
        have : g = w.heap.size + 1 := by simpa using hl
        omega
    intro why1 why2 sl1 sl2 h1 h2 hne
    unfold upd at h1 h2
    split at h1
    · rename_i e1
      cases h1
      split at h2
      · rename_i e2
        exact absurd (e1.trans e2.symm) hne
      · rename_i e2
        exact fun e => hnew why2 sl2 h2 e2 (e.symm)
    · rename_i e1
      split at h2
      · cases h2
        exact hnew why1 sl1 h1 e1
      · exact G.apart why1 why2 sl1 sl2 h1 h2 hne
  · have hb0 : Below Bg w w1 := (Below.refl _ _).grown hall (by omega) (fun k hk => by have := (hown.lt k hk).1; omega)
    exact hb0.grown hg2 (by have := hb0.size; omega) (fun k hk => by cases hk; exact Nat.le_refl _)

end Go.Proofs.Qxb6602946a
