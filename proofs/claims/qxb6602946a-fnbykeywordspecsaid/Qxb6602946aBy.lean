/- zzCfgB1Clone, byKeyword: the walks. -/
import Derived.Test.Qxb6602946aRows
import Derived.Test.Qxb6602946aMap
namespace Go.Proofs.Qxb6602946a
open Go.RowKit

/-- A slice's elements, as strings. -/
def strs (w : World) (ao : Option Addr) (len : Nat) (L : List ByteArray) : Prop :=
  L.length = len ∧ (∀ j, j < len → ∃ b off, ao = some ⟨b, off, none⟩ ∧ w.cell? ⟨b, off + j, none⟩ = some (.string (L.getD j ⟨#[]⟩))) ∧ ∀ s ∈ L, s.size ≤ maxLen

theorem strs.at {w w' : World} {ao : Option Addr} {len : Nat} {L : List ByteArray} (h : strs w ao len L) (hc : ∀ (a : Addr) (v : Value), w.cell? a = some v → w'.cell? a = some v) : strs w' ao len L :=
  ⟨h.1, fun j hj => by obtain ⟨b, off, h1, h2⟩ := h.2.1 j hj; exact ⟨b, off, h1, hc _ _ h2⟩, h.2.2⟩

theorem strs.below {w w' : World} {ao : Option Addr} {len : Nat} {L : List ByteArray} (h : strs w ao len L) (hb : Below w.heap.size w w') : strs w' ao len L :=
  h.at fun a _ hv => (hb.cell (World.block_lt_of_cell? w a hv)).trans hv

theorem strs.size {w : World} {ao : Option Addr} {len : Nat} {L : List ByteArray} (h : strs w ao len L) (j : Nat) : (L.getD j ⟨#[]⟩).size ≤ maxLen := by
  by_cases hj : j < L.length
  · have : L.getD j ⟨#[]⟩ = L[j] := by simp [List.getD, hj]
    rw [this]
    exact h.2.2 _ (List.getElem_mem hj)
  · have : L.getD j ⟨#[]⟩ = ⟨#[]⟩ := by simp [List.getD, List.getElem?_eq_none (Nat.le_of_not_lt hj)]
    rw [this]
    decide

theorem Try.info9 : (Try.prog.info? 9).map (fun i => (i.zero, i.size, i.bytes)) = some (some (.string ⟨#[]⟩), 1, 16) := by kernel_rfl

/-- What has been copied so far. -/
theorem copied_step {cs : List Value} {L : List ByteArray} {k len : Nat} (hl : cs.length = len) (hk : k < len) (h : ∀ j, j < k → cs[j]? = some (.string (L.getD j ⟨#[]⟩))) :
    ∀ j, j < k + 1 → (cs.set k (.string (L.getD k ⟨#[]⟩)))[j]? = some (.string (L.getD j ⟨#[]⟩)) := by
  intro j hj
  rw [List.getElem?_set]
  by_cases e : k = j
  · subst e
    rw [if_pos rfl, if_pos (by omega)]
  · rw [if_neg e]
    exact h j (by omega)

theorem strs_of_row {w : World} {base g len cap : Nat} {cs : List Value} {L : List ByteArray} {e : TypeId} (h : w.ownsRow base e 1 (.slice (some ⟨g, 0, none⟩) len cap) len cs) (hL : L.length = len) (hc : ∀ j, j < len → cs[j]? = some (.string (L.getD j ⟨#[]⟩))) (hz : ∀ s ∈ L, s.size ≤ maxLen) : strs w (some ⟨g, 0, none⟩) len L :=
  ⟨hL, fun j hj => ⟨g, 0, rfl, by rw [Nat.zero_add, h.cellAt j (by omega)]; exact hc j hj⟩, hz⟩

set_option maxHeartbeats 1000000 in
theorem clone_any (ao : Option Addr) (len cap : Nat) (L : List ByteArray) (w : World) (hs : strs w ao len L) (hlen : len ≤ 65536) :
    Calls Try.prog 13 #[.slice ao len cap] w fun e w' => ∃ ao' cap', e = .returned (.slice ao' len cap') ∧ strs w' ao' len L ∧ Below w.heap.size w w' := by
  obtain ⟨i0, hi, hz0, hz1, hz2⟩ := info_parts Try.info9
  have hnil : ∀ w : World, (binOp .eql 23 (.slice ao len cap) (.slice none 0 0)).run Try.prog w = .ok (.bool ao.isNone) w := fun w => Lib.run_eql_slice_nil w 23 9 ao len cap 0 0 Try.underlying23
  cases hao : ao.isNone
  · rw [hao] at hnil
    clear hao
    go_enter Try.func13, Try.ntmps13
    go_wp2_with (first
      | (at_make; refine wpList_make_full _ rfl _ _ 23 rfl w.heap.size 9 i0 (.string ⟨#[]⟩) 1 Try.underlying23 hi hz0 hz1 _ _ _ _ len rfl rfl rfl rfl (by rw [hz2]; omega) (by unfold maxLen; omega) (Nat.le_refl _) ?_; intro w1 hown hgrow))
    have hb1 : Below w.heap.size w w1 := (Below.refl _ _).grown hgrow (Nat.le_refl _) (fun k hk => by cases hk)
    go_loopw [4] (fun i wr => ∃ (k : Nat) (cs : List Value), k ≤ len ∧ i = .int .i64 k ∧ wr.ownsRow w.heap.size 9 1 (.slice (some ⟨w.heap.size, 0, none⟩) len len) len cs ∧ (∀ j, j < k → cs[j]? = some (.string (L.getD j ⟨#[]⟩))) ∧ Below w.heap.size w wr)
      (fun i _ => len - (intOf i).toNat)
    case atStart => exact ⟨0, _, by omega, rfl, hown, fun j hj => by omega, hb1⟩
    case round =>
      clear hown hgrow hb1 hnil
      obtain ⟨k, cs, hk, rfl, hown, hcs, hnx⟩ := hrel
      by_cases hlt : k < len
      · obtain ⟨b, off, hao, hc0⟩ := hs.2.1 k hlt
        have hc1 : wr.cell? ⟨b, off + k, none⟩ = some (.string (L.getD k ⟨#[]⟩)) := (hnx.cell (World.block_lt_of_cell? w _ hc0)).trans hc0
        have hst := hown.stored k (.string (L.getD k ⟨#[]⟩))
        have hfz := hown.frozenAt k
        have hcl : cs.length = len := by simpa using hown.1
        obtain ⟨old, hold⟩ : ∃ u, wr.cell? ⟨w.heap.size, k, none⟩ = some u := ⟨cs[k], by rw [hown.cellAt k (by omega)]; simp⟩
        have HC := copied_step hcl hlt hcs
        clear hc0
        subst hao
        clear hs hcs hown
        generalize L.getD k ⟨#[]⟩ = s at hc1 hst HC
        go_wp2
        go_roundw
        case rel => exact ⟨k + 1, _, by omega, by go_num, hst.1, HC, hnx.setCell (Nat.le_refl _) _⟩
        case measure => simp [intOf]; omega
      · have hkl : k = len := by omega
        subst hkl
        go_wp2
        go_ret
        exact ⟨_, _, rfl, strs_of_row hown hs.1 hcs hs.2.2, hnx⟩
  · have hao' : ao = none := by cases ao <;> simp_all
    have hl0 : len = 0 := by
      by_cases h : 0 < len
      · obtain ⟨b, off, h1, _⟩ := hs.2.1 0 h
        rw [hao'] at h1
        cases h1
      · omega
    rw [hao] at hnil
    subst hl0
    subst hao'
    clear hao
    go_enter Try.func13, Try.ntmps13
    go_wp2
    go_ret
    exact ⟨none, 0, rfl, hs, Below.refl _ _⟩

/-! ### byKeyword -/
def okS (s : ByteArray) : Prop := s.size ≤ maxLen
theorem ky9 : Ky Try.prog 9 Value.string okS := ⟨Maps.string_keyed Try.underlying9, fun _ hx => ⟨_, WideMaps.keyOf_string_mk Try.underlying9 hx⟩, fun _ _ h => by cases h; rfl⟩
theorem inj9 (x y : ByteArray) (h : Value.string x = Value.string y) : x = y := by cases h; rfl

/-- A slice's three parts, as a value. -/
structure Sl where
  a : Option Addr
  l : Nat
  c : Nat
abbrev slv (v : Sl) : Value := .slice v.a v.l v.c

/-- What the map of reasons holds so far: sound. -/
def sound (f : ByteArray → Option Sl) (G : ByteArray → List ByteArray) (g : ByteArray → Option ByteArray) : Prop := ∀ kw why, g kw = some why → (f why).isSome = true ∧ kw ∈ G why

theorem sound_put {f : ByteArray → Option Sl} {G : ByteArray → List ByteArray} {g : ByteArray → Option ByteArray} (h : sound f G g) {kw why : ByteArray} (h1 : (f why).isSome = true) (h2 : kw ∈ G why) : sound f G (upd g kw why) := by
  intro kw' why' hg
  unfold upd at hg
  split at hg
  · rename_i e
    cases hg
    exact ⟨h1, e ▸ h2⟩
  · exact h kw' why' hg

theorem upd_some {κ α : Type} [DecidableEq κ] {g : κ → Option α} {x y : κ} {v : α} (h : (g y).isSome = true) : (upd g x v y).isSome = true := by
  unfold upd
  split
  · rfl
  · exact h

theorem upd_self {κ α : Type} [DecidableEq κ] (g : κ → Option α) (x : κ) (v : α) : (upd g x v x).isSome = true := by simp [upd]

theorem strs.kept_map {κ α : Type} {emb : κ → Value} {good : κ → Prop} {vemb : α → Value} {w w' : World} {ao : Option Addr} {len b n : Nat} {L : List ByteArray} {f : κ → Option α} (h : strs w ao len L) (hm : mp w emb good vemb b f n) (hg : w.grownBy w' (some b)) : strs w' ao len L := by
  refine h.at fun a v hv => ?_
  refine (World.cell?_of_block (hg.block a.block (World.block_lt_of_cell? w a hv) fun e => ?_)).trans hv
  obtain ⟨es, clock, hb, _⟩ := hm
  simp only [Option.some.injEq] at e
  simp [World.cell?, e, hb] at hv

set_option maxHeartbeats 1000000 in
theorem byk_any (b n : Nat) (f : ByteArray → Option Sl) (G : ByteArray → List ByteArray) (w : World) (hm : mp w Value.string okS slv b f n)
    (hG : ∀ why ao len cap, f why = some ⟨ao, len, cap⟩ → strs w ao len (G why) ∧ len ≤ 65536) :
    Calls Try.prog 17 #[.map (some b)] w fun e w' => ∃ no g, e = .returned (.map (some w.heap.size)) ∧ mp w' Value.string okS Value.string w.heap.size g no ∧ sound f G g ∧
      (∀ why kw, (f why).isSome = true → kw ∈ G why → (g kw).isSome = true) ∧ Below w.heap.size w w' := by
  have hmm := @run_makeMap Try.prog
  have hbl := hm.lt
  have e1 : (w.alloc (.map #[] 0)).heap.size = w.heap.size + 1 := by simp
  go_enter Try.func17, Try.ntmps17
  go_wp2_with (first
    | (at_range; refine wpList_range_mp _ rfl _ 27 rfl 9 23 Try.underlying27 inj9 b n f rfl (hm.alloc _) ?_; intro w0 hrg0 hg0 hs0))
  go_frame
  rw [e1] at hrg0 hs0 ⊢
  go_loopw [4] (fun _ wr => ∃ left cnt g no, rng wr Value.string okS slv b (w.heap.size + 1) f left cnt ∧ mp wr Value.string okS Value.string w.heap.size g no ∧ sound f G g ∧
      (∀ why kw, (f why).isSome = true → left why = false → kw ∈ G why → (g kw).isSome = true) ∧ Below w.heap.size w wr)
    (fun _ wr => wr.rangeLeft b (w.heap.size + 1))
  case atStart =>
    exact ⟨_, n, fun _ => none, 0, hrg0, (mp_made _ _ _ _).kept hg0 (by simp), fun _ _ h => by (cases h), fun why kw h1 h2 => by (rw [h1] at h2; cases h2), ((Below.refl _ _).alloc (Nat.le_refl _) _).grown hg0 (by simp) (fun j hj => by cases hj)⟩
  case round =>
    clear hrg0 hg0 hs0
    obtain ⟨left, cnt, g, no, hrg, hmo, hsd, hcp, hnx⟩ := hrel
    go_wp2_with (first
      | (at_next; refine wpList_next_mp _ rfl _ rfl inj9 b (w.heap.size + 1) f left cnt rfl hrg ?_ ?_))
    · intro hc0 hl0
      go_wp2
      go_ret
      exact ⟨no, g, rfl, hmo, hsd, fun why kw h1 h2 => hcp why kw h1 (hl0 why) h2, hnx⟩
    · rintro why ⟨ao, len, cap⟩ w1 cnt1 hwhy hlw hfw hrg1 hlt hg1 hs1 hen
      dsimp only [slv] at hen ⊢
      obtain ⟨hst0, hlen⟩ := hG why ao len cap hfw
      have hst : strs w1 ao len (G why) := hst0.below (hnx.grown hg1 hnx.size (fun j hj => by cases hj; exact Nat.le_succ _))
      have hmo1 := hmo.kept hg1 (by simp)
      have hnx1 : Below w.heap.size w w1 := hnx.grown hg1 hnx.size (fun j hj => by cases hj; exact Nat.le_succ _)
      have hfs : (f why).isSome = true := by rw [hfw]; rfl
      have hcp1 : ∀ why' kw, (f why').isSome = true → (left why' && !decide (why' = why)) = false → kw ∈ G why' → why' ≠ why → (g kw).isSome = true := fun why' kw h1 h2 h3 h4 => hcp why' kw h1 (by simpa [h4] using h2) h3
      clear hst0 hmo hnx hg1 hs1 hcp
      go_wp2
      clear hen
      go_loopw [18] (fun i wi => ∃ (j : Nat) (g' : ByteArray → Option ByteArray) (no' : Nat), j ≤ len ∧ i = .int .i64 j ∧ rng wi Value.string okS slv b (w.heap.size + 1) f (fun y => left y && !decide (y = why)) cnt1 ∧ mp wi Value.string okS Value.string w.heap.size g' no' ∧ sound f G g' ∧
          (∀ kw, (g kw).isSome = true → (g' kw).isSome = true) ∧ (∀ kw, kw ∈ (G why).take j → (g' kw).isSome = true) ∧ strs wi ao len (G why) ∧ Below w.heap.size w wi)
        (fun i _ => len - (intOf i).toNat)
      case atStart => exact ⟨0, g, no, by omega, rfl, hrg1, hmo1, hsd, fun _ h => h, fun kw h => by simp at h, hst, hnx1⟩
      case round =>
        clear hrg1 hmo1 hsd hst hnx1
        obtain ⟨j, g', no', hj, rfl, hrg1, hmo, hsd, hgg, hdone, hst, hnx⟩ := hrel
        by_cases hjl : j < len
        · obtain ⟨b', off, hao, hc⟩ := hst.2.1 j hjl
          have hsz := hst.size j
          have hmem : (G why).getD j ⟨#[]⟩ ∈ G why := by
            have : j < (G why).length := by rw [hst.1]; exact hjl
            simp [List.getD, this]
          have HT : Hid ((G why).take (j + 1) = (G why).take j ++ [(G why).getD j ⟨#[]⟩]) := by
            have : j < (G why).length := by rw [hst.1]; exact hjl
            unfold Hid
            rw [List.take_succ_eq_append_getElem this]
            simp [List.getD, this]
          generalize (G why).getD j ⟨#[]⟩ = kw at hc hsz hmem HT
          subst hao
          go_wp2_with (first
            | (at_mapUpdate; refine wpList_put_mp _ rfl _ _ _ 30 rfl 9 9 ky9 Try.underlying30 w.heap.size no' g' rfl hmo kw hsz why rfl rfl ?_; intro w2 hmo2 hg2 hs2))
          have hrg2 := hrg1.kept hg2 (fun e => by have := Option.some.inj e; omega) (fun e => by have := Option.some.inj e; omega)
          have hst2 := hst.kept_map hmo hg2
          have hnx2 : Below w.heap.size w w2 := hnx.grown hg2 hnx.size (fun j hj => by cases hj; exact Nat.le_refl _)
          have hsd2 := sound_put hsd hfs hmem
          clear hrg1 hst hnx hg2 hmo
          go_wp2
          go_roundw
          case rel =>
            refine ⟨j + 1, _, _, by omega, by go_num, hrg2, hmo2, hsd2, fun x h => upd_some (hgg x h), fun x h => ?_, hst2, hnx2⟩
            rw [HT.out] at h
            rcases List.mem_append.1 h with h | h
            · exact upd_some (hdone x h)
            · rw [List.mem_singleton.1 h]
              exact upd_self _ _ _
          case measure => simp [intOf]; omega
        · have hjl' : j = len := by omega
          go_wp2
          go_roundw
          case rel =>
            refine ⟨_, cnt1, g', no', hrg1, hmo, hsd, fun why' x h1 h2 h3 => ?_, hnx⟩
            by_cases e : why' = why
            · subst e
              exact hdone x (by rw [hjl', List.take_of_length_le (by rw [hst.1]; exact Nat.le_refl _)]; exact h3)
            · exact hgg x (hcp1 why' x h1 h2 h3 e)
          case measure => rw [hrg1.left_eq, hrg.left_eq]; exact hlt

end Go.Proofs.Qxb6602946a
