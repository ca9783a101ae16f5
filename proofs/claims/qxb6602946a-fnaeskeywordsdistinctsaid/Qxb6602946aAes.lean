/- aesKeywords: its walk. -/
import Derived.Test.Qxb6602946aRows
import Derived.WalkKit
import Derived.WalkSpells
import Derived.WalkLawsBesides
namespace Go.Proofs.Qxb6602946a
open Go.RowKit

def modes : List ByteArray := [⟨#[]⟩, ⟨#[99, 116, 114]⟩, ⟨#[103, 109, 97, 99]⟩, ⟨#[99, 99, 109]⟩, ⟨#[103, 99, 109]⟩]
def icvs : List ByteArray := [⟨#[56]⟩, ⟨#[54, 52]⟩, ⟨#[49, 50]⟩, ⟨#[57, 54]⟩, ⟨#[49, 54]⟩, ⟨#[49, 50, 56]⟩]
def modesObj : Obj := .cells #[.string ⟨#[]⟩, .string ⟨#[99, 116, 114]⟩, .string ⟨#[103, 109, 97, 99]⟩, .string ⟨#[99, 99, 109]⟩, .string ⟨#[103, 99, 109]⟩] 9

/-- What one mode adds. -/
def isCM (m : ByteArray) : Bool := m.toList == [99, 99, 109] || m.toList == [103, 99, 109]
def blk (p m : ByteArray) : List ByteArray := (p ++ m) :: (if isCM m then icvs.map (p ++ m ++ ·) else [])
def aesTo (p : ByteArray) (k : Nat) : List ByteArray := (modes.take k).flatMap (blk p)

theorem blk_len (p m : ByteArray) : (blk p m).length ≤ 7 := by
  unfold blk
  split <;> simp [icvs]

theorem flat_len (p : ByteArray) : ∀ l : List ByteArray, (l.flatMap (blk p)).length ≤ 7 * l.length
  | [] => by simp
  | m :: l => by
    have := flat_len p l
    have := blk_len p m
    simp only [List.flatMap_cons, List.length_append, List.length_cons]
    omega

theorem aesTo_len (p : ByteArray) (k : Nat) : (aesTo p k).length ≤ 35 := by
  have h1 := flat_len p (modes.take k)
  have h2 : (modes.take k).length ≤ 5 := by simp only [List.length_take]; exact Nat.min_le_right _ _
  unfold aesTo
  omega

theorem aesTo_succ (p : ByteArray) (k : Nat) (h : k < 5) : aesTo p (k + 1) = aesTo p k ++ blk p (modes.getD k ⟨#[]⟩) := by
  have e : modes.take (k + 1) = modes.take k ++ [modes.getD k ⟨#[]⟩] := by
    match k, h with
    | 0, _ => rfl
    | 1, _ => rfl
    | 2, _ => rfl
    | 3, _ => rfl
    | 4, _ => rfl
  unfold aesTo
  rw [e, List.flatMap_append]
  simp

theorem mode_size (k : Nat) : (modes.getD k ⟨#[]⟩).size ≤ 4 := by
  match k with
  | 0 => decide
  | 1 => decide
  | 2 => decide
  | 3 => decide
  | 4 => decide
  | n + 5 => simp [modes, ByteArray.size]

theorem icv_size (k : Nat) : (icvs.getD k ⟨#[]⟩).size ≤ 3 := by
  match k with
  | 0 => decide
  | 1 => decide
  | 2 => decide
  | 3 => decide
  | 4 => decide
  | 5 => decide
  | n + 6 => simp [icvs, ByteArray.size]

theorem mode_cell (w : World) (k : Nat) (h : k < 5) : (w.alloc modesObj).cell? ⟨w.heap.size, k, none⟩ = some (.string (modes.getD k ⟨#[]⟩)) := by
  unfold modesObj
  match k, h with
  | 0, _ => simp [modes]
  | 1, _ => simp [modes]
  | 2, _ => simp [modes]
  | 3, _ => simp [modes]
  | 4, _ => simp [modes]

theorem icv_cell {w : World} {C : Nat} (hC : w.heap[C]? = some (.cells (icvs.map Value.string).toArray 9 (0, 0))) (k : Nat) (h : k < 6) : w.cell? ⟨C, k, none⟩ = some (.string (icvs.getD k ⟨#[]⟩)) := by
  rw [cell_of_row w C k _ 9 (0, 0) hC]
  match k, h with
  | 0, _ => rfl
  | 1, _ => rfl
  | 2, _ => rfl
  | 3, _ => rfl
  | 4, _ => rfl
  | 5, _ => rfl

theorem icvs_take (k : Nat) (h : k < 6) : icvs.take (k + 1) = icvs.take k ++ [icvs.getD k ⟨#[]⟩] := by
  match k, h with
  | 0, _ => rfl
  | 1, _ => rfl
  | 2, _ => rfl
  | 3, _ => rfl
  | 4, _ => rfl
  | 5, _ => rfl

theorem str_oneCell (x : ByteArray) : ∀ u ∈ [Value.string x], u.oneCell' = true := by
  intro u hu
  simp at hu
  subst hu
  rfl

theorem Try.info9 : (Try.prog.info? 9).map (fun i => (i.zero, i.size, i.bytes)) = some (some (.string ⟨#[]⟩), 1, 16) := by kernel_rfl

/-- One string appended: what is owned, in the list's own words. -/
theorem own_snoc {w : World} {base : Nat} {v : Value} {L : List ByteArray} {x : ByteArray} (h : w.ownsRow base 9 1 v (L.length + 1) (L.map Value.string ++ [.string x])) :
    w.ownsRow base 9 1 v (L ++ [x]).length ((L ++ [x]).map Value.string) := by
  simpa using h

theorem below_step {B : Nat} {w0 wr w1 : World} {o : Obj} {v : Value} {n : Nat} {xs : List Value} {e : TypeId} (hnx : Below B w0 wr) (hB : B ≤ wr.heap.size) (hown : wr.ownsRow B e 1 v n xs) (hg : (wr.alloc o).grownBy w1 v.ownBlock) : Below B w0 w1 :=
  (hnx.alloc hB o).grown hg (by simp; omega) (fun k hk => (hown.lt k hk).1)

def inTo (p m : ByteArray) (L : List ByteArray) (j : Nat) : List ByteArray := (L ++ [p ++ m]) ++ (icvs.take j).map (p ++ m ++ ·)

theorem inTo_len (p m : ByteArray) (L : List ByteArray) (j : Nat) : (inTo p m L j).length ≤ L.length + 7 := by
  have h2 : (icvs.take j).length ≤ 6 := by simp only [List.length_take]; exact Nat.min_le_right _ _
  unfold inTo
  simp only [List.length_append, List.length_map, List.length_cons, List.length_nil]
  omega

theorem inTo_succ (p m : ByteArray) (L : List ByteArray) (j : Nat) (h : j < 6) : inTo p m L (j + 1) = inTo p m L j ++ [p ++ m ++ icvs.getD j ⟨#[]⟩] := by
  unfold inTo
  rw [icvs_take j h]
  simp

theorem inTo_six (p m : ByteArray) (L : List ByteArray) : inTo p m L 6 = L ++ ((p ++ m) :: icvs.map (p ++ m ++ ·)) := by
  unfold inTo
  rw [show icvs.take 6 = icvs from rfl]
  simp

theorem own_in0 {w : World} {base : Nat} {v : Value} {L : List ByteArray} {p m : ByteArray} (h : w.ownsRow base 9 1 v (L.length + 1) (L.map Value.string ++ [.string (p ++ m)])) :
    w.ownsRow base 9 1 v (inTo p m L 0).length ((inTo p m L 0).map Value.string) := by
  have := own_snoc h
  simpa [inTo] using this

theorem ne_of_lt_own {w : World} {base : Nat} {e : TypeId} {v : Value} {n : Nat} {xs : List Value} (h : w.ownsRow base e 1 v n xs) : v.ownBlock ≠ some w.heap.size :=
  fun e => Nat.lt_irrefl _ (h.lt _ e).2

theorem block_kept {wi w1 : World} {o o' : Obj} {v : Value} {C : Nat} (h : wi.heap[C]? = some o) (hne : v.ownBlock ≠ some C) (hg : (wi.alloc o').grownBy w1 v.ownBlock) : w1.heap[C]? = some o := by
  have hC := (Array.getElem?_eq_some_iff.1 h).1
  rw [hg.block C (by simp; omega) (fun e => hne e.symm), Below.heap_alloc _ _ _ hC]
  exact h

theorem loc_ne {wi : World} {o o' : Obj} {v v' : Value} {C : Nat} (h : wi.heap[C]? = some o) (hne : v.ownBlock ≠ some C) (hl : v'.ownBlock = v.ownBlock ∨ v'.ownBlock = some (wi.alloc o').heap.size) : v'.ownBlock ≠ some C := by
  have hC := (Array.getElem?_eq_some_iff.1 h).1
  rcases hl with hl | hl <;> rw [hl]
  · exact hne
  · simp; omega

set_option maxHeartbeats 1000000 in
theorem aes_any (p : ByteArray) (w : World) (hp : p.size ≤ 32768) :
    Calls Try.prog 16 #[.string p] w fun e w' => ∃ v, e = .returned v ∧ w'.ownsRow (w.heap.size + 1) 9 1 v (aesTo p 5).length ((aesTo p 5).map Value.string) ∧ Below w.heap.size w w' := by
  obtain ⟨i0, hi, hz0, hz1, hz2⟩ := info_parts Try.info9
  go_enter Try.func16, Try.ntmps16
  go_wp2
  go_loopw [3, 10] (fun v i wr => ∃ k : Nat, k ≤ 5 ∧ i = .int .i64 k ∧ wr.ownsRow (w.heap.size + 1) 9 1 v (aesTo p k).length ((aesTo p k).map Value.string) ∧ Below (w.heap.size + 1) (w.alloc modesObj) wr)
    (fun _ i _ => 5 - (intOf i).toNat)
  case atStart => exact ⟨0, by omega, rfl, World.ownsRow_nil _ _ _ _, Below.refl _ _⟩
  case round =>
    obtain ⟨k, hk, rfl, hown, hnx⟩ := hrel
    have hsz := hnx.size
    simp at hsz
    have hlen := aesTo_len p k
    by_cases hlt : k < 5
    · have hc : wr.cell? ⟨w.heap.size, k, none⟩ = some (.string (modes.getD k ⟨#[]⟩)) := (hnx.cell (by simp)).trans (mode_cell w k hlt)
      have hms := mode_size k
      have HS : Hid (aesTo p (k + 1) = aesTo p k ++ blk p (modes.getD k ⟨#[]⟩)) := aesTo_succ p k hlt
      generalize modes.getD k ⟨#[]⟩ = m at hc hms HS
      cases hcm : isCM m
      · have h1 : (m.toList == [99, 99, 109]) = false := by simp [isCM] at hcm; simp [hcm]
        have h2 : (m.toList == [103, 99, 109]) = false := by simp [isCM] at hcm; simp [hcm]
        have HB : Hid (blk p m = [p ++ m]) := by simp [blk, hcm, Hid]
        clear hcm
        go_wp2_with (first
          | (at_builtin; refine wpList_append_own_at _ rfl _ _ 23 rfl (w.heap.size + 1) 9 i0 (.string ⟨#[]⟩) 1 16 Try.underlying23 hi hz0 hz1 hz2 rfl (by decide) _ _ _ rfl (hown.alloc _) ⟨wr.heap.size, 0, none⟩ 1 1 [.string (p ++ m)] rfl rfl (cell_one_new _ _ _) (str_oneCell _) (by unfold maxLen; omega) (by omega) (by simp; omega) ?_; intro v' w1 hown' hgrow hnil hloc))
        go_roundw
        case rel => exact ⟨k + 1, by omega, by go_num, by rw [HS.out, HB.out]; exact own_snoc hown', below_step hnx (by omega) hown hgrow⟩
        case measure => simp [intOf]; omega
      · have h12 : (m.toList == [99, 99, 109]) = true ∨ (m.toList == [99, 99, 109]) = false ∧ (m.toList == [103, 99, 109]) = true := by
          simp only [isCM, Bool.or_eq_true] at hcm
          cases h : (m.toList == [99, 99, 109])
          · rw [h] at hcm; simp at hcm; right; simpa using hcm
          · left; rfl
        have HB : Hid (blk p m = (p ++ m) :: icvs.map (p ++ m ++ ·)) := by simp [blk, hcm, Hid]
        clear hcm
        rcases h12 with h1 | ⟨h1, h2⟩
        all_goals
          go_wp2_with (first
            | (at_builtin; refine wpList_append_own_at _ rfl (.tmp 14) (.tmp 18) 23 rfl (w.heap.size + 1) 9 i0 (.string ⟨#[]⟩) 1 16 Try.underlying23 hi hz0 hz1 hz2 rfl (by decide) _ _ _ rfl (hown.alloc _) ⟨wr.heap.size, 0, none⟩ 1 1 [.string (p ++ m)] rfl rfl (cell_one_new _ _ _) (str_oneCell _) (by unfold maxLen; omega) (by omega) (by simp; omega) ?_; intro v' w1 hown' hgrow hnil hloc))
          have hb1 := below_step hnx (by omega) hown hgrow
          have hs1 : wr.heap.size + 1 ≤ w1.heap.size := by simpa using hgrow.size
          have hq0 := own_in0 hown'
          have hne0 := ne_of_lt_own hown'
          clear hown hnx hown' hgrow hnil hloc hc
          go_loopw [3, 28] (fun v i wi => ∃ j : Nat, j ≤ 6 ∧ i = .int .i64 j ∧ wi.ownsRow (w.heap.size + 1) 9 1 v (inTo p m (aesTo p k) j).length ((inTo p m (aesTo p k) j).map Value.string) ∧ v.ownBlock ≠ some w1.heap.size ∧
              wi.heap[w1.heap.size]? = some (.cells (icvs.map Value.string).toArray 9 (0, 0)) ∧ Below (w.heap.size + 1) (w.alloc modesObj) wi)
            (fun _ i _ => 6 - (intOf i).toNat)
          case atStart => exact ⟨0, by omega, rfl, hq0.alloc _, hne0, heap_alloc_new _ _, hb1.alloc (by omega) _⟩
          case round =>
            clear hq0 hne0 hb1
            obtain ⟨j, hj, rfl, hown, hne, hC, hnx⟩ := hrel
            have hlen2 := inTo_len p m (aesTo p k) j
            have hsz2 : w1.heap.size < wr.heap.size := (Array.getElem?_eq_some_iff.1 hC).1
            by_cases hj6 : j < 6
            · have hc := icv_cell hC j hj6
              have hcs := icv_size j
              have HI : Hid (inTo p m (aesTo p k) (j + 1) = inTo p m (aesTo p k) j ++ [p ++ m ++ icvs.getD j ⟨#[]⟩]) := inTo_succ p m _ j hj6
              generalize icvs.getD j ⟨#[]⟩ = c at hc hcs HI
              go_wp2_with (first
                | (at_builtin; refine wpList_append_own_at _ rfl (.tmp 32) (.tmp 38) 23 rfl (w.heap.size + 1) 9 i0 (.string ⟨#[]⟩) 1 16 Try.underlying23 hi hz0 hz1 hz2 rfl (by decide) _ _ _ rfl (hown.alloc _) ⟨wr.heap.size, 0, none⟩ 1 1 [.string (p ++ m ++ c)] rfl rfl (cell_one_new _ _ _) (str_oneCell _) (by unfold maxLen; omega) (by omega) (by simp; omega) ?_; intro v' w2 hown' hgrow hnil hloc))
              go_roundw
              case rel => exact ⟨j + 1, by omega, by go_num, by rw [HI.out]; exact own_snoc hown', loc_ne hC hne hloc, block_kept hC hne hgrow, below_step hnx (by omega) hown hgrow⟩
              case measure => simp [intOf]; omega
            · have hj' : j = 6 := by omega
              subst hj'
              go_wp2
              go_roundw
              case rel => exact ⟨k + 1, by omega, by go_num, by rw [HS.out, HB.out, ← inTo_six]; exact hown, hnx⟩
              case measure => simp [intOf]; omega
    · have hk' : k = 5 := by omega
      subst hk'
      go_wp2
      go_ret
      exact ⟨_, rfl, hown, ((Below.refl _ _).alloc (Nat.le_refl _) _).trans (hnx.mono (by omega))⟩

end Go.Proofs.Qxb6602946a
