/- The flat table of suffixes, and what aesKeywords answers in its words. -/
import Derived.Test.Qxb6602946aAes
import Derived.Deep.QuietTactic
import Derived.BigQuiet
namespace Go.Proofs.Qxb6602946a
open Go.RowKit

def sfxs : List ByteArray := [⟨#[]⟩, ⟨#[99, 116, 114]⟩, ⟨#[103, 109, 97, 99]⟩, ⟨#[99, 99, 109]⟩, ⟨#[99, 99, 109, 56]⟩, ⟨#[99, 99, 109, 54, 52]⟩, ⟨#[99, 99, 109, 49, 50]⟩, ⟨#[99, 99, 109, 57, 54]⟩,
  ⟨#[99, 99, 109, 49, 54]⟩, ⟨#[99, 99, 109, 49, 50, 56]⟩, ⟨#[103, 99, 109]⟩, ⟨#[103, 99, 109, 56]⟩, ⟨#[103, 99, 109, 54, 52]⟩, ⟨#[103, 99, 109, 49, 50]⟩, ⟨#[103, 99, 109, 57, 54]⟩, ⟨#[103, 99, 109, 49, 54]⟩, ⟨#[103, 99, 109, 49, 50, 56]⟩]
def sfx (k : Nat) : ByteArray := sfxs.getD k ⟨#[63]⟩

theorem sfx_size (k : Nat) : (sfx k).size ≤ 6 := by
  by_cases h : k < 17
  · have H : ∀ k, k < 17 → (sfx k).size ≤ 6 := by decide +kernel
    exact H k h
  · have e : sfx k = ⟨#[63]⟩ := by
      unfold sfx
      have h2 : sfxs.length ≤ k := by simp [sfxs]; omega
      simp [List.getD, List.getElem?_eq_none h2]
    rw [e]
    decide

theorem cat_assoc (p m c : ByteArray) : p ++ m ++ c = p ++ (m ++ c) := by
  apply ByteArray.ext
  simp [ByteArray.data_append]

theorem sfxs_eq : sfxs = (modes.flatMap fun m => m :: (if isCM m then icvs.map (m ++ ·) else [])) := by decide +kernel

theorem aesTo_five (p : ByteArray) : aesTo p 5 = sfxs.map (p ++ ·) := by
  rw [sfxs_eq]
  show modes.flatMap (blk p) = _
  rw [List.map_flatMap]
  congr 1
  funext m
  unfold blk
  simp only [cat_assoc]
  split <;> simp

theorem aesTo_len5 (p : ByteArray) : (aesTo p 5).length = 17 := by rw [aesTo_five]; simp [sfxs]

theorem aesTo_at (p : ByteArray) (k : Nat) (h : k < 17) : ((aesTo p 5).map Value.string)[k]? = some (.string (p ++ sfx k)) := by
  rw [aesTo_five]
  have h2 : k < sfxs.length := by simp [sfxs]; omega
  simp [sfx, List.getD, List.getElem?_eq_getElem h2]

set_option maxHeartbeats 4000000 in
theorem sfx_any (k : Nat) (hk : k < 17) (w : World) :
    Calls Try.prog 9 #[.int .i64 k] w fun e w' => e = .returned (.string (sfx k)) ∧ w' = w := by
  have H : k = 0 ∨ k = 1 ∨ k = 2 ∨ k = 3 ∨ k = 4 ∨ k = 5 ∨ k = 6 ∨ k = 7 ∨ k = 8 ∨ k = 9 ∨ k = 10 ∨ k = 11 ∨ k = 12 ∨ k = 13 ∨ k = 14 ∨ k = 15 ∨ k = 16 := by omega
  rcases H with rfl | rfl | rfl | rfl | rfl | rfl | rfl | rfl | rfl | rfl | rfl | rfl | rfl | rfl | rfl | rfl | rfl
  all_goals
    clear hk
    go_enter Try.func9, Try.ntmps9
    go_wp2
    go_ret
    exact ⟨rfl, rfl⟩

/-- A slice that owns some strings: its head, its cells. -/
theorem own_head {w : World} {base : Nat} {e : TypeId} {v : Value} {n : Nat} {xs : List Value} (h : w.ownsRow base e 1 v n xs) (hn : 0 < n) :
    ∃ g cap, v = .slice (some ⟨g, 0, none⟩) n cap ∧ base ≤ g ∧ ∀ j, j < n → w.cell? ⟨g, j, none⟩ = xs[j]? := by
  rcases h.2 with ⟨_, h0⟩ | ⟨g, cap, cur, hv, hb, _⟩
  · omega
  · subst hv
    exact ⟨g, cap, rfl, hb, fun j hj => h.cellAt j (by omega)⟩

set_option maxHeartbeats 1000000 in
theorem zz_any (p : ByteArray) (w : World) (hp : p.size ≤ 1048576) :
    Calls Try.prog 7 #[.string p] w fun e w' => e = .returned (.bool true) ∧ w' = w := by
  go_enter Try.func7, Try.ntmps7
  go_wp2
  go_ret
  exact ⟨rfl, rfl⟩

theorem zz_no (p : ByteArray) (w : World) (hm : p.size ≤ maxLen) (hp : 1048576 < p.size) :
    Calls Try.prog 7 #[.string p] w fun e w' => e = .returned (.bool false) ∧ w' = w := by
  unfold maxLen at hm
  go_enter Try.func7, Try.ntmps7
  go_wp2
  go_ret
  exact ⟨rfl, rfl⟩

/-- ZZaesKeywords: the seventeen, in new memory. -/
theorem zzaes_any (p : ByteArray) (w : World) (hp : p.size ≤ 32768) :
    Calls Try.prog 8 #[.string p] w fun e w' => ∃ g cap, e = .returned (.slice (some ⟨g, 0, none⟩) 17 cap) ∧ w.heap.size < g ∧ (∀ j, j < 17 → w'.cell? ⟨g, j, none⟩ = some (.string (p ++ sfx j))) ∧ Below w.heap.size w w' := by
  go_enter Try.func8, Try.ntmps8
  go_wp2_with (first
    | (go_at_call 16; refine (aes_any p _ hp).mono ?_; rintro e w1 ⟨v, rfl, hown, hbel⟩; rw [aesTo_len5] at hown; obtain ⟨g, cap, hv, hg, hcell⟩ := own_head hown (by omega); rw [hv]))
  go_ret
  exact ⟨g, cap, rfl, by omega, fun j hj => (hcell j hj).trans (aesTo_at p j hj), hbel⟩

set_option maxHeartbeats 1000000 in
theorem table_any (p : ByteArray) (w : World) (hm : p.size ≤ maxLen) :
    Calls Try.prog 3 #[.string p] w fun e w' => e = .returned (.bool true) ∧ Below w.heap.size w w' := by
  unfold maxLen at hm
  by_cases h1 : p.size ≤ 1048576
  · by_cases h2 : p.size ≤ 32768
    · go_enter Try.func3, Try.ntmps3
      go_wp2_with (first
        | (go_at_call 7; refine (zz_any p _ h1).mono ?_; rintro e w' ⟨rfl, hw⟩; obtain rfl := hw.symm)
        | (go_at_call 8; refine (zzaes_any p _ h2).mono ?_; rintro e w1 ⟨g, cap, rfl, hg, hcell, hbel⟩))
      go_loopw [4] (fun i wr => ∃ k : Nat, k ≤ 17 ∧ i = .int .i64 k ∧ (∀ j, j < 17 → wr.cell? ⟨g, j, none⟩ = some (.string (p ++ sfx j))) ∧ Below w.heap.size w wr) (fun i _ => 17 - (intOf i).toNat)
      case atStart => exact ⟨0, by omega, rfl, hcell, hbel⟩
      case round =>
        clear hcell hbel
        obtain ⟨k, hk, rfl, hcell, hbel⟩ := hrel
        by_cases hlt : k < 17
        · have hc := hcell k hlt
          have hs := sfx_size k
          have HC : Hid (∀ j, j < 17 → wr.cell? ⟨g, j, none⟩ = some (.string (p ++ sfx j))) := hcell
          clear hcell
          go_wp2_with fail
          go_quiet ((go_at_call 9; exact Calls.quiet_of_same (sfx_any k hlt _)))
          go_wp2
          go_roundw
          case rel => exact ⟨k + 1, by omega, by go_num, fun j hj => HC.out j hj, below_drewN hbel _⟩
          case measure => simp [intOf]; omega
        · go_wp2
          go_ret
          exact ⟨rfl, hbel⟩
    · go_enter Try.func3, Try.ntmps3
      go_wp2_with (first
        | (go_at_call 7; refine (zz_any p _ h1).mono ?_; rintro e w' ⟨rfl, hw⟩; obtain rfl := hw.symm))
      go_ret
      exact ⟨rfl, Below.refl _ _⟩
  · go_enter Try.func3, Try.ntmps3
    go_wp2_with (first
      | (go_at_call 7; refine (zz_no p _ hm (by omega)).mono ?_; rintro e w' ⟨rfl, hw⟩; obtain rfl := hw.symm))
    go_ret
    exact ⟨rfl, Below.refl _ _⟩

end Go.Proofs.Qxb6602946a
