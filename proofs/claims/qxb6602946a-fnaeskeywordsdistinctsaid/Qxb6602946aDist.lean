/- FnAESKeywordsDistinct: the walk. -/
import Derived.Test.Qxb6602946aTable
import Derived.WalkSmall
namespace Go.Proofs.Qxb6602946a
open Go.RowKit

theorem cat_inj {p a b : ByteArray} (h : (p ++ a).toList = (p ++ b).toList) : a = b := by
  rw [ByteArray.toList_eq, ByteArray.toList_eq] at h
  apply ByteArray.ext
  have h2 := Array.toList_inj.1 h
  rw [ByteArray.data_append, ByteArray.data_append] at h2
  exact Array.append_right_inj p.data |>.1 h2

theorem sfx_inj : ∀ i, i < 17 → ∀ j, j < i → sfx i ≠ sfx j := by decide +kernel
theorem sfx_ne : ∀ i, i < 17 → 0 < i → sfx i ≠ ⟨#[]⟩ := by decide +kernel

theorem cat_empty (p : ByteArray) : p ++ ⟨#[]⟩ = p := by
  apply ByteArray.ext
  simp [ByteArray.data_append]

theorem kw_ne (p : ByteArray) (i j : Nat) (hi : i < 17) (hj : j < i) : ((p ++ sfx i).toList == (p ++ sfx j).toList) = false := by
  rw [beq_eq_false_iff_ne]
  exact fun h => sfx_inj i hi j hj (cat_inj h)

theorem kw_bare (p : ByteArray) (i : Nat) (hi : i < 17) (h0 : 0 < i) : ((p ++ sfx i).toList == p.toList) = false := by
  rw [beq_eq_false_iff_ne]
  intro h
  refine sfx_ne i hi h0 (cat_inj (p := p) ?_)
  rw [h, cat_empty]

theorem kw_zero (p : ByteArray) : p ++ sfx 0 = p := cat_empty p

set_option maxHeartbeats 1000000 in
theorem pre_any (p s : ByteArray) (w : World) (hp : p.size ≤ 32768) (hs : s.size ≤ 6) :
    Calls Try.prog 11 #[.string (p ++ s), .string p] w fun e w' => e = .returned (.bool true) ∧ ∃ n, w' = w.drewN n := by
  go_enter Try.func11, Try.ntmps11
  go_wp2
  go_loopw [5] (fun i wr => ∃ k : Nat, k ≤ p.size ∧ i = .int .i64 k ∧ ∃ n, wr = w.drewN n) (fun i _ => p.size - (intOf i).toNat)
  case atStart => exact ⟨0, by omega, rfl, 0, rfl⟩
  case round =>
    obtain ⟨k, hk, rfl, hwr⟩ := hrel
    by_cases hlt : k < p.size
    · go_wp2_with fail
      go_quiet (fail)
      go_wp2
      go_roundw
      case rel =>
        obtain ⟨n, rfl⟩ := hwr
        exact ⟨k + 1, by omega, by go_num, n + nq, by rw [World.drewN_drewN]⟩
      case measure => simp [intOf]; omega
    · go_wp2
      go_ret
      exact ⟨rfl, hwr⟩

theorem pre0_any (p : ByteArray) (w : World) (hp : p.size ≤ 32768) :
    Calls Try.prog 11 #[.string p, .string p] w fun e w' => e = .returned (.bool true) ∧ ∃ n, w' = w.drewN n := by
  have h := pre_any p ⟨#[]⟩ w hp (by decide)
  rw [cat_empty] at h
  exact h

theorem zz10_any (p : ByteArray) (w : World) (hp : p.size ≤ 1048576) :
    Calls Try.prog 10 #[.string p] w fun e w' => e = .returned (.bool true) ∧ w' = w := by
  go_enter Try.func10, Try.ntmps10
  go_wp2
  go_ret
  exact ⟨rfl, rfl⟩

theorem zz10_no (p : ByteArray) (w : World) (hm : p.size ≤ maxLen) (hp : 1048576 < p.size) :
    Calls Try.prog 10 #[.string p] w fun e w' => e = .returned (.bool false) ∧ w' = w := by
  unfold maxLen at hm
  go_enter Try.func10, Try.ntmps10
  go_wp2
  go_ret
  exact ⟨rfl, rfl⟩

set_option maxHeartbeats 2000000 in
theorem dist_any (p : ByteArray) (w : World) (hm : p.size ≤ maxLen) :
    Calls Try.prog 4 #[.string p] w fun e w' => e = .returned (.bool true) ∧ Below w.heap.size w w' := by
  unfold maxLen at hm
  by_cases h1 : p.size ≤ 1048576
  · by_cases h2 : p.size ≤ 32768
    · go_enter Try.func4, Try.ntmps4
      go_wp2_with (first
        | (go_at_call 10; refine (zz10_any p _ h1).mono ?_; rintro e w' ⟨rfl, hw⟩; obtain rfl := hw.symm)
        | (go_at_call 8; refine (zzaes_any p _ h2).mono ?_; rintro e w1 ⟨g, cap, rfl, hg, hcell, hbel⟩))
      go_loopw [4, 5] (fun b i wr => ∃ k : Nat, k ≤ 17 ∧ i = .int .i64 k ∧ b = .int .i64 (if k = 0 then 0 else 1) ∧ (∀ j, j < 17 → wr.cell? ⟨g, j, none⟩ = some (.string (p ++ sfx j))) ∧ Below w.heap.size w wr) (fun _ i _ => 17 - (intOf i).toNat)
      case atStart => exact ⟨0, by omega, rfl, rfl, hcell, hbel⟩
      case round =>
        clear hcell hbel
        obtain ⟨k, hk, rfl, rfl, hcell, hbel⟩ := hrel
        by_cases hlt : k < 17
        · have hc := hcell k hlt
          have hs := sfx_size k
          have HC : Hid (∀ j, j < 17 → wr.cell? ⟨g, j, none⟩ = some (.string (p ++ sfx j))) := hcell
          clear hcell
          by_cases hk0 : k = 0
          · rw [if_pos hk0]
            rw [hk0, kw_zero, ← hk0] at hc
            have hk1 : k ≤ 0 := by omega
            have HK : Hid (k = 0) := hk0
            clear hk0 hs
            go_wp2_with (first
              | (go_at_call 11; refine (pre0_any p _ h2).mono ?_; rintro e w1 ⟨rfl, n, rfl⟩))
            go_loopw [6] (fun j wi => ∃ m : Nat, m ≤ k ∧ j = .int .i64 m ∧ ∃ n, wi = wr.drewN n) (fun j _ => k - (intOf j).toNat)
            case atStart => exact ⟨0, by omega, rfl, n, rfl⟩
            case round =>
              obtain ⟨m, hm, rfl, hwi⟩ := hrel
              have hmk : ¬ m < k := by omega
              go_wp2
              go_roundw
              case rel =>
                obtain ⟨n', rfl⟩ := hwi
                exact ⟨k + 1, by omega, by go_num, by rw [if_neg (by omega)], fun j hj => HC.out j hj, below_drewN hbel _⟩
              case measure => simp [intOf]; omega
          · have hkb := kw_bare p k hlt (by omega)
            rw [if_neg hk0]
            clear hk0
            go_wp2_with (first
              | (go_at_call 11; refine (pre_any p _ _ h2 hs).mono ?_; rintro e w1 ⟨rfl, n, rfl⟩))
            go_loopw [6] (fun j wi => ∃ m : Nat, m ≤ k ∧ j = .int .i64 m ∧ (∀ j, j < 17 → wi.cell? ⟨g, j, none⟩ = some (.string (p ++ sfx j))) ∧ Below w.heap.size w wi) (fun j _ => k - (intOf j).toNat)
            case atStart => exact ⟨0, by omega, rfl, fun j hj => HC.out j hj, below_drewN hbel _⟩
            case round =>
              clear hc HC hbel
              obtain ⟨m, hm, rfl, hcell, hbel⟩ := hrel
              by_cases hmk : m < k
              · have hc1 := hcell k hlt
                have hc2 := hcell m (by omega)
                have hs2 := sfx_size m
                have hne := kw_ne p k m hlt hmk
                have HC : Hid (∀ j, j < 17 → wr.cell? ⟨g, j, none⟩ = some (.string (p ++ sfx j))) := hcell
                clear hcell
                go_wp2_with fail
                go_quiet (fail)
                go_wp2
                go_roundw
                case rel => exact ⟨m + 1, by omega, by go_num, fun j hj => HC.out j hj, below_drewN hbel _⟩
                case measure => simp [intOf]; omega
              · go_wp2
                go_roundw
                case rel => exact ⟨k + 1, by omega, by go_num, by rw [if_neg (by omega)], hcell, hbel⟩
                case measure => simp [intOf]; omega
        · have hk17 : k = 17 := by omega
          rw [if_neg (by omega)]
          go_wp2
          go_ret
          exact ⟨rfl, hbel⟩
    · go_enter Try.func4, Try.ntmps4
      go_wp2_with (first
        | (go_at_call 10; refine (zz10_any p _ h1).mono ?_; rintro e w' ⟨rfl, hw⟩; obtain rfl := hw.symm))
      go_ret
      exact ⟨rfl, Below.refl _ _⟩
  · go_enter Try.func4, Try.ntmps4
    go_wp2_with (first
      | (go_at_call 10; refine (zz10_no p _ hm (by omega)).mono ?_; rintro e w' ⟨rfl, hw⟩; obtain rfl := hw.symm))
    go_ret
    exact ⟨rfl, Below.refl _ _⟩

end Go.Proofs.Qxb6602946a
