/- FnSignTimesMagnitudeIsCoefficient: the walk. -/
import Derived.Test.Qxb6603493aRows
import Derived.WalkKit
import Derived.WalkSpells
import Derived.WalkLawsBesides
namespace Go.Proofs.Qxb6603493a
open Go.RowKit

/-- The sign of a number. -/
def sg (a : Int) : Int := if a < 0 then -1 else if 0 < a then 1 else 0

theorem cmp_any (a : Int) (w : World) : Calls Try.prog 7 #[.int .i64 a, .int .i64 0] w fun e w' => e = .returned (.int .i64 (sg a)) ∧ w' = w := by
  by_cases h1 : a < 0
  · have e : sg a = -1 := by unfold sg; rw [if_pos h1]
    rw [e]
    go_enter Try.func7, Try.ntmps7
    go_wp2
    go_ret
    exact ⟨rfl, rfl⟩
  · by_cases h2 : 0 < a
    · have e : sg a = 1 := by unfold sg; rw [if_neg h1, if_pos h2]
      rw [e]
      go_enter Try.func7, Try.ntmps7
      go_wp2
      go_ret
      exact ⟨rfl, rfl⟩
    · have e : sg a = 0 := by unfold sg; rw [if_neg h1, if_neg h2]
      rw [e]
      go_enter Try.func7, Try.ntmps7
      go_wp2
      go_ret
      exact ⟨rfl, rfl⟩

theorem dec_new (a s : Int) (w : World) : Calls Try.prog 4 #[.int .i64 a, .int .i64 s] w fun e w' => e = .returned (.agg #[.int .i64 a, .pointer none, .int .i64 s]) ∧ w' = w.alloc (.cells #[.int .i64 a, .pointer none, .int .i64 s] 24) := by
  go_enter Try.func4, Try.ntmps4
  go_wp2
  exact bodyPost_ret (v := .agg #[.int .i64 a, .pointer none, .int .i64 s]) (by simp [results, Try.results4, go_sem]) rfl ⟨rfl, rfl⟩

set_option maxHeartbeats 1000000 in
theorem sgn_any (a s : Int) (w : World) : Calls Try.prog 5 #[.agg #[.int .i64 a, .pointer none, .int .i64 s]] w fun e w' => e = .returned (.int .i64 (sg a)) ∧ Below w.heap.size w w' := by
  go_enter Try.func5, Try.ntmps5
  go_wp2_with (first
    | (go_at_call 7; refine (cmp_any a _).mono ?_; rintro e w' ⟨rfl, hw⟩; obtain rfl := hw.symm))
  go_ret
  exact ⟨rfl, (Below.refl _ _).alloc (Nat.le_refl _) _⟩

theorem sg_cases (a : Int) : (a < 0 ∧ sg a = -1) ∨ (0 < a ∧ sg a = 1) ∨ (a = 0 ∧ sg a = 0) := by
  unfold sg
  by_cases h1 : a < 0
  · simp [h1]
  · by_cases h2 : 0 < a
    · simp [h1, h2]
    · have : a = 0 := by omega
      simp [this]

set_option maxHeartbeats 1000000 in
theorem sign_any (a s : Int) (w : World) (hlo : -9223372036854775807 ≤ a) (hhi : a ≤ 9223372036854775807) :
    Calls Try.prog 3 #[.int .i64 a, .int .i64 s] w fun e w' => e = .returned (.bool true) ∧ Below w.heap.size w w' := by
  have hdn := dec_new a s
  have HD : Hid (∀ w : World, Calls Try.prog 4 #[.int .i64 a, .int .i64 s] w fun e w' => e = .returned (.agg #[.int .i64 a, .pointer none, .int .i64 s]) ∧ w' = w.alloc (.cells #[.int .i64 a, .pointer none, .int .i64 s] 24)) := hdn
  have hsn := sgn_any a s
  clear hdn
  rcases sg_cases a with ⟨h1, e⟩ | ⟨h1, e⟩ | ⟨h1, e⟩
  · rw [e] at hsn
    have HS : Hid (∀ w : World, Calls Try.prog 5 #[.agg #[.int .i64 a, .pointer none, .int .i64 s]] w fun e w' => e = .returned (.int .i64 (-1)) ∧ Below w.heap.size w w') := hsn
    clear hsn e
    go_enter Try.func3, Try.ntmps3
    go_wp2_with (first
      | (go_at_call 4; refine (HD.out _).mono ?_; rintro e w1 ⟨rfl, rfl⟩)
      | (go_at_call 5; refine (HS.out _).mono ?_; rintro e w2 ⟨rfl, hb⟩))
    go_ret
    exact ⟨rfl, (((Below.refl _ _).alloc (Nat.le_refl _) _).alloc (by simp) _).trans (hb.mono (by simp; omega))⟩
  · rw [e] at hsn
    have HS : Hid (∀ w : World, Calls Try.prog 5 #[.agg #[.int .i64 a, .pointer none, .int .i64 s]] w fun e w' => e = .returned (.int .i64 1) ∧ Below w.heap.size w w') := hsn
    clear hsn e
    go_enter Try.func3, Try.ntmps3
    go_wp2_with (first
      | (go_at_call 4; refine (HD.out _).mono ?_; rintro e w1 ⟨rfl, rfl⟩)
      | (go_at_call 5; refine (HS.out _).mono ?_; rintro e w2 ⟨rfl, hb⟩))
    go_ret
    exact ⟨rfl, (((Below.refl _ _).alloc (Nat.le_refl _) _).alloc (by simp) _).trans (hb.mono (by simp; omega))⟩
  · rw [e] at hsn
    subst h1
    have HS : Hid (∀ w : World, Calls Try.prog 5 #[.agg #[.int .i64 0, .pointer none, .int .i64 s]] w fun e w' => e = .returned (.int .i64 0) ∧ Below w.heap.size w w') := hsn
    clear hsn e
    go_enter Try.func3, Try.ntmps3
    go_wp2_with (first
      | (go_at_call 4; refine (HD.out _).mono ?_; rintro e w1 ⟨rfl, rfl⟩)
      | (go_at_call 5; refine (HS.out _).mono ?_; rintro e w2 ⟨rfl, hb⟩))
    go_ret
    exact ⟨rfl, (((Below.refl _ _).alloc (Nat.le_refl _) _).alloc (by simp) _).trans (hb.mono (by simp; omega))⟩

/-- The least int64. -/
theorem sign_min (a s : Int) (w : World) (h : a < -9223372036854775807) (h' : -9223372036854775808 ≤ a) :
    Calls Try.prog 3 #[.int .i64 a, .int .i64 s] w fun e w' => e = .returned (.bool true) ∧ Below w.heap.size w w' := by
  go_enter Try.func3, Try.ntmps3
  go_wp2
  go_ret
  exact ⟨rfl, Below.refl _ _⟩

end Go.Proofs.Qxb6603493a
