/- The bounds laid by program (zzBytes_..): the walks: some bool comes back, nothing turns. -/
import Derived.Test.Qxb6603485aBase
namespace Go.Proofs.Qxb6603485a
open Go.RowKit

def BoolPost (w : World) (e : Ending) (w' : World) : Prop := (∃ b : Bool, e = .returned (.bool b)) ∧ w' = w
theorem boolPost_mk {w : World} (b : Bool) : BoolPost w (.returned (.bool b)) w := ⟨⟨b, rfl⟩, rfl⟩

set_option maxHeartbeats 4000000 in
theorem zz13_any (a1 : Option Addr) (l1 c1 : Nat) (L1 : List ByteArray) (a2 : Option Addr) (l2 c2 : Nat) (L2 : List ByteArray) (a3 : Option Addr) (l3 c3 : Nat) (L3 : List ByteArray) (rs : Bool) (s4 s5 s6 s7 s8 s11 : ByteArray) (i9 i10 : Int) (w : World)
    (h1 : strs w a1 l1 L1) (h2 : strs w a2 l2 L2) (h3 : strs w a3 l3 L3) :
    Calls Try.prog 13 #[.slice a1 l1 c1, .slice a2 l2 c2, .slice a3 l3 c3, .bool rs, .string s4, .string s5, .string s6, .string s7, .string s8, .int .i64 i9, .int .i64 i10, .string s11] w (BoolPost w) := by
  go_enter Try.func13, Try.ntmps13
  go_wp2
  all_goals first | (go_ret; exact boolPost_mk _) | skip
  go_loop [25, 26] (fun t i => ∃ (k : Nat) (tt : Int), k ≤ l1 ∧ i = .int .i64 k ∧ t = .int .i64 tt) (fun _ i => l1 - (intOf i).toNat)
  case atStart => exact ⟨0, _, by omega, rfl, rfl⟩
  case round =>
    obtain ⟨k, tt, hk, rfl, rfl⟩ := hrel
    have hmx : l1 ≤ 1048576 := by omega
    by_cases hlt : k < l1
    · obtain ⟨b, off, hao, hc⟩ := h1.2.1 k hlt
      generalize L1.getD k ⟨#[]⟩ = s at hc
      subst hao
      go_wp2
      all_goals first | (go_ret; exact boolPost_mk _) | skip
      go_round
      case rel => exact ⟨k + 1, _, by omega, by go_num, rfl⟩
      case measure => simp [intOf]; omega
    · go_wp2
      all_goals first | (go_ret; exact boolPost_mk _) | skip
      go_loop [25, 27] (fun t i => ∃ (k : Nat) (tt : Int), k ≤ l2 ∧ i = .int .i64 k ∧ t = .int .i64 tt) (fun _ i => l2 - (intOf i).toNat)
      case atStart => exact ⟨0, _, by omega, rfl, rfl⟩
      case round =>
        obtain ⟨k, tt, hk, rfl, rfl⟩ := hrel
        have hmx : l2 ≤ 1048576 := by omega
        by_cases hlt : k < l2
        · obtain ⟨b, off, hao, hc⟩ := h2.2.1 k hlt
          generalize L2.getD k ⟨#[]⟩ = s at hc
          subst hao
          go_wp2
          all_goals first | (go_ret; exact boolPost_mk _) | skip
          go_round
          case rel => exact ⟨k + 1, _, by omega, by go_num, rfl⟩
          case measure => simp [intOf]; omega
        · go_wp2
          all_goals first | (go_ret; exact boolPost_mk _) | skip
          go_loop [25, 28] (fun t i => ∃ (k : Nat) (tt : Int), k ≤ l3 ∧ i = .int .i64 k ∧ t = .int .i64 tt) (fun _ i => l3 - (intOf i).toNat)
          case atStart => exact ⟨0, _, by omega, rfl, rfl⟩
          case round =>
            obtain ⟨k, tt, hk, rfl, rfl⟩ := hrel
            have hmx : l3 ≤ 1048576 := by omega
            by_cases hlt : k < l3
            · obtain ⟨b, off, hao, hc⟩ := h3.2.1 k hlt
              generalize L3.getD k ⟨#[]⟩ = s at hc
              subst hao
              go_wp2
              all_goals first | (go_ret; exact boolPost_mk _) | skip
              go_round
              case rel => exact ⟨k + 1, _, by omega, by go_num, rfl⟩
              case measure => simp [intOf]; omega
            · go_wp2
              all_goals first | (go_ret; exact boolPost_mk _) | skip

set_option maxHeartbeats 4000000 in
theorem zz18_any (a1 : Option Addr) (l1 c1 : Nat) (L1 : List ByteArray) (a2 : Option Addr) (l2 c2 : Nat) (L2 : List ByteArray) (a3 : Option Addr) (l3 c3 : Nat) (L3 : List ByteArray) (rs : Bool) (s4 s5 s6 s7 s8 s11 : ByteArray) (i9 i10 : Int) (w : World)
    (h1 : strs w a1 l1 L1) (h2 : strs w a2 l2 L2) (h3 : strs w a3 l3 L3) :
    Calls Try.prog 18 #[.slice a1 l1 c1, .slice a2 l2 c2, .slice a3 l3 c3, .bool rs, .string s4, .string s5, .string s6, .string s7, .string s8, .int .i64 i9, .int .i64 i10, .string s11] w (BoolPost w) := by
  go_enter Try.func18, Try.ntmps18
  go_wp2
  all_goals first | (go_ret; exact boolPost_mk _) | skip
  go_loop [25, 26] (fun t i => ∃ (k : Nat) (tt : Int), k ≤ l1 ∧ i = .int .i64 k ∧ t = .int .i64 tt) (fun _ i => l1 - (intOf i).toNat)
  case atStart => exact ⟨0, _, by omega, rfl, rfl⟩
  case round =>
    obtain ⟨k, tt, hk, rfl, rfl⟩ := hrel
    have hmx : l1 ≤ 1048576 := by omega
    by_cases hlt : k < l1
    · obtain ⟨b, off, hao, hc⟩ := h1.2.1 k hlt
      generalize L1.getD k ⟨#[]⟩ = s at hc
      subst hao
      go_wp2
      all_goals first | (go_ret; exact boolPost_mk _) | skip
      go_round
      case rel => exact ⟨k + 1, _, by omega, by go_num, rfl⟩
      case measure => simp [intOf]; omega
    · go_wp2
      all_goals first | (go_ret; exact boolPost_mk _) | skip
      go_loop [25, 27] (fun t i => ∃ (k : Nat) (tt : Int), k ≤ l2 ∧ i = .int .i64 k ∧ t = .int .i64 tt) (fun _ i => l2 - (intOf i).toNat)
      case atStart => exact ⟨0, _, by omega, rfl, rfl⟩
      case round =>
        obtain ⟨k, tt, hk, rfl, rfl⟩ := hrel
        have hmx : l2 ≤ 1048576 := by omega
        by_cases hlt : k < l2
        · obtain ⟨b, off, hao, hc⟩ := h2.2.1 k hlt
          generalize L2.getD k ⟨#[]⟩ = s at hc
          subst hao
          go_wp2
          all_goals first | (go_ret; exact boolPost_mk _) | skip
          go_round
          case rel => exact ⟨k + 1, _, by omega, by go_num, rfl⟩
          case measure => simp [intOf]; omega
        · go_wp2
          all_goals first | (go_ret; exact boolPost_mk _) | skip
          go_loop [25, 28] (fun t i => ∃ (k : Nat) (tt : Int), k ≤ l3 ∧ i = .int .i64 k ∧ t = .int .i64 tt) (fun _ i => l3 - (intOf i).toNat)
          case atStart => exact ⟨0, _, by omega, rfl, rfl⟩
          case round =>
            obtain ⟨k, tt, hk, rfl, rfl⟩ := hrel
            have hmx : l3 ≤ 1048576 := by omega
            by_cases hlt : k < l3
            · obtain ⟨b, off, hao, hc⟩ := h3.2.1 k hlt
              generalize L3.getD k ⟨#[]⟩ = s at hc
              subst hao
              go_wp2
              all_goals first | (go_ret; exact boolPost_mk _) | skip
              go_round
              case rel => exact ⟨k + 1, _, by omega, by go_num, rfl⟩
              case measure => simp [intOf]; omega
            · go_wp2
              all_goals first | (go_ret; exact boolPost_mk _) | skip

set_option maxHeartbeats 4000000 in
theorem zz6_any (a1 : Option Addr) (l1 c1 : Nat) (L1 : List ByteArray) (a2 : Option Addr) (l2 c2 : Nat) (L2 : List ByteArray) (s2 : ByteArray) (w : World)
    (h1 : strs w a1 l1 L1) (h2 : strs w a2 l2 L2) :
    Calls Try.prog 6 #[.slice a1 l1 c1, .slice a2 l2 c2, .string s2] w (BoolPost w) := by
  go_enter Try.func6, Try.ntmps6
  go_wp2
  all_goals first | (go_ret; exact boolPost_mk _) | skip
  go_loop [7, 8] (fun t i => ∃ (k : Nat) (tt : Int), k ≤ l1 ∧ i = .int .i64 k ∧ t = .int .i64 tt) (fun _ i => l1 - (intOf i).toNat)
  case atStart => exact ⟨0, _, by omega, rfl, rfl⟩
  case round =>
    obtain ⟨k, tt, hk, rfl, rfl⟩ := hrel
    have hmx : l1 ≤ 1048576 := by omega
    by_cases hlt : k < l1
    · obtain ⟨b, off, hao, hc⟩ := h1.2.1 k hlt
      generalize L1.getD k ⟨#[]⟩ = s at hc
      subst hao
      go_wp2
      all_goals first | (go_ret; exact boolPost_mk _) | skip
      go_round
      case rel => exact ⟨k + 1, _, by omega, by go_num, rfl⟩
      case measure => simp [intOf]; omega
    · go_wp2
      all_goals first | (go_ret; exact boolPost_mk _) | skip
      go_loop [7, 9] (fun t i => ∃ (k : Nat) (tt : Int), k ≤ l2 ∧ i = .int .i64 k ∧ t = .int .i64 tt) (fun _ i => l2 - (intOf i).toNat)
      case atStart => exact ⟨0, _, by omega, rfl, rfl⟩
      case round =>
        obtain ⟨k, tt, hk, rfl, rfl⟩ := hrel
        have hmx : l2 ≤ 1048576 := by omega
        by_cases hlt : k < l2
        · obtain ⟨b, off, hao, hc⟩ := h2.2.1 k hlt
          generalize L2.getD k ⟨#[]⟩ = s at hc
          subst hao
          go_wp2
          all_goals first | (go_ret; exact boolPost_mk _) | skip
          go_round
          case rel => exact ⟨k + 1, _, by omega, by go_num, rfl⟩
          case measure => simp [intOf]; omega
        · go_wp2
          all_goals first | (go_ret; exact boolPost_mk _) | skip

end Go.Proofs.Qxb6603485a
