/- Strings in slices; zzb1Bytes, zzb1Min, zzb1LastIndex: the walks. -/
import Derived.Test.Qxb6603485aRows
import Derived.Test.Qxb6603485aMap
namespace Go.Proofs.Qxb6603485a
open Go.RowKit

/-- A slice's elements, as strings. -/
def strs (w : World) (ao : Option Addr) (len : Nat) (L : List ByteArray) : Prop :=
  L.length = len ∧ (∀ j, j < len → ∃ b off, ao = some ⟨b, off, none⟩ ∧ w.cell? ⟨b, off + j, none⟩ = some (.string (L.getD j ⟨#[]⟩))) ∧ ∀ s ∈ L, s.size ≤ maxLen

theorem strs.at {w w' : World} {ao : Option Addr} {len : Nat} {L : List ByteArray} (h : strs w ao len L) (hc : ∀ (a : Addr) (v : Value), w.cell? a = some v → w'.cell? a = some v) : strs w' ao len L :=
  ⟨h.1, fun j hj => by obtain ⟨b, off, h1, h2⟩ := h.2.1 j hj; exact ⟨b, off, h1, hc _ _ h2⟩, h.2.2⟩

theorem strs.below {w w' : World} {ao : Option Addr} {len : Nat} {L : List ByteArray} (h : strs w ao len L) (hb : Below w.heap.size w w') : strs w' ao len L :=
  h.at fun a _ hv => (hb.cell (World.block_lt_of_cell? w a hv)).trans hv

theorem strs.size {w : World} {ao : Option Addr} {len : Nat} {L : List ByteArray} (h : strs w ao len L) (j : Nat) : (L.getD j ⟨#[]⟩).size ≤ maxLen := by
  by_cases hj : j < L.length
  · have : L.getD j ⟨#[]⟩ = L[j] := by simp [List.getD, hj]
    rw [this]
    exact h.2.2 _ (List.getElem_mem hj)
  · have : L.getD j ⟨#[]⟩ = ⟨#[]⟩ := by simp [List.getD, List.getElem?_eq_none (Nat.le_of_not_lt hj)]
    rw [this]
    decide

def okS (s : ByteArray) : Prop := s.size ≤ maxLen
theorem ky9 : Ky Try.prog 9 Value.string okS := ⟨Maps.string_keyed Try.underlying9, fun _ hx => ⟨_, WideMaps.keyOf_string_mk Try.underlying9 hx⟩, fun _ _ h => by cases h; rfl⟩
theorem inj9 (x y : ByteArray) (h : Value.string x = Value.string y) : x = y := by cases h; rfl

theorem strs.kept_map {κ α : Type} {emb : κ → Value} {good : κ → Prop} {vemb : α → Value} {w w' : World} {ao : Option Addr} {len b n : Nat} {L : List ByteArray} {f : κ → Option α} (h : strs w ao len L) (hm : mp w emb good vemb b f n) (hg : w.grownBy w' (some b)) : strs w' ao len L := by
  refine h.at fun a v hv => ?_
  refine (World.cell?_of_block (hg.block a.block (World.block_lt_of_cell? w a hv) fun e => ?_)).trans hv
  obtain ⟨es, clock, hb, _⟩ := hm
  simp only [Option.some.injEq] at e
  simp [World.cell?, e, hb] at hv

theorem run_makeMap_some {P : Program} {t k e : TypeId} (ht : P.underlying t = some (.map k e)) (q : IntKind) (m : Int) (w : World) : (Instr.makeMap t (some (.int q m))).run P w = .ok (.map (some w.heap.size)) (w.alloc (.map #[] 0)) := by
  simp [Instr.makeMap, run_underlying ht, asInt, asIntOf]


theorem zero9 (w : World) : (zeroValue 9).run Try.prog w = .ok (.string ⟨#[]⟩) w := by kernel_rfl

/-- Some int comes back; nothing turns. -/
def IntPost (w : World) (e : Ending) (w' : World) : Prop := (∃ t : Int, e = .returned (.int .i64 t)) ∧ w' = w

set_option maxHeartbeats 1000000 in
theorem bytes_any (ao : Option Addr) (len cap : Nat) (L : List ByteArray) (w : World) (hs : strs w ao len L) (hmax : len ≤ maxLen) :
    Calls Try.prog 7 #[.slice ao len cap] w (IntPost w) := by
  unfold maxLen at hmax
  go_enter Try.func7, Try.ntmps7
  go_wp2
  go_loop [3, 4] (fun t i => ∃ (k : Nat) (tt : Int), k ≤ len ∧ i = .int .i64 k ∧ t = .int .i64 tt) (fun _ i => len - (intOf i).toNat)
  case atStart => exact ⟨0, _, by omega, rfl, rfl⟩
  case round =>
    obtain ⟨k, tt, hk, rfl, rfl⟩ := hrel
    by_cases hlt : k < len
    · obtain ⟨b, off, hao, hc⟩ := hs.2.1 k hlt
      generalize L.getD k ⟨#[]⟩ = s at hc
      subst hao
      clear hs
      go_wp2
      · go_ret
        exact ⟨⟨_, rfl⟩, rfl⟩
      · go_ret
        exact ⟨⟨_, rfl⟩, rfl⟩
      · go_round
        case rel => exact ⟨k + 1, _, by omega, by go_num, rfl⟩
        case measure => simp [intOf]; omega
    · go_wp2
      go_ret
      exact ⟨⟨_, rfl⟩, rfl⟩

theorem min_any (a b : Nat) (w : World) : Calls Try.prog 8 #[.int .i64 a, .int .i64 b] w fun e w' => e = .returned (.int .i64 (min a b : Nat)) ∧ w' = w := by
  by_cases h : a < b
  · have e : min a b = a := by omega
    rw [e]
    go_enter Try.func8, Try.ntmps8
    go_wp2
    go_ret
    exact ⟨rfl, rfl⟩
  · have e : min a b = b := by omega
    rw [e]
    go_enter Try.func8, Try.ntmps8
    go_wp2
    go_ret
    exact ⟨rfl, rfl⟩

/-- The last place below k at which x stands. -/
def lastIx (N : List ByteArray) (x : ByteArray) : Nat → Option Nat
  | 0 => none
  | k + 1 => if N.getD k ⟨#[]⟩ = x then some k else lastIx N x k

def ixInt : Option Nat → Int
  | some i => i
  | none => -1

theorem lastIx_lt {N : List ByteArray} {x : ByteArray} : ∀ {k i : Nat}, lastIx N x k = some i → i < k
  | 0, _, h => by cases h
  | k + 1, i, h => by
    unfold lastIx at h
    split at h
    · cases h
      exact Nat.lt_succ_self _
    · exact Nat.lt_succ_of_lt (lastIx_lt h)

set_option maxHeartbeats 1000000 in
theorem last_any (ao : Option Addr) (len cap n : Nat) (L : List ByteArray) (x : ByteArray) (w : World) (hs : strs w ao len L) (hmax : len ≤ 65536) (hn : n ≤ len) :
    Calls Try.prog 16 #[.slice ao len cap, .int .i64 n, .string x] w fun e w' => e = .returned (.int .i64 (ixInt (lastIx L x n))) ∧ w' = w := by
  go_enter Try.func16, Try.ntmps16
  go_wp2
  go_loop [7] (fun i => ∃ k : Nat, k ≤ n ∧ i = .int .i64 ((k : Int) - 1) ∧ lastIx L x n = lastIx L x k) (fun i => (intOf i + 1).toNat)
  case atStart => exact ⟨n, Nat.le_refl _, by go_num, rfl⟩
  case round =>
    obtain ⟨k, hk, rfl, hix⟩ := hrel
    have HX : Hid (lastIx L x n = lastIx L x k) := hix
    clear hix
    by_cases h0 : 0 < k
    · obtain ⟨m, rfl⟩ : ∃ m, k = m + 1 := ⟨k - 1, by omega⟩
      obtain ⟨b, off, hao, hc⟩ := hs.2.1 m (by omega)
      have HY : Hid (lastIx L x (m + 1) = if L.getD m ⟨#[]⟩ = x then some m else lastIx L x m) := rfl
      generalize L.getD m ⟨#[]⟩ = s at hc HY
      subst hao
      have e1 : (((m + 1 : Nat) : Int) - 1) = (m : Int) := by omega
      rw [e1]
      clear hs
      by_cases hsx : s = x
      · have hb : (s.toList == x.toList) = true := by rw [hsx]; simp
        have HZ : Hid (lastIx L x n = some m) := by rw [Hid, HX.out, HY.out, if_pos hsx]
        go_wp2
        go_ret
        exact ⟨by rw [HZ.out]; rfl, rfl⟩
      · have hb : (s.toList == x.toList) = false := by
          rw [beq_eq_false_iff_ne]
          intro h
          rw [ByteArray.toList_eq, ByteArray.toList_eq] at h
          exact hsx (ByteArray.ext (Array.toList_inj.1 h))
        have HZ : Hid (lastIx L x n = lastIx L x m) := by rw [Hid, HX.out, HY.out, if_neg hsx]
        go_wp2
        go_round
        case rel => exact ⟨m, by omega, by go_num, HZ.out⟩
        case measure => simp [intOf]
    · have hk0 : k = 0 := by omega
      subst hk0
      go_wp2
      go_ret
      exact ⟨by rw [HX.out]; rfl, rfl⟩

end Go.Proofs.Qxb6603485a
