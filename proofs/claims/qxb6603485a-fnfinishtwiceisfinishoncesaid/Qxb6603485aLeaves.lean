/- FnFinishLeavesTheBranchAsTheEndSays: the walk. -/
import Derived.Test.Qxb6603485aUnt
import Derived.Test.Qxb6603485aZz
import Derived.BigRegion
namespace Go.Proofs.Qxb6603485a
open Go.RowKit

theorem end_new (fr to : ByteArray) (bb : Nat) (rs : Bool) (w : World) :
    Calls Try.prog 9 #[.string fr, .string to, .map (some bb), .bool rs] w fun e w' => e = .returned (.pointer (some ⟨w.heap.size, 0, none⟩)) ∧ w'.heap[w.heap.size]? = some (.cells (endCells fr to bb rs) 59 (0, 0)) ∧ Below w.heap.size w w' := by
  go_enter Try.func9, Try.ntmps9
  go_wp2
  go_ret
  exact ⟨rfl, heap_alloc_new _ _, (Below.refl _ _).alloc (Nat.le_refl _) _⟩

theorem zzfinish_any (be b bm bs c bb fn : Nat) (fr to name resource xid state stamp : ByteArray) (rs : Bool) (ft status : Int) (err : ByteArray) (ff : ByteArray → Option (ByteArray × ByteArray)) (w : World)
    (hE : w.heap[be]? = some (.cells (endCells fr to bb rs) 59 (0, 0))) (hm : mp w Value.string okS finv bb ff fn) (hB : Br w b bm bs c name resource xid state stamp ft status err) (hn : okS name) :
    Calls Try.prog 15 #[.pointer (some ⟨be, 0, none⟩), .pointer (some ⟨b, 0, none⟩)] w fun e w' => e = .returned (.tuple #[]) ∧
      Br w' b bm bs c name resource xid (stateOf (ff name) state) (stampOf (ff name) stamp) (triesOf (ff name) rs ft) status err ∧ w.grownBy w' (some b) := by
  have hf := finish_any be b bm bs c bb fn fr to name resource xid state stamp rs ft status err ff w hE hm hB hn
  clear hE hm hB
  go_enter Try.func15, Try.ntmps15
  go_wp2_with fail
  refine hf.mono ?_
  clear hf
  rintro e w' ⟨rfl, hB', hg⟩
  go_wp2
  go_end0
  exact ⟨rfl, hB', hg⟩

/-- What the end logs after k entries. -/
def ffTo (N S T : List ByteArray) (k : Nat) (x : ByteArray) : Option (ByteArray × ByteArray) := (lastIx N x k).map fun i => (S.getD i ⟨#[]⟩, T.getD i ⟨#[]⟩)

theorem ffTo_step (N S T : List ByteArray) (k : Nat) : upd (ffTo N S T k) (N.getD k ⟨#[]⟩) (S.getD k ⟨#[]⟩, T.getD k ⟨#[]⟩) = ffTo N S T (k + 1) := by
  funext x
  unfold upd
  by_cases h : x = N.getD k ⟨#[]⟩
  · rw [if_pos h]
    simp [ffTo, lastIx, h]
  · rw [if_neg h]
    have : ¬ N.getD k ⟨#[]⟩ = x := fun e => h e.symm
    simp only [ffTo, lastIx, if_neg this]

theorem ffTo_zero (N S T : List ByteArray) : ffTo N S T 0 = fun _ => none := by
  funext x
  rfl

set_option maxHeartbeats 4000000 in
set_option maxRecDepth 100000 in
theorem leaves_any (a1 : Option Addr) (l1 c1 : Nat) (L1 : List ByteArray) (a2 : Option Addr) (l2 c2 : Nat) (L2 : List ByteArray) (a3 : Option Addr) (l3 c3 : Nat) (L3 : List ByteArray) (rs : Bool) (s4 s5 s6 s7 s8 s11 : ByteArray) (i9 i10 : Int) (w : World)
    (h1 : strs w a1 l1 L1) (h2 : strs w a2 l2 L2) (h3 : strs w a3 l3 L3) (hm1 : l1 ≤ maxLen) (hm2 : l2 ≤ maxLen) (hm3 : l3 ≤ maxLen) (ok4 : okS s4) :
    Calls Try.prog 4 #[.slice a1 l1 c1, .slice a2 l2 c2, .slice a3 l3 c3, .bool rs, .string s4, .string s5, .string s6, .string s7, .string s8, .int .i64 i9, .int .i64 i10, .string s11] w fun e w' => e = .returned (.bool true) ∧ Below w.heap.size w w' := by
  have hz := zz13_any a1 l1 c1 L1 a2 l2 c2 L2 a3 l3 c3 L3 rs s4 s5 s6 s7 s8 s11 i9 i10 w h1 h2 h3
  have hb1 := bytes_any a1 l1 c1 L1 w h1 hm1
  have hb2 := bytes_any a2 l2 c2 L2 w h2 hm2
  have hb3 := bytes_any a3 l3 c3 L3 w h3 hm3
  have HB1 : Hid (Calls Try.prog 7 #[.slice a1 l1 c1] w (IntPost w)) := hb1
  have HB2 : Hid (Calls Try.prog 7 #[.slice a2 l2 c2] w (IntPost w)) := hb2
  have HB3 : Hid (Calls Try.prog 7 #[.slice a3 l3 c3] w (IntPost w)) := hb3
  clear hb1 hb2 hb3
  go_enter Try.func4, Try.ntmps4
  go_wp2_with fail
  refine hz.mono ?_
  clear hz
  rintro e w' ⟨⟨bb, rfl⟩, hw⟩
  obtain rfl := hw.symm
  clear hw
  cases bb
  · go_wp2_with fail
    go_ret
    exact ⟨rfl, Below.refl _ _⟩
  · by_cases k1 : l1 ≤ 65536 ∧ l2 ≤ 65536 ∧ l3 ≤ 65536
    · obtain ⟨k1, k2, k3⟩ := k1
      go_wp2_with fail
      all_goals first | (go_ret; exact ⟨rfl, Below.refl _ _⟩) | skip
      refine HB1.out.mono ?_
      rintro e w' ⟨⟨t1, rfl⟩, hw⟩
      obtain rfl := hw.symm
      clear hw
      go_wp2_with fail
      refine HB2.out.mono ?_
      rintro e w' ⟨⟨t2, rfl⟩, hw⟩
      obtain rfl := hw.symm
      clear hw
      go_wp2_with fail
      refine HB3.out.mono ?_
      rintro e w' ⟨⟨t3, rfl⟩, hw⟩
      obtain rfl := hw.symm
      clear hw HB1 HB2 HB3
      have hmin2 := min_any l2 l3 w
      have hmin1 := min_any l1 (min l2 l3) w
      go_wp2_with fail
      all_goals first | (go_ret; exact ⟨rfl, Below.refl _ _⟩) | skip
      refine hmin2.mono ?_
      rintro e w' ⟨rfl, hw⟩
      obtain rfl := hw.symm
      clear hw hmin2
      go_wp2_with fail
      refine hmin1.mono ?_
      rintro e w' ⟨rfl, hw⟩
      obtain rfl := hw.symm
      clear hw hmin1
      obtain ⟨n, hn⟩ : ∃ n, n = min l1 (min l2 l3) := ⟨_, rfl⟩
      rw [← hn]
      have n1 : n ≤ l1 := by omega
      have n2 : n ≤ l2 := by omega
      have n3 : n ≤ l3 := by omega
      clear hn
      have hmk := run_makeMap_some (P := Try.prog) Try.underlying37 .i64 (n : Int)
      go_wp2_with fail
      clear hmk
      go_loopw [27] (fun i wr => ∃ (k fn : Nat), k ≤ n ∧ i = .int .i64 k ∧ mp wr Value.string okS finv w.heap.size (ffTo L1 L2 L3 k) fn ∧ Below w.heap.size w wr) (fun i _ => n - (intOf i).toNat)
      case atStart => exact ⟨0, 0, by omega, rfl, mp_made _ _ _ _, (Below.refl _ _).alloc (Nat.le_refl _) _⟩
      case round =>
        obtain ⟨k, fn, hk, rfl, hmf, hnx⟩ := hrel
        by_cases hlt : k < n
        · obtain ⟨b1, o1, hao1, hc1⟩ := (h1.below hnx).2.1 k (by omega)
          obtain ⟨b2, o2, hao2, hc2⟩ := (h2.below hnx).2.1 k (by omega)
          obtain ⟨b3, o3, hao3, hc3⟩ := (h3.below hnx).2.1 k (by omega)
          have hsz := h1.size k
          have i1 : (k : Int) < (l1 : Int) := by omega
          have i2 : (k : Int) < (l2 : Int) := by omega
          have i3 : (k : Int) < (l3 : Int) := by omega
          obtain ⟨w3, hput, hm3, hg3, hs3⟩ := hmf.put (P := Try.prog) ky9 Try.underlying37 hsz (L2.getD k ⟨#[]⟩, L3.getD k ⟨#[]⟩)
          rw [ffTo_step] at hm3
          have hputd : (Instr.mapUpdate 37 (.map (some w.heap.size)) (.string (L1.getD k ⟨#[]⟩)) (.agg #[.string (L2.getD k ⟨#[]⟩), .string (L3.getD k ⟨#[]⟩)])).run Try.prog wr.drew = .ok () w3.drew := hput 1
          have hnx3 : Below w.heap.size w w3 := hnx.grown hg3 hnx.size (fun j hj => by cases hj; exact Nat.le_refl _)
          have HM : Hid (∃ fn, mp w3 Value.string okS finv w.heap.size (ffTo L1 L2 L3 (k + 1)) fn) := ⟨_, hm3⟩
          clear hput hm3 hg3 hs3 hsz hmf hnx
          generalize L1.getD k ⟨#[]⟩ = s at hc1 hputd
          generalize L2.getD k ⟨#[]⟩ = t at hc2 hputd
          generalize L3.getD k ⟨#[]⟩ = u at hc3 hputd
          clear h1 h2 h3
          subst hao1
          subst hao2
          subst hao3
          go_wp2_with fail
          go_region
          go_wp2
          go_roundw
          case rel =>
            obtain ⟨fn', hm'⟩ := HM.out
            exact ⟨k + 1, fn', by omega, by go_num, hm', hnx3.drew⟩
          case measure => simp [intOf]; omega
        · have hkn : k = n := by omega
          subst hkn
          have hen := end_new ⟨#[99, 111, 109, 109, 105, 116, 116, 105, 110, 103]⟩ ⟨#[99, 111, 109, 109, 105, 116, 116, 101, 100]⟩ w.heap.size rs wr
          go_wp2_with fail
          refine hen.mono ?_
          clear hen
          rintro e w2 ⟨rfl, hE2, hb2⟩
          have hnw := new_any s4 s5 s6 s7 s8 i9 i10 s11 w2
          go_wp2_with fail
          refine hnw.mono ?_
          clear hnw
          rintro e w3 ⟨b, bm, bs, c, rfl, hbb, hbm, hbs, hB3, hb3⟩
          have hr2 : wr.heap.size < w2.heap.size := (Array.getElem?_eq_some_iff.1 hE2).1
          have hE3 := (hb3.block wr.heap.size hr2).trans hE2
          have hmf3 := (hmf.below hb2 hmf.lt).below hb3 (Nat.lt_of_lt_of_le hmf.lt hb2.size)
          have hfi := zzfinish_any wr.heap.size b bm bs c w.heap.size fn _ _ s4 s5 s6 s7 s8 rs i9 i10 s11 (ffTo L1 L2 L3 k) w3 hE3 hmf3 hB3 ok4
          have hn3 : Below w.heap.size w w3 := (hnx.trans (hb2.mono hnx.size)).trans (hb3.mono (Nat.le_trans hnx.size hb2.size))
          have hwb : w.heap.size ≤ b := by have := hnx.size; omega
          clear hE2 hE3 hmf hmf3 hB3 hb2 hb3 hnx hbb hbm hbs hr2
          go_wp2_with fail
          refine hfi.mono ?_
          clear hfi
          rintro e w4 ⟨rfl, hB4, hg4⟩
          have hn4 : Below w.heap.size w w4 := hn3.grown hg4 hn3.size (fun j hj => by cases hj; exact hwb)
          have hla := last_any a1 l1 c1 k L1 s4 w4 (h1.below hn4) k1 n1
          have hun := unt_any b bm bs c s4 s5 s6 _ _ _ i10 s11 w4 hB4
          clear hg4 hn3
          go_wp2_with fail
          refine hla.mono ?_
          clear hla
          rintro e w' ⟨rfl, hw⟩
          obtain rfl := hw.symm
          clear hw
          have e3 : w4.cell? ⟨b, 3, none⟩ = some (.string (stateOf (ffTo L1 L2 L3 k s4) s7)) := cell_of_row w4 b 3 _ 55 (0, 0) hB4.cells
          have e4 : w4.cell? ⟨b, 4, none⟩ = some (.string (stampOf (ffTo L1 L2 L3 k s4) s8)) := cell_of_row w4 b 4 _ 55 (0, 0) hB4.cells
          have e7 : w4.cell? ⟨b, 7, none⟩ = some (.int .i64 (triesOf (ffTo L1 L2 L3 k s4) rs i9)) := cell_of_row w4 b 7 _ 55 (0, 0) hB4.cells
          clear hB4
          cases hix : lastIx L1 s4 k with
          | none =>
            have hff : ffTo L1 L2 L3 k s4 = none := by unfold ffTo; rw [hix]; rfl
            rw [hff] at e3 e4 e7
            simp only [stateOf, stampOf, triesOf] at e3 e4 e7
            clear hff hix h1 h2 h3
            simp only [ixInt]
            cases rs
            · go_wp2_with (first
                | (go_at_call 17; refine hun.mono ?_; rintro e w' ⟨rfl, hw⟩; obtain rfl := hw.symm))
              go_ret
              exact ⟨rfl, hn4⟩
            · go_wp2_with (first
                | (go_at_call 17; refine hun.mono ?_; rintro e w' ⟨rfl, hw⟩; obtain rfl := hw.symm))
              go_ret
              exact ⟨rfl, hn4⟩
          | some i =>
            have hik := lastIx_lt hix
            have hff : ffTo L1 L2 L3 k s4 = some (L2.getD i ⟨#[]⟩, L3.getD i ⟨#[]⟩) := by unfold ffTo; rw [hix]; rfl
            rw [hff] at e3 e4 e7
            simp only [stateOf, stampOf, triesOf] at e3 e4 e7
            obtain ⟨b2, o2, hao2, hc2⟩ := (h2.below hn4).2.1 i (by omega)
            obtain ⟨b3, o3, hao3, hc3⟩ := (h3.below hn4).2.1 i (by omega)
            have i2 : (i : Int) < (l2 : Int) := by omega
            have i3 : (i : Int) < (l3 : Int) := by omega
            generalize L2.getD i ⟨#[]⟩ = t at e3 e4 e7 hc2
            generalize L3.getD i ⟨#[]⟩ = u at e3 e4 e7 hc3
            clear hff hix h1 h2 h3
            subst hao2
            subst hao3
            simp only [ixInt]
            cases hu : u.toList.isEmpty
            · rw [hu] at e4
              simp only [Bool.false_eq_true, if_false] at e4
              go_wp2_with (first
                | (go_at_call 17; refine hun.mono ?_; rintro e w' ⟨rfl, hw⟩; obtain rfl := hw.symm))
              go_ret
              exact ⟨rfl, hn4⟩
            · rw [hu] at e4
              simp only [if_true] at e4
              go_wp2_with (first
                | (go_at_call 17; refine hun.mono ?_; rintro e w' ⟨rfl, hw⟩; obtain rfl := hw.symm))
              go_ret
              exact ⟨rfl, hn4⟩
    · go_wp2_with fail
      all_goals first | (go_ret; exact ⟨rfl, Below.refl _ _⟩) | skip

end Go.Proofs.Qxb6603485a
