/- FnOfTakesNothingAwayAndAgreesWithAll: the walk. -/
import Derived.Test.Qxb6603485aOfInv
import Derived.Test.Qxb6603485aZz
import Derived.BigRegion
namespace Go.Proofs.Qxb6603485a
open Go.RowKit

theorem zero3 (w : World) : (zeroValue 3).run Try.prog w = .ok (.int .i64 0) w := by kernel_rfl

set_option maxHeartbeats 4000000 in
set_option maxRecDepth 100000 in
theorem oftakes_any (a1 : Option Addr) (l1 c1 : Nat) (L1 : List ByteArray) (a2 : Option Addr) (l2 c2 : Nat) (L2 : List ByteArray) (s3 : ByteArray) (w : World)
    (h1 : strs w a1 l1 L1) (h2 : strs w a2 l2 L2) (hm1 : l1 ≤ maxLen) (hm2 : l2 ≤ maxLen) (ok3 : okS s3) :
    Calls Try.prog 3 #[.slice a1 l1 c1, .slice a2 l2 c2, .string s3] w fun e w' => e = .returned (.bool true) ∧ Below w.heap.size w w' := by
  have hz := zz6_any a1 l1 c1 L1 a2 l2 c2 L2 s3 w h1 h2
  have HB1 : Hid (Calls Try.prog 7 #[.slice a1 l1 c1] w (IntPost w)) := bytes_any a1 l1 c1 L1 w h1 hm1
  have HB2 : Hid (Calls Try.prog 7 #[.slice a2 l2 c2] w (IntPost w)) := bytes_any a2 l2 c2 L2 w h2 hm2
  have OK3 : Hid (okS s3) := ok3
  clear ok3
  go_enter Try.func3, Try.ntmps3
  go_wp2_with fail
  refine hz.mono ?_
  clear hz
  rintro e w' ⟨⟨bb, rfl⟩, hw⟩
  obtain rfl := hw.symm
  clear hw
  cases bb
  · go_wp2_with fail
    go_ret
    exact ⟨rfl, Below.refl _ _⟩
  · by_cases k1 : l1 ≤ 65536 ∧ l2 ≤ 65536 ∧ s3.size ≤ 65536
    · obtain ⟨k1, k2, k3⟩ := k1
      go_wp2_with fail
      all_goals first | (go_ret; exact ⟨rfl, Below.refl _ _⟩) | skip
      refine HB1.out.mono ?_
      rintro e w' ⟨⟨t1, rfl⟩, hw⟩
      obtain rfl := hw.symm
      clear hw
      go_wp2_with fail
      refine HB2.out.mono ?_
      rintro e w' ⟨⟨t2, rfl⟩, hw⟩
      obtain rfl := hw.symm
      clear hw HB1 HB2
      have hmin := min_any l1 l2 w
      go_wp2_with fail
      all_goals first | (go_ret; exact ⟨rfl, Below.refl _ _⟩) | skip
      refine hmin.mono ?_
      rintro e w' ⟨rfl, hw⟩
      obtain rfl := hw.symm
      clear hw hmin
      obtain ⟨n, hn⟩ : ∃ n, n = min l1 l2 := ⟨_, rfl⟩
      rw [← hn]
      have n1 : n ≤ l1 := by omega
      have n2 : n ≤ l2 := by omega
      clear hn
      obtain ⟨wA, wB, wC, hA, hB, hC, hI⟩ := start_any L1 n (by omega) w
      generalize hE : w.heap.size = E at hA hB hC hI
      have HE : Hid (w.heap.size = E) := hE
      clear hE
      go_wp2_with fail
      clear hA hB hC
      go_loopw [11] (fun i wr => ∃ k : Nat, k ≤ n ∧ i = .int .i64 k ∧ OfInv L1 E w wr n k) (fun i _ => n - (intOf i).toNat)
      case atStart => exact ⟨0, by omega, rfl, hI⟩
      case round =>
        clear hI
        obtain ⟨k, hk, rfl, hI⟩ := hrel
        by_cases hlt : k < n
        · have hEw := HE.out
          have hbl := hI.below
          rw [← hEw] at hbl
          obtain ⟨b2, o2, hao2, hc2⟩ := (h2.below hbl).2.1 k (by omega)
          have i1 : (k : Int) < (l1 : Int) := by omega
          have i2 : (k : Int) < (l2 : Int) := by omega
          have hen := pend_new (L2.getD k ⟨#[]⟩) ⟨#[97, 98, 111, 114, 116, 101, 100]⟩ false wr
          clear hbl hEw
          generalize L2.getD k ⟨#[]⟩ = t at hc2 hen
          subst hao2
          go_wp2_with fail
          refine hen.mono ?_
          clear hen hc2
          rintro e w1 ⟨rfl, hb1, hs1⟩
          obtain ⟨hsm, hfr, hB2, w3, w4, hp3, hp4, hB3, hI4⟩ := step_any L1 E w wr w1 n k hI hlt (h1.size k) hb1 hs1
          obtain ⟨v0, hv0⟩ := Option.isSome_iff_exists.1 hsm
          have hEw := HE.out
          rw [← hEw] at hB2 hB3
          obtain ⟨b1, o1, hao1, hc1⟩ := (h1.below hB2).2.1 k (by omega)
          have hc3 : w3.cell? ⟨b1, o1 + k, none⟩ = some (.string (L1.getD k ⟨#[]⟩)) := by
            obtain ⟨b', o', hao', hc'⟩ := (h1.below hB3).2.1 k (by omega)
            rw [hao1] at hao'
            cases hao'
            exact hc'
          have hcE : (w1.setCell ⟨w.heap.size, k, none⟩ (ptr wr.heap.size)).cell? ⟨w.heap.size, k, none⟩ = some (ptr wr.heap.size) := by
            rw [← hEw] at hv0
            exact World.cell?_setCell_same w1 _ _ hv0
          rw [hEw] at hcE hc1
          simp only [ptr] at hcE hc1 hp3
          have HI4 : Hid (OfInv L1 E w w4.drew n (k + 1)) := hI4
          clear hsm hB2 hB3 hI4 hI hb1 hs1 hEw h1 h2
          generalize L1.getD k ⟨#[]⟩ = s at hc1 hc3 hp3 hp4
          subst hao1
          go_wp2_with fail
          go_region
          go_wp2
          go_roundw
          case rel => exact ⟨k + 1, by omega, by go_num, HI4.out⟩
          case measure => simp [intOf]; omega
        · have hkn : k = n := by omega
          subst hkn
          obtain ⟨hsz, hbl, ⟨cs, hcs, hcn, hcj⟩, ⟨nl, hl⟩, ⟨nw, hw⟩⟩ := hI
          have hnn : nl = nw := hl.same_size hw inj9 (fun x => by simp [pf])
          subst hnn
          have hE3 : E < wr.heap.size := by omega
          have HS : Hid (E < wr.heap.size ∧ E + 1 < wr.heap.size ∧ E + 2 < wr.heap.size) := ⟨by omega, by omega, by omega⟩
          have HBL : Hid (Below E w wr) := hbl
          have HCJ : Hid (wr.heap[E]? = some (.cells cs 29 (0, 0)) ∧ ∀ j, j < k → cs[j]? = some (ptr (E + 3 + j))) := ⟨hcs, hcj⟩
          have HL : Hid (mp wr Value.string okS ixv (E + 1) (fun x => lastIx L1 x k) nl) := hl
          have HW : Hid (mp wr Value.string okS ptr (E + 2) (pf L1 (E + 3) k) nl) := hw
          have hlen : ∀ ty, (Builtin.len_ #[27] ty #[.map (some (E + 1))]).run Try.prog wr = .ok (.int .i64 nl) wr := fun ty => hl.len Try.underlying27 ty 0
          have hlk := hl.look (P := Try.prog) ky9 Try.underlying27 zero3 true OK3.out 0
          have HH1 : Hid (strs w a1 l1 L1) := h1
          clear hsz hbl hcs hcn hcj hl hw h1 h2 hE3
          cases hix : lastIx L1 s3 k with
          | none =>
            have HO : Hid (pf L1 (E + 3) k s3 = none) := by show pf L1 (E + 3) k s3 = none; unfold pf; rw [hix]; rfl
            have hl0 : (Instr.lookup 27 (.map (some (E + 1))) (.string s3) true).run Try.prog wr = .ok (.tuple #[.int .i64 0, .bool false]) wr := by
              have := hlk
              simp only [hix] at this
              exact this
            clear hlk hix
            have hpn := pends_new (E + 2) wr
            go_wp2_with fail
            refine hpn.mono ?_
            clear hpn
            rintro e w5 ⟨rfl, hp5, hb5⟩
            have hw5 := HW.out.below hb5 HS.out.2.2
            have hof : Calls Try.prog 11 #[.pointer (some ⟨wr.heap.size, 0, none⟩), .string s3] w5 fun e w' => e = .returned (.pointer none) ∧ w' = w5 := by
              have := zzof_any wr.heap.size (E + 2) nl _ s3 w5 hp5 hw5 OK3.out
              rw [HO.out] at this
              exact this
            have hall := zzall_any wr.heap.size (E + 2) nl _ w5 hp5 hw5
            have HP5 : Hid (pends w5 wr.heap.size (E + 2)) := hp5
            have HB5 : Hid (Below wr.heap.size wr w5) := hb5
            clear hp5 hb5 hw5
            go_wp2_with (first
              | (go_at_call 11; refine hof.mono ?_; rintro e w' ⟨rfl, hw'⟩; obtain rfl := hw'.symm; clear hw'))
            refine hall.mono ?_
            clear hall hof
            rintro e w6 ⟨rfl, hw6, hb6⟩
            have HP6 : Hid (pends w6 wr.heap.size (E + 2)) := HP5.out.below hb6 HP5.out.lt
            have hb56 : Below wr.heap.size wr w6 := HB5.out.trans (hb6.mono HB5.out.size)
            have HC6 : Hid (∀ j, j < k → w6.cell? ⟨E, j, none⟩ = some (.pointer (some ⟨E + 3 + j, 0, none⟩))) := fun j hj => (cell_of_row w6 E j cs 29 (0, 0) ((hb56.block E HS.out.1).trans HCJ.out.1)).trans (HCJ.out.2 j hj)
            have HL6 : Hid (mp w6 Value.string okS ixv (E + 1) (fun x => lastIx L1 x k) nl) := HL.out.below hb56 HS.out.2.1
            have HW6 : Hid (mp w6 Value.string okS ptr (E + 2) (pf L1 (E + 3) k) nl) := HW.out.below hb56 HS.out.2.2
            have HA6 : Hid (mp w6 Value.string okS ptr w5.heap.size (pf L1 (E + 3) k) nl) := hw6
            have HN6 : Hid (Below w.heap.size w w6) := by
              show Below w.heap.size w w6
              rw [HE.out]
              exact HBL.out.trans (hb56.mono (Nat.le_of_lt HS.out.1))
            have hlkA : (Instr.lookup 28 (.map (some w5.heap.size)) (.string s3) false).run Try.prog w6 = .ok (.pointer none) w6 := by
              have := hw6.look (P := Try.prog) ky9 Try.underlying28 zero29 false OK3.out 0
              rw [HO.out] at this
              exact this
            have hlenA : ∀ ty, (Builtin.len_ #[28] ty #[.map (some w5.heap.size)]).run Try.prog w6 = .ok (.int .i64 nl) w6 := fun ty => hw6.len Try.underlying28 ty 0
            have hneq : ∀ w : World, (binOp .neq 29 (.pointer none) (.pointer none)).run Try.prog w = .ok (.bool false) w := fun w => ptr_neq (none) w
            clear hw6 hb6 hb56 HL HW HP5 HB5 HCJ
            generalize w5.heap.size = m6 at *
            generalize wr.heap.size = q at *
            go_wp2_with fail
            clear hlkA
            go_loopw [20] (fun i w7 => ∃ j : Nat, j ≤ k ∧ i = .int .i64 j ∧ w7 = w6) (fun i _ => k - (intOf i).toNat)
            case atStart => exact ⟨0, by omega, rfl, rfl⟩
            case round =>
              obtain ⟨j, hj, rfl, hw7⟩ := hrel
              obtain rfl := hw7.symm
              clear hw7
              by_cases hjk : j < k
              · obtain ⟨i', hi', hlt'⟩ := lastIx_some L1 j k hjk
                obtain ⟨b1, o1, hao1, hc1⟩ := (HH1.out.below HN6.out).2.1 j (by omega)
                have hok : okS (L1.getD j ⟨#[]⟩) := HH1.out.size j
                have ho' : pf L1 (E + 3) k (L1.getD j ⟨#[]⟩) = some (E + 3 + i') := by unfold pf; rw [hi']; rfl
                have hlk3 : (Instr.lookup 27 (.map (some (E + 1))) (.string (L1.getD j ⟨#[]⟩)) false).run Try.prog w6 = .ok (.int .i64 i') w6 := by
                  have := HL6.out.look (P := Try.prog) ky9 Try.underlying27 zero3 false hok 0
                  simp only [hi'] at this
                  exact this
                have hci' := HC6.out i' hlt'
                have hof6 : Calls Try.prog 11 #[.pointer (some ⟨q, 0, none⟩), .string (L1.getD j ⟨#[]⟩)] w6 fun e w' => e = .returned (.pointer (some ⟨E + 3 + i', 0, none⟩)) ∧ w' = w6 := by
                  have := zzof_any q (E + 2) nl _ _ w6 HP6.out HW6.out hok
                  rw [ho'] at this
                  exact this
                have hlkA' : (Instr.lookup 28 (.map (some m6)) (.string (L1.getD j ⟨#[]⟩)) false).run Try.prog w6 = .ok (.pointer (some ⟨E + 3 + i', 0, none⟩)) w6 := by
                  have := HA6.out.look (P := Try.prog) ky9 Try.underlying28 zero29 false hok 0
                  rw [ho'] at this
                  exact this
                have hneq' : ∀ w : World, (binOp .neq 29 (.pointer (some ⟨E + 3 + i', 0, none⟩)) (.pointer (some ⟨E + 3 + i', 0, none⟩))).run Try.prog w = .ok (.bool false) w := fun w => ptr_neq (some (E + 3 + i')) w
                have j1 : (j : Int) < (l1 : Int) := by omega
                have ji : (i' : Int) < (k : Int) := by omega
                clear ho' hi' hok
                generalize L1.getD j ⟨#[]⟩ = s at hc1 hlk3 hof6 hlkA'
                clear HH1
                subst hao1
                go_wp2_with (first
                  | (go_at_call 11; refine hof6.mono ?_; rintro e w' ⟨rfl, hw'⟩; obtain rfl := hw'.symm; clear hw'))
                go_roundw
                case rel => exact ⟨j + 1, by omega, by go_num, trivial⟩
                case measure => simp [intOf]; omega
              · have hof6 : Calls Try.prog 11 #[.pointer (some ⟨q, 0, none⟩), .string s3] w6 fun e w' => e = .returned (.pointer none) ∧ w' = w6 := by
                  have := zzof_any q (E + 2) nl _ s3 w6 HP6.out HW6.out OK3.out
                  rw [HO.out] at this
                  exact this
                have hlenW : ∀ ty, (Builtin.len_ #[28] ty #[.map (some (E + 2))]).run Try.prog w6 = .ok (.int .i64 nl) w6 := fun ty => HW6.out.len Try.underlying28 ty 0
                have heq : ∀ w : World, (binOp .eql 29 (.pointer none) (.pointer none)).run Try.prog w = .ok (.bool true) w := fun w => ptr_eq (none) w
                go_wp2_with (first
                  | (go_at_call 11; refine hof6.mono ?_; rintro e w' ⟨rfl, hw'⟩; obtain rfl := hw'.symm; clear hw'))
                go_ret
                exact ⟨rfl, HN6.out⟩
          | some i =>
            have HO : Hid (pf L1 (E + 3) k s3 = some (E + 3 + i)) := by show pf L1 (E + 3) k s3 = some (E + 3 + i); unfold pf; rw [hix]; rfl
            have hik := lastIx_lt hix
            have hl0 : (Instr.lookup 27 (.map (some (E + 1))) (.string s3) true).run Try.prog wr = .ok (.tuple #[.int .i64 i, .bool true]) wr := by
              have := hlk
              simp only [hix] at this
              exact this
            have hci : wr.cell? ⟨E, i, none⟩ = some (.pointer (some ⟨E + 3 + i, 0, none⟩)) := (cell_of_row wr E i cs 29 (0, 0) HCJ.out.1).trans (HCJ.out.2 i hik)
            have ii : (i : Int) < (k : Int) := by omega
            clear hlk hix
            have hpn := pends_new (E + 2) wr
            go_wp2_with fail
            refine hpn.mono ?_
            clear hpn
            rintro e w5 ⟨rfl, hp5, hb5⟩
            have hw5 := HW.out.below hb5 HS.out.2.2
            have hof : Calls Try.prog 11 #[.pointer (some ⟨wr.heap.size, 0, none⟩), .string s3] w5 fun e w' => e = .returned (.pointer (some ⟨E + 3 + i, 0, none⟩)) ∧ w' = w5 := by
              have := zzof_any wr.heap.size (E + 2) nl _ s3 w5 hp5 hw5 OK3.out
              rw [HO.out] at this
              exact this
            have hall := zzall_any wr.heap.size (E + 2) nl _ w5 hp5 hw5
            have HP5 : Hid (pends w5 wr.heap.size (E + 2)) := hp5
            have HB5 : Hid (Below wr.heap.size wr w5) := hb5
            clear hp5 hb5 hw5
            go_wp2_with (first
              | (go_at_call 11; refine hof.mono ?_; rintro e w' ⟨rfl, hw'⟩; obtain rfl := hw'.symm; clear hw'))
            refine hall.mono ?_
            clear hall hof
            rintro e w6 ⟨rfl, hw6, hb6⟩
            have HP6 : Hid (pends w6 wr.heap.size (E + 2)) := HP5.out.below hb6 HP5.out.lt
            have hb56 : Below wr.heap.size wr w6 := HB5.out.trans (hb6.mono HB5.out.size)
            have HC6 : Hid (∀ j, j < k → w6.cell? ⟨E, j, none⟩ = some (.pointer (some ⟨E + 3 + j, 0, none⟩))) := fun j hj => (cell_of_row w6 E j cs 29 (0, 0) ((hb56.block E HS.out.1).trans HCJ.out.1)).trans (HCJ.out.2 j hj)
            have HL6 : Hid (mp w6 Value.string okS ixv (E + 1) (fun x => lastIx L1 x k) nl) := HL.out.below hb56 HS.out.2.1
            have HW6 : Hid (mp w6 Value.string okS ptr (E + 2) (pf L1 (E + 3) k) nl) := HW.out.below hb56 HS.out.2.2
            have HA6 : Hid (mp w6 Value.string okS ptr w5.heap.size (pf L1 (E + 3) k) nl) := hw6
            have HN6 : Hid (Below w.heap.size w w6) := by
              show Below w.heap.size w w6
              rw [HE.out]
              exact HBL.out.trans (hb56.mono (Nat.le_of_lt HS.out.1))
            have hlkA : (Instr.lookup 28 (.map (some w5.heap.size)) (.string s3) false).run Try.prog w6 = .ok (.pointer (some ⟨E + 3 + i, 0, none⟩)) w6 := by
              have := hw6.look (P := Try.prog) ky9 Try.underlying28 zero29 false OK3.out 0
              rw [HO.out] at this
              exact this
            have hlenA : ∀ ty, (Builtin.len_ #[28] ty #[.map (some w5.heap.size)]).run Try.prog w6 = .ok (.int .i64 nl) w6 := fun ty => hw6.len Try.underlying28 ty 0
            have hneq : ∀ w : World, (binOp .neq 29 (.pointer (some ⟨E + 3 + i, 0, none⟩)) (.pointer (some ⟨E + 3 + i, 0, none⟩))).run Try.prog w = .ok (.bool false) w := fun w => ptr_neq (some (E + 3 + i)) w
            clear hw6 hb6 hb56 HL HW HP5 HB5 HCJ
            generalize w5.heap.size = m6 at *
            generalize wr.heap.size = q at *
            go_wp2_with fail
            clear hlkA
            go_loopw [20] (fun i w7 => ∃ j : Nat, j ≤ k ∧ i = .int .i64 j ∧ w7 = w6) (fun i _ => k - (intOf i).toNat)
            case atStart => exact ⟨0, by omega, rfl, rfl⟩
            case round =>
              obtain ⟨j, hj, rfl, hw7⟩ := hrel
              obtain rfl := hw7.symm
              clear hw7
              by_cases hjk : j < k
              · obtain ⟨i', hi', hlt'⟩ := lastIx_some L1 j k hjk
                obtain ⟨b1, o1, hao1, hc1⟩ := (HH1.out.below HN6.out).2.1 j (by omega)
                have hok : okS (L1.getD j ⟨#[]⟩) := HH1.out.size j
                have ho' : pf L1 (E + 3) k (L1.getD j ⟨#[]⟩) = some (E + 3 + i') := by unfold pf; rw [hi']; rfl
                have hlk3 : (Instr.lookup 27 (.map (some (E + 1))) (.string (L1.getD j ⟨#[]⟩)) false).run Try.prog w6 = .ok (.int .i64 i') w6 := by
                  have := HL6.out.look (P := Try.prog) ky9 Try.underlying27 zero3 false hok 0
                  simp only [hi'] at this
                  exact this
                have hci' := HC6.out i' hlt'
                have hof6 : Calls Try.prog 11 #[.pointer (some ⟨q, 0, none⟩), .string (L1.getD j ⟨#[]⟩)] w6 fun e w' => e = .returned (.pointer (some ⟨E + 3 + i', 0, none⟩)) ∧ w' = w6 := by
                  have := zzof_any q (E + 2) nl _ _ w6 HP6.out HW6.out hok
                  rw [ho'] at this
                  exact this
                have hlkA' : (Instr.lookup 28 (.map (some m6)) (.string (L1.getD j ⟨#[]⟩)) false).run Try.prog w6 = .ok (.pointer (some ⟨E + 3 + i', 0, none⟩)) w6 := by
                  have := HA6.out.look (P := Try.prog) ky9 Try.underlying28 zero29 false hok 0
                  rw [ho'] at this
                  exact this
                have hneq' : ∀ w : World, (binOp .neq 29 (.pointer (some ⟨E + 3 + i', 0, none⟩)) (.pointer (some ⟨E + 3 + i', 0, none⟩))).run Try.prog w = .ok (.bool false) w := fun w => ptr_neq (some (E + 3 + i')) w
                have j1 : (j : Int) < (l1 : Int) := by omega
                have ji : (i' : Int) < (k : Int) := by omega
                clear ho' hi' hok
                generalize L1.getD j ⟨#[]⟩ = s at hc1 hlk3 hof6 hlkA'
                clear HH1
                subst hao1
                go_wp2_with (first
                  | (go_at_call 11; refine hof6.mono ?_; rintro e w' ⟨rfl, hw'⟩; obtain rfl := hw'.symm; clear hw'))
                go_roundw
                case rel => exact ⟨j + 1, by omega, by go_num, trivial⟩
                case measure => simp [intOf]; omega
              · have hof6 : Calls Try.prog 11 #[.pointer (some ⟨q, 0, none⟩), .string s3] w6 fun e w' => e = .returned (.pointer (some ⟨E + 3 + i, 0, none⟩)) ∧ w' = w6 := by
                  have := zzof_any q (E + 2) nl _ s3 w6 HP6.out HW6.out OK3.out
                  rw [HO.out] at this
                  exact this
                have hlenW : ∀ ty, (Builtin.len_ #[28] ty #[.map (some (E + 2))]).run Try.prog w6 = .ok (.int .i64 nl) w6 := fun ty => HW6.out.len Try.underlying28 ty 0
                have heq : ∀ w : World, (binOp .eql 29 (.pointer (some ⟨E + 3 + i, 0, none⟩)) (.pointer (some ⟨E + 3 + i, 0, none⟩))).run Try.prog w = .ok (.bool true) w := fun w => ptr_eq (some (E + 3 + i)) w
                go_wp2_with (first
                  | (go_at_call 11; refine hof6.mono ?_; rintro e w' ⟨rfl, hw'⟩; obtain rfl := hw'.symm; clear hw'))
                go_ret
                exact ⟨rfl, HN6.out⟩
    · go_wp2_with fail
      all_goals first | (go_ret; exact ⟨rfl, Below.refl _ _⟩) | skip

end Go.Proofs.Qxb6603485a
