/- FnFinishTwiceIsFinishOnce: the walk. -/
import Derived.Test.Qxb6603485aLeaves
import Derived.BigRegion
namespace Go.Proofs.Qxb6603485a
open Go.RowKit

theorem stateOf_idem (o : Option (ByteArray × ByteArray)) (s : ByteArray) : stateOf o (stateOf o s) = stateOf o s := by cases o <;> rfl
theorem stampOf_idem (o : Option (ByteArray × ByteArray)) (s : ByteArray) : stampOf o (stampOf o s) = stampOf o s := by
  cases o with
  | none => rfl
  | some p =>
    simp only [stampOf]
    cases p.2.toList.isEmpty <;> rfl
theorem triesOf_idem (o : Option (ByteArray × ByteArray)) (rs : Bool) (n : Int) : triesOf o rs (triesOf o rs n) = triesOf o rs n := by cases o <;> cases rs <;> rfl

set_option maxHeartbeats 4000000 in
set_option maxRecDepth 100000 in
theorem twice_any (a1 : Option Addr) (l1 c1 : Nat) (L1 : List ByteArray) (a2 : Option Addr) (l2 c2 : Nat) (L2 : List ByteArray) (a3 : Option Addr) (l3 c3 : Nat) (L3 : List ByteArray) (rs : Bool) (s4 s5 s6 s7 s8 s11 : ByteArray) (i9 i10 : Int) (w : World)
    (h1 : strs w a1 l1 L1) (h2 : strs w a2 l2 L2) (h3 : strs w a3 l3 L3) (hm1 : l1 ≤ maxLen) (hm2 : l2 ≤ maxLen) (hm3 : l3 ≤ maxLen) (ok4 : okS s4) :
    Calls Try.prog 5 #[.slice a1 l1 c1, .slice a2 l2 c2, .slice a3 l3 c3, .bool rs, .string s4, .string s5, .string s6, .string s7, .string s8, .int .i64 i9, .int .i64 i10, .string s11] w fun e w' => e = .returned (.bool true) ∧ Below w.heap.size w w' := by
  have hz := zz18_any a1 l1 c1 L1 a2 l2 c2 L2 a3 l3 c3 L3 rs s4 s5 s6 s7 s8 s11 i9 i10 w h1 h2 h3
  have hb1 := bytes_any a1 l1 c1 L1 w h1 hm1
  have hb2 := bytes_any a2 l2 c2 L2 w h2 hm2
  have hb3 := bytes_any a3 l3 c3 L3 w h3 hm3
  have HB1 : Hid (Calls Try.prog 7 #[.slice a1 l1 c1] w (IntPost w)) := hb1
  have HB2 : Hid (Calls Try.prog 7 #[.slice a2 l2 c2] w (IntPost w)) := hb2
  have HB3 : Hid (Calls Try.prog 7 #[.slice a3 l3 c3] w (IntPost w)) := hb3
  clear hb1 hb2 hb3
  go_enter Try.func5, Try.ntmps5
  go_wp2_with fail
  refine hz.mono ?_
  clear hz
  rintro e w' ⟨⟨bb, rfl⟩, hw⟩
  obtain rfl := hw.symm
  clear hw
  cases bb
  · go_wp2_with fail
    go_ret
    exact ⟨rfl, Below.refl _ _⟩
  · by_cases k1 : l1 ≤ 65536 ∧ l2 ≤ 65536 ∧ l3 ≤ 65536
    · obtain ⟨k1, k2, k3⟩ := k1
      go_wp2_with fail
      all_goals first | (go_ret; exact ⟨rfl, Below.refl _ _⟩) | skip
      refine HB1.out.mono ?_
      rintro e w' ⟨⟨t1, rfl⟩, hw⟩
      obtain rfl := hw.symm
      clear hw
      go_wp2_with fail
      refine HB2.out.mono ?_
      rintro e w' ⟨⟨t2, rfl⟩, hw⟩
      obtain rfl := hw.symm
      clear hw
      go_wp2_with fail
      refine HB3.out.mono ?_
      rintro e w' ⟨⟨t3, rfl⟩, hw⟩
      obtain rfl := hw.symm
      clear hw HB1 HB2 HB3
      have hmin2 := min_any l2 l3 w
      have hmin1 := min_any l1 (min l2 l3) w
      go_wp2_with fail
      all_goals first | (go_ret; exact ⟨rfl, Below.refl _ _⟩) | skip
      refine hmin2.mono ?_
      rintro e w' ⟨rfl, hw⟩
      obtain rfl := hw.symm
      clear hw hmin2
      go_wp2_with fail
      refine hmin1.mono ?_
      rintro e w' ⟨rfl, hw⟩
      obtain rfl := hw.symm
      clear hw hmin1
      obtain ⟨n, hn⟩ : ∃ n, n = min l1 (min l2 l3) := ⟨_, rfl⟩
      rw [← hn]
      have n1 : n ≤ l1 := by omega
      have n2 : n ≤ l2 := by omega
      have n3 : n ≤ l3 := by omega
      clear hn
      have hmk := run_makeMap_some (P := Try.prog) Try.underlying37 .i64 (n : Int)
      go_wp2_with fail
      clear hmk
      go_loopw [27] (fun i wr => ∃ (k fn : Nat), k ≤ n ∧ i = .int .i64 k ∧ mp wr Value.string okS finv w.heap.size (ffTo L1 L2 L3 k) fn ∧ Below w.heap.size w wr) (fun i _ => n - (intOf i).toNat)
      case atStart => exact ⟨0, 0, by omega, rfl, mp_made _ _ _ _, (Below.refl _ _).alloc (Nat.le_refl _) _⟩
      case round =>
        obtain ⟨k, fn, hk, rfl, hmf, hnx⟩ := hrel
        by_cases hlt : k < n
        · obtain ⟨b1, o1, hao1, hc1⟩ := (h1.below hnx).2.1 k (by omega)
          obtain ⟨b2, o2, hao2, hc2⟩ := (h2.below hnx).2.1 k (by omega)
          obtain ⟨b3, o3, hao3, hc3⟩ := (h3.below hnx).2.1 k (by omega)
          have hsz := h1.size k
          have i1 : (k : Int) < (l1 : Int) := by omega
          have i2 : (k : Int) < (l2 : Int) := by omega
          have i3 : (k : Int) < (l3 : Int) := by omega
          obtain ⟨w3, hput, hm3, hg3, hs3⟩ := hmf.put (P := Try.prog) ky9 Try.underlying37 hsz (L2.getD k ⟨#[]⟩, L3.getD k ⟨#[]⟩)
          rw [ffTo_step] at hm3
          have hputd : (Instr.mapUpdate 37 (.map (some w.heap.size)) (.string (L1.getD k ⟨#[]⟩)) (.agg #[.string (L2.getD k ⟨#[]⟩), .string (L3.getD k ⟨#[]⟩)])).run Try.prog wr.drew = .ok () w3.drew := hput 1
          have hnx3 : Below w.heap.size w w3 := hnx.grown hg3 hnx.size (fun j hj => by cases hj; exact Nat.le_refl _)
          have HM : Hid (∃ fn, mp w3 Value.string okS finv w.heap.size (ffTo L1 L2 L3 (k + 1)) fn) := ⟨_, hm3⟩
          clear hput hm3 hg3 hs3 hsz hmf hnx
          generalize L1.getD k ⟨#[]⟩ = s at hc1 hputd
          generalize L2.getD k ⟨#[]⟩ = t at hc2 hputd
          generalize L3.getD k ⟨#[]⟩ = u at hc3 hputd
          clear h1 h2 h3
          subst hao1
          subst hao2
          subst hao3
          go_wp2_with fail
          go_region
          go_wp2
          go_roundw
          case rel =>
            obtain ⟨fn', hm'⟩ := HM.out
            exact ⟨k + 1, fn', by omega, by go_num, hm', hnx3.drew⟩
          case measure => simp [intOf]; omega
        · have hkn : k = n := by omega
          subst hkn
          have hen := end_new ⟨#[97, 98, 111, 114, 116, 105, 110, 103]⟩ ⟨#[97, 98, 111, 114, 116, 101, 100]⟩ w.heap.size rs wr
          go_wp2_with fail
          refine hen.mono ?_
          clear hen
          rintro e w2 ⟨rfl, hE2, hb2⟩
          have hnw := new_any s4 s5 s6 s7 s8 i9 i10 s11 w2
          go_wp2_with fail
          refine hnw.mono ?_
          clear hnw
          rintro e w3 ⟨b, bm, bs, c, rfl, hbb, hbm, hbs, hB3, hb3⟩
          have hr2 : wr.heap.size < w2.heap.size := (Array.getElem?_eq_some_iff.1 hE2).1
          have hE3 := (hb3.block wr.heap.size hr2).trans hE2
          have hmf3 := (hmf.below hb2 hmf.lt).below hb3 (Nat.lt_of_lt_of_le hmf.lt hb2.size)
          have hn3 : Below w.heap.size w w3 := (hnx.trans (hb2.mono hnx.size)).trans (hb3.mono (Nat.le_trans hnx.size hb2.size))
          have hwb : w.heap.size ≤ b := by have := hnx.size; omega
          have hws : wr.heap.size < b ∧ w.heap.size < b ∧ wr.heap.size < bm ∧ wr.heap.size < bs := by have := hnx.size; omega
          clear hE2 hmf hb2 hb3 hnx hbb hbm hbs hr2
          have hnw := new_any s4 s5 s6 s7 s8 i9 i10 s11 w3
          go_wp2_with fail
          refine hnw.mono ?_
          clear hnw
          rintro e w4 ⟨d, dm, ds, c', rfl, hbd, hdm, hds, hD4, hb4⟩
          have hB4 : Br w4 b bm bs c s4 s5 s6 s7 s8 i9 i10 s11 := hB3.at (hb4.block b hB3.lt) (hb4.block bm hB3.ends.lt) (hb4.block bs hB3.slt) hb4.size
          have hE4 := (hb4.block wr.heap.size (Nat.lt_trans hws.1 hB3.lt)).trans hE3
          have hmf4 := hmf3.below hb4 hmf3.lt
          have hn4 : Below w.heap.size w w4 := hn3.trans (hb4.mono hn3.size)
          have hbne : b ≠ d ∧ b ≠ dm ∧ b ≠ ds ∧ bm ≠ d ∧ bs ≠ d := by have := hB3.lt; have := hB3.ends.lt; have := hB3.slt; omega
          have hwd : w.heap.size ≤ d ∧ wr.heap.size < d ∧ w.heap.size < d := by have := hB3.lt; omega
          clear hE3 hmf3 hB3 hb4 hn3 hbd hdm hds
          have hfi := zzfinish_any wr.heap.size b bm bs c w.heap.size fn _ _ s4 s5 s6 s7 s8 rs i9 i10 s11 (ffTo L1 L2 L3 k) w4 hE4 hmf4 hB4 ok4
          go_wp2_with fail
          refine hfi.mono ?_
          clear hfi hB4
          rintro e w5 ⟨rfl, hB5, hg5⟩
          have hE5 := (hg5.block wr.heap.size (Array.getElem?_eq_some_iff.1 hE4).1 (fun e => by have := Option.some.inj e; omega)).trans hE4
          have hmf5 := hmf4.kept hg5 (fun e => by have := Option.some.inj e; omega)
          have hD5 : Br w5 d dm ds c' s4 s5 s6 s7 s8 i9 i10 s11 := hD4.at (hg5.block d hD4.lt (fun e => by have := Option.some.inj e; omega)) (hg5.block dm hD4.ends.lt (fun e => by have := Option.some.inj e; omega)) (hg5.block ds hD4.slt (fun e => by have := Option.some.inj e; omega)) hg5.size
          have hn5 : Below w.heap.size w w5 := hn4.grown hg5 hn4.size (fun j hj => by cases hj; exact hwb)
          clear hE4 hmf4 hD4 hg5 hn4
          have hfi := zzfinish_any wr.heap.size d dm ds c' w.heap.size fn _ _ s4 s5 s6 s7 s8 rs i9 i10 s11 (ffTo L1 L2 L3 k) w5 hE5 hmf5 hD5 ok4
          go_wp2_with fail
          refine hfi.mono ?_
          clear hfi hD5
          rintro e w6 ⟨rfl, hD6, hg6⟩
          have hE6 := (hg6.block wr.heap.size (Array.getElem?_eq_some_iff.1 hE5).1 (fun e => by have := Option.some.inj e; omega)).trans hE5
          have hmf6 := hmf5.kept hg6 (fun e => by have := Option.some.inj e; omega)
          have hB6 := hB5.at (hg6.block b hB5.lt (fun e => by have := Option.some.inj e; omega)) (hg6.block bm hB5.ends.lt (fun e => by have := Option.some.inj e; omega)) (hg6.block bs hB5.slt (fun e => by have := Option.some.inj e; omega)) hg6.size
          have hn6 : Below w.heap.size w w6 := hn5.grown hg6 hn5.size (fun j hj => by cases hj; exact hwd.1)
          clear hE5 hmf5 hB5 hg6 hn5
          have hfi := zzfinish_any wr.heap.size d dm ds c' w.heap.size fn _ _ s4 s5 s6 _ _ rs _ i10 s11 (ffTo L1 L2 L3 k) w6 hE6 hmf6 hD6 ok4
          rw [stateOf_idem, stampOf_idem, triesOf_idem] at hfi
          go_wp2_with fail
          refine hfi.mono ?_
          clear hfi hD6
          rintro e w7 ⟨rfl, hD7, hg7⟩
          have hB7 := hB6.at (hg7.block b hB6.lt (fun e => by have := Option.some.inj e; omega)) (hg7.block bm hB6.ends.lt (fun e => by have := Option.some.inj e; omega)) (hg7.block bs hB6.slt (fun e => by have := Option.some.inj e; omega)) hg7.size
          have hn7 : Below w.heap.size w w7 := hn6.grown hg7 hn6.size (fun j hj => by cases hj; exact hwd.1)
          clear hE6 hmf6 hB6 hg7 hn6
          generalize hsv : stateOf (ffTo L1 L2 L3 k s4) s7 = sv at hB7 hD7
          generalize htv : stampOf (ffTo L1 L2 L3 k s4) s8 = tv at hB7 hD7
          generalize hiv : triesOf (ffTo L1 L2 L3 k s4) rs i9 = iv at hB7 hD7
          have HV : Hid (stateOf (ffTo L1 L2 L3 k s4) s7 = sv ∧ stampOf (ffTo L1 L2 L3 k s4) s8 = tv ∧ triesOf (ffTo L1 L2 L3 k s4) rs i9 = iv) := ⟨hsv, htv, hiv⟩
          clear hsv htv hiv
          have HU : Hid (∀ q, Calls Try.prog 17 #[.pointer (some ⟨b, 0, none⟩), .string s4, .string s5, .string s6, .int .i64 i10, .string s11] (w7.drewN q) fun e w' => e = .returned (.bool true) ∧ w' = w7.drewN q) := fun q => unt_any b bm bs c s4 s5 s6 sv tv iv i10 s11 (w7.drewN q) (hB7.at rfl rfl rfl (Nat.le_refl _))
          have HW : Hid (∀ q, Calls Try.prog 17 #[.pointer (some ⟨d, 0, none⟩), .string s4, .string s5, .string s6, .int .i64 i10, .string s11] (w7.drewN q) fun e w' => e = .returned (.bool true) ∧ w' = w7.drewN q) := fun q => unt_any d dm ds c' s4 s5 s6 sv tv iv i10 s11 (w7.drewN q) (hD7.at rfl rfl rfl (Nat.le_refl _))
          have HLA : Hid (∀ q, Calls Try.prog 16 #[.slice a1 l1 c1, .int .i64 k, .string s4] (w7.drewN q) fun e w' => e = .returned (.int .i64 (ixInt (lastIx L1 s4 k))) ∧ w' = w7.drewN q) := fun q => last_any a1 l1 c1 k L1 s4 (w7.drewN q) ((h1.below hn7).at fun _ _ h => h) k1 n1
          have H2 : Hid (strs w a2 l2 L2) := h2
          have H3 : Hid (strs w a3 l3 L3) := h3
          clear h1 h2 h3
          have b0 : w7.cell? ⟨b, 0, none⟩ = some (.string s4) := cell_of_row w7 b 0 _ 55 (0, 0) hB7.cells
          have b1 : w7.cell? ⟨b, 1, none⟩ = some (.string s5) := cell_of_row w7 b 1 _ 55 (0, 0) hB7.cells
          have b2 : w7.cell? ⟨b, 2, none⟩ = some (.string s6) := cell_of_row w7 b 2 _ 55 (0, 0) hB7.cells
          have b3 : w7.cell? ⟨b, 3, none⟩ = some (.string sv) := cell_of_row w7 b 3 _ 55 (0, 0) hB7.cells
          have b4 : w7.cell? ⟨b, 4, none⟩ = some (.string tv) := cell_of_row w7 b 4 _ 55 (0, 0) hB7.cells
          have b7 : w7.cell? ⟨b, 7, none⟩ = some (.int .i64 iv) := cell_of_row w7 b 7 _ 55 (0, 0) hB7.cells
          have b8 : w7.cell? ⟨b, 8, none⟩ = some (.int .u64 0) := cell_of_row w7 b 8 _ 55 (0, 0) hB7.cells
          have b9 : w7.cell? ⟨b, 9, none⟩ = some (.int .i64 0) := cell_of_row w7 b 9 _ 55 (0, 0) hB7.cells
          have b10 : w7.cell? ⟨b, 10, none⟩ = some (.pointer none) := cell_of_row w7 b 10 _ 55 (0, 0) hB7.cells
          have b11 : w7.cell? ⟨b, 11, none⟩ = some (.int .i64 i10) := cell_of_row w7 b 11 _ 55 (0, 0) hB7.cells
          have b12 : w7.cell? ⟨b, 12, none⟩ = some (.string s11) := cell_of_row w7 b 12 _ 55 (0, 0) hB7.cells
          have d0 : w7.cell? ⟨d, 0, none⟩ = some (.string s4) := cell_of_row w7 d 0 _ 55 (0, 0) hD7.cells
          have d1 : w7.cell? ⟨d, 1, none⟩ = some (.string s5) := cell_of_row w7 d 1 _ 55 (0, 0) hD7.cells
          have d2 : w7.cell? ⟨d, 2, none⟩ = some (.string s6) := cell_of_row w7 d 2 _ 55 (0, 0) hD7.cells
          have d3 : w7.cell? ⟨d, 3, none⟩ = some (.string sv) := cell_of_row w7 d 3 _ 55 (0, 0) hD7.cells
          have d4 : w7.cell? ⟨d, 4, none⟩ = some (.string tv) := cell_of_row w7 d 4 _ 55 (0, 0) hD7.cells
          have d7 : w7.cell? ⟨d, 7, none⟩ = some (.int .i64 iv) := cell_of_row w7 d 7 _ 55 (0, 0) hD7.cells
          have d8 : w7.cell? ⟨d, 8, none⟩ = some (.int .u64 0) := cell_of_row w7 d 8 _ 55 (0, 0) hD7.cells
          have d9 : w7.cell? ⟨d, 9, none⟩ = some (.int .i64 0) := cell_of_row w7 d 9 _ 55 (0, 0) hD7.cells
          have d10 : w7.cell? ⟨d, 10, none⟩ = some (.pointer none) := cell_of_row w7 d 10 _ 55 (0, 0) hD7.cells
          have d11 : w7.cell? ⟨d, 11, none⟩ = some (.int .i64 i10) := cell_of_row w7 d 11 _ 55 (0, 0) hD7.cells
          have d12 : w7.cell? ⟨d, 12, none⟩ = some (.string s11) := cell_of_row w7 d 12 _ 55 (0, 0) hD7.cells
          have hp := fun w : World => ptr_nil 9997 w
          clear hB7 hD7 hbne hwd hws hwb
          go_wp2_with fail
          go_quiet (fail)
          go_wp2_with fail
          refine (HU.out nq).mono ?_
          rintro e w' ⟨rfl, hw⟩
          obtain rfl := hw.symm
          clear hw
          go_wp2_with fail
          refine (HW.out nq).mono ?_
          rintro e w' ⟨rfl, hw⟩
          obtain rfl := hw.symm
          clear hw
          go_wp2_with fail
          refine (HLA.out nq).mono ?_
          rintro e w' ⟨rfl, hw⟩
          obtain rfl := hw.symm
          clear hw HU HW HLA b0 b1 b2 b8 b9 b10 b11 b12 d0 d1 d2 d3 d4 d7 d8 d9 d10 d11 d12 hp
          have hn8 : Below w.heap.size w (w7.drewN nq) := below_drewN hn7 nq
          cases hix : lastIx L1 s4 k with
          | none =>
            have hff : ffTo L1 L2 L3 k s4 = none := by unfold ffTo; rw [hix]; rfl
            obtain ⟨v1, v2, v3⟩ := HV.out
            rw [hff] at v1 v2 v3
            simp only [stateOf, stampOf, triesOf] at v1 v2 v3
            subst v1
            subst v2
            simp only [ixInt]
            clear HV hff hix H2 H3 hn7
            cases rs
            · simp only [Bool.false_eq_true, if_false] at v3
              subst v3
              go_wp2_with fail
              go_ret
              exact ⟨rfl, hn8⟩
            · simp only [if_true] at v3
              subst v3
              go_wp2_with fail
              go_ret
              exact ⟨rfl, hn8⟩
          | some i =>
            have hik := lastIx_lt hix
            have hff : ffTo L1 L2 L3 k s4 = some (L2.getD i ⟨#[]⟩, L3.getD i ⟨#[]⟩) := by unfold ffTo; rw [hix]; rfl
            obtain ⟨v1, v2, v3⟩ := HV.out
            rw [hff] at v1 v2 v3
            simp only [stateOf, stampOf, triesOf] at v1 v2 v3
            obtain ⟨e2, o2, hao2, hc2⟩ := (H2.out.below hn7).2.1 i (by omega)
            obtain ⟨e3, o3, hao3, hc3⟩ := (H3.out.below hn7).2.1 i (by omega)
            have i2 : (i : Int) < (l2 : Int) := by omega
            have i3 : (i : Int) < (l3 : Int) := by omega
            generalize L2.getD i ⟨#[]⟩ = t at v1 v2 v3 hc2 hff
            generalize L3.getD i ⟨#[]⟩ = u at v1 v2 v3 hc3 hff
            clear HV hff hix H2 H3 hn7
            subst hao2
            subst hao3
            subst v1
            subst v3
            simp only [ixInt]
            cases hu : u.toList.isEmpty
            · rw [hu] at v2
              simp only [Bool.false_eq_true, if_false] at v2
              subst v2
              go_wp2_with fail
              go_quiet (fail)
              go_wp2_with fail
              go_ret
              exact ⟨rfl, below_drewN hn8 _⟩
            · rw [hu] at v2
              simp only [if_true] at v2
              subst v2
              go_wp2_with fail
              go_quiet (fail)
              go_wp2_with fail
              go_ret
              exact ⟨rfl, below_drewN hn8 _⟩
    · go_wp2_with fail
      all_goals first | (go_ret; exact ⟨rfl, Below.refl _ _⟩) | skip

end Go.Proofs.Qxb6603485a
