/- FnByKeywordSpec: the walk. -/
import Derived.Test.Qxb6602946aReasons
import Derived.Test.Qxb6602946aPair
import Derived.Test.Qxb6602946aRegroup
import Derived.Deep.RegionWith
namespace Go.Proofs.Qxb6602946a
open Go.RowKit

theorem below_of_drew {w w' : World} (h : Below w.drew.heap.size w.drew w') : Below w.heap.size w w' := ⟨h.os, h.tape, h.output, h.size, h.block⟩

/-- The map of clones so far. -/
structure Cp (w : World) (Bc : Nat) (G : ByteArray → List ByteArray) (M : List ByteArray) (cf : ByteArray → Option Sl) (cn : Nat) : Prop where
  m : mp w Value.string okS slv Bc cf cn
  dom : ∀ x, (cf x).isSome = true ↔ x ∈ M
  s : ∀ x sl, cf x = some sl → strs w sl.a sl.l (G x) ∧ sl.l ≤ 65536

theorem Cp.below {w w' : World} {Bc cn : Nat} {G : ByteArray → List ByteArray} {M : List ByteArray} {cf : ByteArray → Option Sl} (h : Cp w Bc G M cf cn) (hb : Below w.heap.size w w') : Cp w' Bc G M cf cn :=
  ⟨h.m.below hb h.m.lt, h.dom, fun x sl hx => ⟨(h.s x sl hx).1.below hb, (h.s x sl hx).2⟩⟩

theorem Cp.kept_map {κ α : Type} {emb : κ → Value} {good : κ → Prop} {vemb : α → Value} {w w' : World} {Bc cn b n : Nat} {G : ByteArray → List ByteArray} {M : List ByteArray} {cf : ByteArray → Option Sl} {f : κ → Option α}
    (h : Cp w Bc G M cf cn) (hm : mp w emb good vemb b f n) (hne : Bc ≠ b) (hg : w.grownBy w' (some b)) : Cp w' Bc G M cf cn :=
  ⟨h.m.kept hg (fun e => hne (Option.some.inj e)), h.dom, fun x sl hx => ⟨(h.s x sl hx).1.kept_map hm hg, (h.s x sl hx).2⟩⟩

/-- One clone more. -/
theorem Cp.put {w w' : World} {Bc cn cn' : Nat} {G : ByteArray → List ByteArray} {M : List ByteArray} {cf : ByteArray → Option Sl} (h : Cp w Bc G M cf cn) {s : ByteArray} {sl : Sl} (hs : strs w sl.a sl.l (G s)) (hl : sl.l ≤ 65536)
    (hg : w.grownBy w' (some Bc)) (hm : mp w' Value.string okS slv Bc (upd cf s sl) cn') : Cp w' Bc G (M ++ [s]) (upd cf s sl) cn' := by
  refine ⟨hm, fun x => ?_, fun x sl' hx => ?_⟩
  · unfold upd
    by_cases e : x = s
    · simp [e]
    · simp [e, h.dom x]
  · unfold upd at hx
    split at hx
    · rename_i e
      cases hx
      subst e
      exact ⟨hs.kept_map h.m hg, hl⟩
    · exact ⟨(h.s x sl' hx).1.kept_map h.m hg, (h.s x sl' hx).2⟩

/-- What the two sets hold so far: every pair and every keyword of the reasons M. -/
def Filled (G : ByteArray → List ByteArray) (L M : List ByteArray) (pf : ByteArray × ByteArray → Option Bool) (sf : ByteArray → Option Bool) : Prop :=
  (∀ p b, pf p = some b → b = true) ∧ (∀ kw, (sf kw).isSome = true → ∃ why ∈ L, kw ∈ G why) ∧ ∀ why ∈ M, ∀ kw ∈ G why, (pf (why, kw)).isSome = true ∧ (sf kw).isSome = true
def Filling (s : ByteArray) (K : List ByteArray) (pf : ByteArray × ByteArray → Option Bool) (sf : ByteArray → Option Bool) : Prop := ∀ kw ∈ K, (pf (s, kw)).isSome = true ∧ (sf kw).isSome = true

theorem filled_put {G : ByteArray → List ByteArray} {L M : List ByteArray} {pf : ByteArray × ByteArray → Option Bool} {sf : ByteArray → Option Bool} (h : Filled G L M pf sf) {s kw : ByteArray} (hs : s ∈ L) (hk : kw ∈ G s) : Filled G L M (upd pf (s, kw) true) (upd sf kw true) := by
  refine ⟨fun p b hp => ?_, fun x hx => ?_, fun why hw x hx => ⟨upd_some (h.2.2 why hw x hx).1, upd_some (h.2.2 why hw x hx).2⟩⟩
  · unfold upd at hp
    split at hp
    · cases hp; rfl
    · exact h.1 p b hp
  · by_cases e : x = kw
    · exact ⟨s, hs, e ▸ hk⟩
    · refine h.2.1 x ?_
      unfold upd at hx
      rw [if_neg e] at hx
      exact hx

theorem filling_put {s kw : ByteArray} {K : List ByteArray} {pf : ByteArray × ByteArray → Option Bool} {sf : ByteArray → Option Bool} (h : Filling s K pf sf) : Filling s (K ++ [kw]) (upd pf (s, kw) true) (upd sf kw true) := by
  intro x hx
  rcases List.mem_append.1 hx with hx | hx
  · exact ⟨upd_some (h x hx).1, upd_some (h x hx).2⟩
  · rw [List.mem_singleton.1 hx]
    exact ⟨upd_self _ _ _, upd_self _ _ _⟩

theorem filled_snoc {G : ByteArray → List ByteArray} {L M : List ByteArray} {pf : ByteArray × ByteArray → Option Bool} {sf : ByteArray → Option Bool} (h : Filled G L M pf sf) {s : ByteArray} (hf : Filling s (G s) pf sf) : Filled G L (M ++ [s]) pf sf := by
  refine ⟨h.1, h.2.1, fun why hw kw hk => ?_⟩
  rcases List.mem_append.1 hw with hw | hw
  · exact h.2.2 why hw kw hk
  · rw [List.mem_singleton.1 hw] at hk ⊢
    exact hf kw hk

set_option maxHeartbeats 2000000 in
theorem spec_some (b n : Nat) (f : ByteArray → Option Sl) (G : ByteArray → List ByteArray) (ao : Option Addr) (len cap : Nat) (L : List ByteArray) (w : World) (hm : mp w Value.string okS slv b f n)
    (hG : ∀ x sl, f x = some sl → strs w sl.a sl.l (G x)) (hs : strs w ao len L) (hmax : len ≤ maxLen) :
    Calls Try.prog 5 #[.map (some b), .slice ao len cap] w fun e w' => e = .returned (.bool true) ∧ Below w.heap.size w w' := by
  have HG : Hid (∀ x sl, f x = some sl → strs w sl.a sl.l (G x)) := hG
  have hmk := run_makeMap_some (P := Try.prog) Try.underlying27 .i64 (len : Int)
  have hneq := fun w : World => run_neq_map_nil (P := Try.prog) w 27 9 23 (some b) Try.underlying27
  have hmo : mpo w Value.string okS slv (some b) f n := Or.inr ⟨b, rfl, hm⟩
  have hfit0 := rfit_any (some b) n f G ao len cap L w hmo hG hs hmax
  clear hG
  go_enter Try.func5, Try.ntmps5
  go_wp2_with fail
  refine hfit0.mono ?_
  clear hfit0
  rintro e w1 ⟨bb, rfl, hb1, hfit⟩
  cases bb
  · clear hfit
    go_wp2_with fail
    go_ret
    exact ⟨rfl, hb1⟩
  · obtain ⟨hln, hl6, hnd, hin, hsh⟩ := hfit rfl
    have hs1 := hs.below hb1
    have HI : Hid (∀ x ∈ L, (f x).isSome = true) := hin
    have HSH : Hid (∀ x ∈ L, ∀ sl, f x = some sl → sl.l ≤ 65536) := hsh
    have hcl := clone_any ao len cap L w1 hs1 hl6
    clear hfit hln hin hsh hnd
    go_wp2_with fail
    refine hcl.mono ?_
    clear hcl
    rintro e w2 ⟨ao2, cap2, rfl, hs2, hb2⟩
    have hb2' : Below w.heap.size w w2 := hb1.trans (hb2.mono hb1.size)
    clear hs1 hb1 hb2 hs
    go_wp2_with fail
    have hwa := hb2'.size
    go_loopw [6] (fun i wr => ∃ (k : Nat) (cf : ByteArray → Option Sl) (cn : Nat), k ≤ len ∧ i = .int .i64 k ∧ Cp wr w2.heap.size G (L.take k) cf cn ∧ strs wr ao2 len L ∧ Below w.heap.size w wr) (fun i _ => len - (intOf i).toNat)
    case atStart => exact ⟨0, fun _ => none, 0, by omega, rfl, ⟨mp_made _ _ _ _, by simp, fun _ _ h => by (cases h)⟩, hs2.below ((Below.refl _ _).alloc (Nat.le_refl _) _), hb2'.alloc hwa _⟩
    case round =>
      clear hs2 hb2' hmk hneq
      obtain ⟨k, cf, cn, hk, rfl, C, hs2, hnx⟩ := hrel
      by_cases hlt : k < len
      · obtain ⟨b', off, hao, hc⟩ := hs2.2.1 k hlt
        have hkL : k < L.length := by rw [hs2.1]; exact hlt
        have hsz := hs2.size k
        have HT : Hid (L.take (k + 1) = L.take k ++ [L.getD k ⟨#[]⟩]) := take_getD hkL
        have hmem : L.getD k ⟨#[]⟩ ∈ L := by simp [List.getD, hkL]
        have hins := HI.out _ hmem
        generalize L.getD k ⟨#[]⟩ = s at hc hsz HT hins hmem
        obtain ⟨⟨a1, l1, c1⟩, hrs⟩ := Option.isSome_iff_exists.1 hins
        have hl65 : l1 ≤ 65536 := HSH.out s hmem _ hrs
        have hst1 : strs wr a1 l1 (G s) := (HG.out s _ hrs).below hnx
        have hmr := hm.below hnx hm.lt
        have hlkd : (Instr.lookup 27 (.map (some b)) (.string s) false).run Try.prog wr.drew = .ok (.slice a1 l1 c1) wr.drew := by
          have h := hmr.look (P := Try.prog) ky9 Try.underlying27 zero23 false hsz 1
          rw [hrs] at h
          exact h
        have hcl := clone_any a1 l1 c1 (G s) wr.drew hst1 hl65
        have HCL : Hid (Calls Try.prog 13 #[.slice a1 l1 c1] wr.drew fun e w' => ∃ ao' cap', e = .returned (.slice ao' l1 cap') ∧ strs w' ao' l1 (G s) ∧ Below wr.drew.heap.size wr.drew w') := hcl
        have hblk : b' < wr.heap.size := World.block_lt_of_cell? wr _ hc
        clear hins hmem hrs hkL hcl hmr
        have HS2 := hs2
        subst hao
        clear hs2
        go_wp2_with fail
        go_region_with (first | (go_at_call 13; refine HCL.out.mono ?_; rintro e w' ⟨ao', cap', rfl, hs', hb0⟩; have hb' := below_of_drew hb0; have hc' := (hb'.cell (p := ⟨b', off + k, none⟩) hblk).trans hc; obtain ⟨w3, hput, hm3, hg3, hs3⟩ := (C.m.below hb' C.m.lt).put ky9 Try.underlying27 hsz (⟨ao', l1, cap'⟩ : Sl); have hputd := hput 0; simp only [World.drewN_zero, slv] at hputd))
        all_goals
          have C3 := (C.below hb').put (s := s) (sl := ⟨ao', l1, cap'⟩) hs' hl65 hg3 hm3
          have hs23 := (HS2.below hb').kept_map (C.m.below hb' C.m.lt) hg3
          have hnx3 : Below w.heap.size w w3 := (hnx.trans (hb'.mono hnx.size)).grown hg3 (Nat.le_trans hnx.size hb'.size) (fun j hj => by cases hj; exact hwa)
          rw [← HT.out] at C3
          clear hputd hput hm3 hg3 hs3 hc' hb' hb0 hs' HS2 hnx C hc
          go_wp2
          go_roundw
          case rel => exact ⟨k + 1, _, _, by omega, by go_num, C3, hs23, hnx3⟩
          case measure => simp [intOf]; omega
      · have hkl : k = len := by omega
        rw [hkl, List.take_of_length_le (by rw [hs2.1]; exact Nat.le_refl _)] at C
        have hby := zzbyk_any w2.heap.size cn cf G wr C.m (fun why ao len cap h => C.s why _ h)
        go_wp2_with fail
        refine hby.mono ?_
        clear hby
        rintro e w5 ⟨no, g, rfl, hm5, hsd, hcp, hb5⟩
        have hnx5 : Below w.heap.size w w5 := hnx.trans (hb5.mono hnx.size)
        have C5 := C.below hb5
        have hs5 := hs2.below hb5
        have hnil := fun w : World => run_eql_map_nil (P := Try.prog) w 30 9 9 (some wr.heap.size) Try.underlying30
        have hmk2 := @run_makeMap Try.prog
        clear hb5 hnx C hs2 hkl hk
        go_wp2_with fail
        clear hnil hmk2
        go_loopw [10] (fun i wr => ∃ (k : Nat) (pf : ByteArray × ByteArray → Option Bool) (pn : Nat) (sf : ByteArray → Option Bool) (sn : Nat), k ≤ len ∧ i = .int .i64 k ∧ mp wr prv okP Value.bool w5.heap.size pf pn ∧ mp wr Value.string okS Value.bool (w5.heap.size + 1) sf sn ∧
            Filled G L (L.take k) pf sf ∧ Below w5.heap.size w5 wr) (fun i _ => len - (intOf i).toNat)
        case atStart =>
          refine ⟨0, fun _ => none, 0, fun _ => none, 0, by omega, rfl, (mp_made _ _ _ _).alloc _, ?_, ⟨fun _ _ h => by (cases h), fun _ h => by (cases h), by simp⟩, ((Below.refl _ _).alloc (Nat.le_refl _) _).alloc (by simp) _⟩
          have := mp_made (w5.alloc (.map #[] 0)) Value.string okS Value.bool
          simpa using this
        case round =>
          obtain ⟨k, pf, pn, sf, sn, hk, rfl, hmp, hms, hfl, hq⟩ := hrel
          have Cr := C5.below hq
          have hsr := hs5.below hq
          by_cases hlt : k < len
          · obtain ⟨b', off, hao, hc5⟩ := hs5.2.1 k hlt
            have hkL : k < L.length := by rw [hsr.1]; exact hlt
            have hsz := hsr.size k
            have HT : Hid (L.take (k + 1) = L.take k ++ [L.getD k ⟨#[]⟩]) := take_getD hkL
            have hmem : L.getD k ⟨#[]⟩ ∈ L := by simp [List.getD, hkL]
            have hc := (hq.cell (World.block_lt_of_cell? w5 _ hc5)).trans hc5
            generalize L.getD k ⟨#[]⟩ = s at hc hc5 hsz HT hmem
            obtain ⟨⟨a1, l1, c1⟩, hrs⟩ := Option.isSome_iff_exists.1 ((Cr.dom s).2 hmem)
            have hst1 := (C5.s s _ hrs).1
            have hl65 : l1 ≤ 65536 := (C5.s s _ hrs).2
            have hlk : (Instr.lookup 27 (.map (some w2.heap.size)) (.string s) false).run Try.prog wr = .ok (.slice a1 l1 c1) wr := by
              have h := Cr.m.look (P := Try.prog) ky9 Try.underlying27 zero23 false hsz 0
              rw [hrs] at h
              exact h
            clear hkL Cr hsr
            subst hao
            go_wp2_with fail
            clear hlk hc
            go_loopw [12] (fun i wi => ∃ (j : Nat) (pf : ByteArray × ByteArray → Option Bool) (pn : Nat) (sf : ByteArray → Option Bool) (sn : Nat), j ≤ l1 ∧ i = .int .i64 j ∧ mp wi prv okP Value.bool w5.heap.size pf pn ∧ mp wi Value.string okS Value.bool (w5.heap.size + 1) sf sn ∧
                Filled G L (L.take k) pf sf ∧ Filling s ((G s).take j) pf sf ∧ Below w5.heap.size w5 wi) (fun i _ => l1 - (intOf i).toNat)
            case atStart => exact ⟨0, pf, pn, sf, sn, by omega, rfl, hmp, hms, hfl, fun _ h => by (simp at h), hq⟩
            case round =>
              clear hmp hms hfl hq
              obtain ⟨j, pf, pn, sf, sn, hj, rfl, hmp, hms, hfl, hfg, hq⟩ := hrel
              have hsi := hst1.below hq
              by_cases hjl : j < l1
              · obtain ⟨b1, off1, hao1, hc15⟩ := hst1.2.1 j hjl
                have hc1 := (hq.cell (World.block_lt_of_cell? w5 _ hc15)).trans hc15
                have hjL : j < (G s).length := by rw [hsi.1]; exact hjl
                have hsz1 := hsi.size j
                have HT1 : Hid ((G s).take (j + 1) = (G s).take j ++ [(G s).getD j ⟨#[]⟩]) := take_getD hjL
                have hmem1 : (G s).getD j ⟨#[]⟩ ∈ G s := by simp [List.getD, hjL]
                have hcw : wr.cell? ⟨b', off + k, none⟩ = some (.string s) := (hq.cell (World.block_lt_of_cell? w5 _ hc5)).trans hc5
                generalize (G s).getD j ⟨#[]⟩ = kw at hc1 hc15 hsz1 HT1 hmem1
                obtain ⟨w6, hput, hmp6, hg6, hz6⟩ := hmp.put (P := Try.prog) ky34 Try.underlying32 (x := (s, kw)) ⟨hsz, hsz1⟩ true
                have hputd : (Instr.mapUpdate 32 (.map (some w5.heap.size)) (.agg #[.string s, .string kw]) (.bool true)).run Try.prog wr.drew = .ok () w6.drew := hput 1
                have hms6' : mp w6 Value.string okS Value.bool (w5.heap.size + 1) sf sn := hms.kept hg6 (by simp)
                have hms6 : mp w6.drew Value.string okS Value.bool (w5.heap.size + 1) sf sn := hms6'
                have hq6 : Below w5.heap.size w5 w6 := hq.grown hg6 hq.size (fun j hj => by cases hj; exact Nat.le_refl _)
                have hc6 : w6.cell? ⟨b1, off1 + j, none⟩ = some (.string kw) := (hq6.cell (World.block_lt_of_cell? w5 _ hc15)).trans hc15
                have hmp6d : mp w6.drew prv okP Value.bool w5.heap.size (upd pf (s, kw) true) _ := hmp6
                clear hjL hsi hput hmp hms hg6 hz6 hc15 hms6' hmp6
                subst hao1
                go_wp2_with fail
                go_region
                go_wp2_with (first
                  | (at_mapUpdate; refine wpList_put_mp _ rfl _ _ _ 33 rfl 9 4 ky9 Try.underlying33 (w5.heap.size + 1) sn sf rfl hms6 kw hsz1 true rfl rfl ?_; intro w7 hms7 hg7 hz7; go_frame))
                have hmp7 := hmp6d.kept hg7 (by simp)
                have hq7 : Below w5.heap.size w5 w7 := hq6.drew.grown hg7 hq6.size (fun j hj => by cases hj; omega)
                have hfl7 := filled_put hfl hmem hmem1
                have hfg7 := filling_put (kw := kw) hfg
                rw [← HT1.out] at hfg7
                go_roundw
                case rel => exact ⟨j + 1, _, _, _, _, by omega, by go_num, hmp7, hms7, hfl7, hfg7, hq7⟩
                case measure => simp [intOf]; omega
              · have hjl' : j = l1 := by omega
                rw [hjl', List.take_of_length_le (by rw [hsi.1]; exact Nat.le_refl _)] at hfg
                have hfl7 := filled_snoc hfl hfg
                rw [← HT.out] at hfl7
                go_wp2
                go_roundw
                case rel => exact ⟨k + 1, _, _, _, _, by omega, by go_num, hmp, hms, hfl7, hq⟩
                case measure => simp [intOf]; omega
          · have hkl : k = len := by omega
            rw [hkl, List.take_of_length_le (by rw [hsr.1]; exact Nat.le_refl _)] at hfl
            have hmr5 := hm5.below hq hm5.lt
            have hdom : ∀ x, (g x).isSome = true ↔ (sf x).isSome = true := by
              intro x
              constructor
              · intro h
                obtain ⟨why, hw⟩ := Option.isSome_iff_exists.1 h
                obtain ⟨h1, h2⟩ := hsd x why hw
                exact (hfl.2.2 why ((C5.dom why).1 h1) x h2).2
              · intro h
                obtain ⟨why, hw, hx⟩ := hfl.2.1 x h
                exact hcp why x ((C5.dom why).2 hw) hx
            have hno : no = sn := hmr5.same_size hms inj9 hdom
            subst hno
            have hle1 := fun ty => hmr5.len (P := Try.prog) (t := 30) Try.underlying30 ty 0
            have hle2 := fun ty => hms.len (P := Try.prog) (t := 33) Try.underlying33 ty 0
            simp only [World.drewN_zero] at hle1 hle2
            have hnxr : Below w.heap.size w wr := hnx5.trans (hq.mono hnx5.size)
            have HCP : Hid (∀ why ∈ L, ∀ kw ∈ G why, ∃ why', g kw = some why' ∧ okS why' ∧ pf (why', kw) = some true) := by
              intro why hw kw hk
              obtain ⟨why', hw'⟩ := Option.isSome_iff_exists.1 (hcp why kw ((C5.dom why).2 hw) hk)
              obtain ⟨h1, h2⟩ := hsd kw why' hw'
              have h3 := (C5.dom why').1 h1
              obtain ⟨bb, hbb⟩ := Option.isSome_iff_exists.1 (hfl.2.2 why' h3 kw h2).1
              refine ⟨why', hw', hsr.2.2 why' h3, ?_⟩
              rw [hbb, hfl.1 _ _ hbb]
            clear hdom hcp hms hkl hk hm5 hs5 hnx5 hq hsd hfl C5
            go_wp2_with fail
            clear hle1 hle2
            go_loop [13] (fun i => ∃ k : Nat, k ≤ len ∧ i = .int .i64 k) (fun i => len - (intOf i).toNat)
            case atStart => exact ⟨0, Nat.zero_le _, rfl⟩
            case round =>
              obtain ⟨k, hk, rfl⟩ := hrel
              by_cases hlt : k < len
              · obtain ⟨b', off, hao, hc⟩ := hsr.2.1 k hlt
                have hkL : k < L.length := by rw [hsr.1]; exact hlt
                have hsz := hsr.size k
                have hmem : L.getD k ⟨#[]⟩ ∈ L := by simp [List.getD, hkL]
                generalize L.getD k ⟨#[]⟩ = s at hc hsz hmem
                obtain ⟨⟨a1, l1, c1⟩, hrs⟩ := Option.isSome_iff_exists.1 ((Cr.dom s).2 hmem)
                have hst1 : strs wr a1 l1 (G s) := (Cr.s s _ hrs).1
                have hl65 : l1 ≤ 65536 := (Cr.s s _ hrs).2
                have hlk : (Instr.lookup 27 (.map (some w2.heap.size)) (.string s) false).run Try.prog wr = .ok (.slice a1 l1 c1) wr := by
                  have h := Cr.m.look (P := Try.prog) ky9 Try.underlying27 zero23 false hsz 0
                  rw [hrs] at h
                  exact h
                clear hkL Cr hsr hrs
                subst hao
                go_wp2_with fail
                clear hlk hc
                go_loop [15] (fun i => ∃ j : Nat, j ≤ l1 ∧ i = .int .i64 j) (fun i => l1 - (intOf i).toNat)
                case atStart => exact ⟨0, Nat.zero_le _, rfl⟩
                case round =>
                  obtain ⟨j, hj, rfl⟩ := hrel
                  by_cases hjl : j < l1
                  · obtain ⟨b1, off1, hao1, hc1⟩ := hst1.2.1 j hjl
                    have hjL : j < (G s).length := by rw [hst1.1]; exact hjl
                    have hsz1 := hst1.size j
                    have hmem1 : (G s).getD j ⟨#[]⟩ ∈ G s := by simp [List.getD, hjL]
                    generalize (G s).getD j ⟨#[]⟩ = kw at hc1 hsz1 hmem1
                    obtain ⟨why', hg', hok', hp'⟩ := HCP.out s hmem kw hmem1
                    have hl1 := hmr5.look (P := Try.prog) ky9 Try.underlying30 zero9 true hsz1 0
                    rw [hg'] at hl1
                    simp only [lookV, World.drewN_zero, if_true] at hl1
                    have hl2 : (Instr.lookup 32 (.map (some w5.heap.size)) (.agg #[.string why', .string kw]) false).run Try.prog wr = .ok (.bool true) wr := by
                      have h := hmp.look (P := Try.prog) ky34 Try.underlying32 zero4 false (x := (why', kw)) ⟨hok', hsz1⟩ 0
                      rw [hp'] at h
                      exact h
                    clear hjL hst1 hmem1 hg' hp' hmr5 hmp
                    subst hao1
                    go_wp2
                    go_round
                    case rel => exact ⟨j + 1, by omega, by go_num⟩
                    case measure => simp [intOf]; omega
                  · go_wp2
                    go_round
                    case rel => exact ⟨k + 1, by omega, by go_num⟩
                    case measure => simp [intOf]; omega
              · go_wp2
                go_ret
                exact ⟨rfl, hnxr⟩

set_option maxHeartbeats 1000000 in
theorem spec_nil (ao : Option Addr) (len cap : Nat) (L : List ByteArray) (w : World) (hs : strs w ao len L) (hmax : len ≤ maxLen) :
    Calls Try.prog 5 #[.map none, .slice ao len cap] w fun e w' => e = .returned (.bool true) ∧ Below w.heap.size w w' := by
  have hneq := fun w : World => run_neq_map_nil (P := Try.prog) w 27 9 23 none Try.underlying27
  have hmo : ∀ w : World, mpo w Value.string okS slv none (fun _ => (none : Option Sl)) 0 := fun w => Or.inl ⟨rfl, fun _ => rfl, rfl⟩
  have hfit0 := rfit_any none 0 (fun _ => none) (fun _ => []) ao len cap L w (hmo w) (fun _ _ h => by cases h) hs hmax
  go_enter Try.func5, Try.ntmps5
  go_wp2_with fail
  refine hfit0.mono ?_
  clear hfit0
  rintro e w1 ⟨bb, rfl, hb1, hfit⟩
  cases bb
  · clear hfit
    go_wp2_with fail
    go_ret
    exact ⟨rfl, hb1⟩
  · obtain ⟨hln, hl6, _, _, _⟩ := hfit rfl
    have hl0 : len ≤ 0 := by omega
    have hs1 := hs.below hb1
    have hcl := clone_any ao len cap L w1 hs1 hl6
    clear hfit hln
    go_wp2_with fail
    refine hcl.mono ?_
    clear hcl
    rintro e w2 ⟨ao2, cap2, rfl, _, hb2⟩
    have hb2' : Below w.heap.size w w2 := hb1.trans (hb2.mono hb1.size)
    have hby := zzbyk_nil w2
    clear hs1 hb1 hb2 hs
    go_wp2_with fail
    refine hby.mono ?_
    clear hby
    rintro e w3 ⟨rfl, hm3, hb3⟩
    have hmk2 := @run_makeMap Try.prog
    have hnil := fun w : World => run_eql_map_nil (P := Try.prog) w 30 9 9 (some w2.heap.size) Try.underlying30
    have hms : mp ((w3.alloc (.map #[] 0)).alloc (.map #[] 0)) Value.string okS Value.bool (w3.heap.size + 1) (fun _ => (none : Option Bool)) 0 := by
      have := mp_made (α := Bool) (w3.alloc (.map #[] 0)) Value.string okS Value.bool
      simpa using this
    have hnx : Below w.heap.size w ((w3.alloc (.map #[] 0)).alloc (.map #[] 0)) := ((hb2'.trans (hb3.mono hb2'.size)).alloc (Nat.le_trans hb2'.size hb3.size) _).alloc (by have := hb2'.size; have := hb3.size; simp; omega) _
    have hle1 := fun ty => ((hm3.alloc (.map #[] 0)).alloc (.map #[] 0)).len (P := Try.prog) (t := 30) Try.underlying30 ty 0
    have hle2 := fun ty => hms.len (P := Try.prog) (t := 33) Try.underlying33 ty 0
    simp only [World.drewN_zero] at hle1 hle2
    have HL1 := hle1
    clear hms hm3 hb3 hb2' hmo
    go_wp2_with fail
    go_loop [10] (fun i => i = .int .i64 0) (fun _ => 0)
    case atStart => rfl
    case round =>
      subst hrel
      go_wp2_with fail
      go_loop [13] (fun i => i = .int .i64 0) (fun _ => 0)
      case atStart => rfl
      case round =>
        subst hrel
        go_wp2
        go_ret
        exact ⟨rfl, hnx⟩

end Go.Proofs.Qxb6602946a
