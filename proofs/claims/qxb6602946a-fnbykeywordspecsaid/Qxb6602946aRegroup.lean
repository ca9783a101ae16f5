/- FnByKeywordRegroup: the walk. -/
import Derived.Test.Qxb6602946aGrp
import Derived.BigRegion
namespace Go.Proofs.Qxb6602946a
open Go.RowKit

theorem zzbyk_any (b n : Nat) (f : ByteArray → Option Sl) (G : ByteArray → List ByteArray) (w : World) (hm : mp w Value.string okS slv b f n)
    (hG : ∀ why ao len cap, f why = some ⟨ao, len, cap⟩ → strs w ao len (G why) ∧ len ≤ 65536) :
    Calls Try.prog 14 #[.map (some b)] w fun e w' => ∃ no g, e = .returned (.map (some w.heap.size)) ∧ mp w' Value.string okS Value.string w.heap.size g no ∧ sound f G g ∧
      (∀ why kw, (f why).isSome = true → kw ∈ G why → (g kw).isSome = true) ∧ Below w.heap.size w w' := by
  go_enter Try.func14, Try.ntmps14
  go_wp2_with (first
    | (go_at_call 17; refine (byk_any b n f G _ hm hG).mono ?_; rintro e w' ⟨no, g, rfl, h1, h2, h3, h4⟩))
  go_ret
  exact ⟨no, g, rfl, h1, h2, h3, h4⟩

theorem zzbyk_nil (w : World) :
    Calls Try.prog 14 #[.map none] w fun e w' => e = .returned (.map (some w.heap.size)) ∧ mp w' Value.string okS Value.string w.heap.size (fun _ => (none : Option ByteArray)) 0 ∧ Below w.heap.size w w' := by
  go_enter Try.func14, Try.ntmps14
  go_wp2_with (first
    | (go_at_call 17; refine (byk_nil _).mono ?_; rintro e w' ⟨rfl, h1, h2⟩))
  go_ret
  exact ⟨rfl, h1, h2⟩

/-- f on the keys M alone. -/
def restr (f : ByteArray → Option ByteArray) (M : List ByteArray) : ByteArray → Option ByteArray := fun x => if memB M x then f x else none

theorem restr_snoc {f : ByteArray → Option ByteArray} {M : List ByteArray} {s rs : ByteArray} (hf : f s = some rs) : upd (restr f M) s rs = restr f (M ++ [s]) := by
  funext x
  unfold upd restr
  by_cases h : x = s
  · subst h
    have : memB (M ++ [x]) x = true := (memB_iff _ _).2 (by simp)
    simp [this, hf]
  · have : memB (M ++ [s]) x = memB M x := by
      rw [Bool.eq_iff_iff, memB_iff, memB_iff]
      simp [h]
    simp [h, this]

theorem restr_new {f : ByteArray → Option ByteArray} {M : List ByteArray} {s : ByteArray} (h : s ∉ M) : restr f M s = none := by
  unfold restr
  have : memB M s = false := by
    cases hm : memB M s
    · rfl
    · exact absurd ((memB_iff _ _).1 hm) h
  simp [this]

theorem take_new {L : List ByteArray} {k : Nat} (hn : L.Nodup) (h : k < L.length) : L.getD k ⟨#[]⟩ ∉ L.take k := by
  have e := take_getD h
  have h2 : (L.take (k + 1)).Nodup := hn.sublist (List.take_sublist _ _)
  rw [e] at h2
  intro hm
  exact (List.nodup_append.1 h2).2.2 _ hm _ (by simp) rfl

theorem restr_all {f : ByteArray → Option ByteArray} {L : List ByteArray} {s : ByteArray} (h : s ∈ L) : restr f L s = f s := by
  unfold restr
  rw [(memB_iff L s).2 h]
  rfl

theorem restr_dom {f : ByteArray → Option ByteArray} {L : List ByteArray} (hin : ∀ x ∈ L, (f x).isSome = true) (x : ByteArray) : (restr f L x).isSome = true ↔ x ∈ L := by
  constructor
  · intro h
    unfold restr at h
    split at h
    · rename_i hm
      exact (memB_iff L x).1 hm
    · cases h
  · intro h
    rw [restr_all h]
    exact hin x h

/-- What byKeyword answers over the groups IS f. -/
theorem regrouped {w : World} {Bg gn : Nat} {f g : ByteArray → Option ByteArray} {L : List ByteArray} {gf : ByteArray → Option Sl} (G : Grp w Bg f L gf gn) (hin : ∀ x ∈ L, (f x).isSome = true) (hsd : sound gf (grp f L) g)
    (hcp : ∀ why kw, (gf why).isSome = true → kw ∈ grp f L why → (g kw).isSome = true) : g = restr f L := by
  have h1 : ∀ x, x ∈ L → g x = f x := by
    intro x hx
    obtain ⟨why, hw⟩ := Option.isSome_iff_exists.1 (hin x hx)
    have hmem : x ∈ grp f L why := grp_mem.2 ⟨hx, hw⟩
    have hgs : (gf why).isSome = true := by
      cases h : gf why with
      | some _ => rfl
      | none =>
        rw [G.none_ why h] at hmem
        cases hmem
    obtain ⟨why', hw'⟩ := Option.isSome_iff_exists.1 (hcp why x hgs hmem)
    rw [hw', hw]
    have := (grp_mem.1 (hsd x why' hw').2).2
    rw [hw] at this
    exact this.symm
  funext x
  by_cases hx : x ∈ L
  · rw [restr_all hx, h1 x hx]
  · rw [restr_new hx]
    cases h : g x with
    | none => rfl
    | some why => exact absurd (grp_mem.1 (hsd x why h).2).1 hx

theorem Grp.strs {w : World} {Bg gn : Nat} {f : ByteArray → Option ByteArray} {L : List ByteArray} {gf : ByteArray → Option Sl} (G : Grp w Bg f L gf gn) (hL : L.length ≤ 65536) (hz : ∀ s ∈ L, s.size ≤ maxLen) :
    ∀ why ao len cap, gf why = some ⟨ao, len, cap⟩ → Qxb6602946a.strs w ao len (grp f L why) ∧ len ≤ 65536 := by
  intro why ao len cap h
  have hl := grp_len f L why
  obtain ⟨g, cap', hv, _, _, hc⟩ := own_form (G.own why _ h) (List.length_pos_iff.2 (G.has why _ h))
  simp only [slv, Value.slice.injEq] at hv
  obtain ⟨rfl, rfl, rfl⟩ := hv
  refine ⟨⟨rfl, fun j hj => ⟨g, 0, rfl, ?_⟩, fun s hs => hz s (grp_mem.1 hs).1⟩, by omega⟩
  rw [Nat.zero_add, hc j hj]
  simp [List.getD, hj]

set_option maxHeartbeats 1000000 in
theorem regroup_some (b n : Nat) (f : ByteArray → Option ByteArray) (ao : Option Addr) (len cap : Nat) (L : List ByteArray) (w : World) (hm : mp w Value.string okS Value.string b f n) (hv : ∀ x v, f x = some v → okS v) (hs : strs w ao len L) (hmax : len ≤ maxLen) :
    Calls Try.prog 6 #[.map (some b), .slice ao len cap] w fun e w' => e = .returned (.bool true) ∧ Below w.heap.size w w' := by
  have HV : Hid (∀ x v, f x = some v → okS v) := hv
  clear hv
  have hmk := run_makeMap_some (P := Try.prog) Try.underlying30 .i64 (len : Int)
  have hmk2 := @run_makeMap Try.prog
  have hneq := fun w : World => run_neq_map_nil (P := Try.prog) w 30 9 9 (some b) Try.underlying30
  have hmo : mpo w Value.string okS Value.string (some b) f n := Or.inr ⟨b, rfl, hm⟩
  have hfit0 := fit_any (some b) n f ao len cap L w hmo hs hmax
  go_enter Try.func6, Try.ntmps6
  go_wp2_with fail
  refine hfit0.mono ?_
  clear hfit0
  rintro e w1 ⟨bb, rfl, hb1, hfit⟩
  cases bb
  · clear hfit
    go_wp2_with fail
    go_ret
    exact ⟨rfl, hb1⟩
  · obtain ⟨hln, hl6, hnd, hin⟩ := hfit rfl
    have hs1 := hs.below hb1
    have HL : Hid (len = n) := hln
    have HI : Hid (∀ x ∈ L, (f x).isSome = true) := hin
    have hcl := clone_any ao len cap L w1 hs1 hl6
    clear hfit hln hin
    go_wp2_with fail
    refine hcl.mono ?_
    clear hcl
    rintro e w2 ⟨ao2, cap2, rfl, hs2, hb2⟩
    have hb2' : Below w.heap.size w w2 := hb1.trans (hb2.mono hb1.size)
    clear hs1 hb1 hb2 hs
    go_wp2_with fail
    have hwa := hb2'.size
    go_loopw [6] (fun i wr => ∃ k : Nat, k ≤ len ∧ i = .int .i64 k ∧ mp wr Value.string okS Value.string w2.heap.size (restr f (L.take k)) k ∧ strs wr ao2 len L ∧ Below w.heap.size w wr) (fun i _ => len - (intOf i).toNat)
    case atStart => exact ⟨0, by omega, rfl, mp_made _ _ _ _, hs2.below ((Below.refl _ _).alloc (Nat.le_refl _) _), hb2'.alloc hwa _⟩
    case round =>
      clear hs2 hb2' hmk hmk2 hneq
      obtain ⟨k, hk, rfl, hmc, hs2, hnx⟩ := hrel
      by_cases hlt : k < len
      · obtain ⟨b', off, hao, hc⟩ := hs2.2.1 k hlt
        have hkL : k < L.length := by rw [hs2.1]; exact hlt
        have hsz := hs2.size k
        have HT : Hid (L.take (k + 1) = L.take k ++ [L.getD k ⟨#[]⟩]) := take_getD hkL
        have hnew := take_new hnd hkL
        have hins := HI.out (L.getD k ⟨#[]⟩) (by simp [List.getD, hkL])
        generalize L.getD k ⟨#[]⟩ = s at hc hsz HT hnew hins
        obtain ⟨rs, hrs⟩ := Option.isSome_iff_exists.1 hins
        have hmr := hm.below hnx hm.lt
        have hl1 := hmr.look ky9 Try.underlying30 zero9 false hsz
        rw [hrs] at hl1
        simp only [lookV] at hl1
        obtain ⟨w3, hput, hmc3, hg3, hs3⟩ := hmc.put ky9 Try.underlying30 hsz rs
        rw [restr_snoc hrs, restr_new hnew, ← HT.out] at hmc3
        have hs23 := hs2.kept_map hmc hg3
        have hnx3 : Below w.heap.size w w3 := hnx.grown hg3 hnx.size (fun j hj => by cases hj; exact hwa)
        have HM : Hid (mp w3 Value.string okS Value.string w2.heap.size (restr f (L.take (k + 1))) (k + 1)) := by unfold Hid; simpa using hmc3
        have hl1d : (Instr.lookup 30 (.map (some b)) (.string s) false).run Try.prog wr.drew = .ok (.string rs) wr.drew := hl1 1
        have hputd : (Instr.mapUpdate 30 (.map (some w2.heap.size)) (.string s) (.string rs)).run Try.prog wr.drew = .ok () w3.drew := hput 1
        clear hins hnew hmr hrs hg3 hs3 hmc hs2 hnx hmc3 hkL hl1 hput
        subst hao
        go_wp2_with fail
        go_region
        go_wp2
        go_roundw
        case rel => exact ⟨k + 1, by omega, by go_num, HM.out, hs23, hnx3.drew⟩
        case measure => simp [intOf]; omega
      · have hkl : k = len := by omega
        rw [hkl] at hmc
        have hmk2 := @run_makeMap Try.prog
        rw [List.take_of_length_le (by rw [hs2.1]; exact Nat.le_refl _)] at hmc
        go_wp2_with fail
        clear hmk2 hkl hk
        have hbc := hmc.lt
        have hwr := hnx.size
        rename World => wq
        go_loopw [8, 9] (fun i _ wr => ∃ (k : Nat) (gf : ByteArray → Option Sl) (gn : Nat), k ≤ len ∧ i = .int .i64 k ∧ Grp wr wq.heap.size f (L.take k) gf gn ∧ Below wq.heap.size wq wr) (fun i _ _ => len - (intOf i).toNat)
        case atStart => exact ⟨0, _, 0, by omega, rfl, Grp.made _ _, (Below.refl _ _).alloc (Nat.le_refl _) _⟩
        case round =>
          obtain ⟨k, gf, gn, hk, rfl, G, hq⟩ := hrel
          have hmcr := hmc.below hq hbc
          have hsr := hs2.below hq
          by_cases hlt : k < len
          · obtain ⟨b', off, hao, hc⟩ := hsr.2.1 k hlt
            have hkL : k < L.length := by rw [hs2.1]; exact hlt
            have hsz := hsr.size k
            have HT : Hid (L.take (k + 1) = L.take k ++ [L.getD k ⟨#[]⟩]) := take_getD hkL
            have hmem : L.getD k ⟨#[]⟩ ∈ L := by simp [List.getD, hkL]
            have hins := HI.out _ hmem
            generalize L.getD k ⟨#[]⟩ = s at hc hsz HT hins hmem
            obtain ⟨why, hrs⟩ := Option.isSome_iff_exists.1 hins
            have hrr : restr f L s = some why := by rw [restr_all hmem]; exact hrs
            have hwhy : okS why := HV.out s why hrs
            have hl1 := hmcr.look ky9 Try.underlying30 zero9 false hsz 0
            rw [hrr] at hl1
            simp only [lookV, World.drewN_zero] at hl1
            have hl2 : (Instr.lookup 27 (.map (some wq.heap.size)) (.string why) false).run Try.prog wr.drew = .ok (slAt (gf why)) wr.drew := by rw [← slAt_look]; exact G.m.look ky9 Try.underlying27 zero23 false hwhy 1
            have hl3 : (Instr.lookup 27 (.map (some wq.heap.size)) (.string why) false).run Try.prog (wr.alloc (.cells #[.string s] 9)).drew = .ok (slAt (gf why)) (wr.alloc (.cells #[.string s] 9)).drew := by rw [← slAt_look]; exact (G.m.alloc _).look ky9 Try.underlying27 zero23 false hwhy 1
            obtain ⟨g, cap3, w3, w4, gf', gn', happ, hput, G', hb4⟩ := G.step (s := s) hwhy hrs (by rw [List.length_take]; omega)
            have HG : Hid (Grp w4 wq.heap.size f (L.take (k + 1)) gf' gn') := by rw [HT.out]; exact G'
            have hq4 := hq.trans hb4
            generalize slAt (gf why) = v0 at hl2 hl3 happ
            generalize (grp f (L.take k) why).length + 1 = m0 at happ hput
            have HA : Hid ((Builtin.append_ #[23, 23] 23 #[v0, .slice (some ⟨wr.heap.size, 0, none⟩) 1 1]).run Try.prog (wr.alloc (.cells #[.string s] 9)).drew = .ok (.slice (some ⟨g, 0, none⟩) m0 cap3) w3) := happ
            clear hins hmem hmcr hsr hrs hrr G G' hb4 hkL happ
            subst hao
            go_wp2_with fail
            go_region_law ((refine step_append_run (by rfl) _ _ _ _ (by rfl) (by rfl) _ _ (by rfl) (by rfl) _ _ HA ?_))
            all_goals
              go_wp2
              go_roundw
              case rel => exact ⟨k + 1, gf', gn', by omega, by go_num, HG.out, hq4⟩
              case measure => simp [intOf]; omega
          · have hkl : k = len := by omega
            rw [hkl, List.take_of_length_le (by rw [hs2.1]; exact Nat.le_refl _)] at G
            have hby := zzbyk_any wq.heap.size gn gf (grp f L) wr G.m (G.strs (by rw [hs2.1]; exact hl6) hs2.2.2)
            go_wp2_with fail
            refine hby.mono ?_
            clear hby
            rintro e w5 ⟨no, g, rfl, hm5, hsd, hcp, hb5⟩
            have hg := regrouped G HI.out hsd hcp
            subst hg
            have hmc5 : mp w5 Value.string okS Value.string w2.heap.size (restr f L) len := hmcr.below hb5 hmcr.lt
            have hno : no = len := hm5.same_size hmc5 inj9 (fun _ => Iff.rfl)
            subst hno
            have hs5 := hsr.below hb5
            have hnx5 : Below w.heap.size w w5 := (hnx.trans (hq.mono hnx.size)).trans (hb5.mono (Nat.le_trans hnx.size hq.size))
            have hle1 := fun ty => hm5.len (P := Try.prog) (t := 30) Try.underlying30 ty 0
            have hle2 := fun ty => hmc5.len (P := Try.prog) (t := 30) Try.underlying30 ty 0
            have hnil := fun w : World => run_eql_map_nil (P := Try.prog) w 30 9 9 (some wr.heap.size) Try.underlying30
            simp only [World.drewN_zero] at hle1 hle2
            clear hsd hcp hb5 hmcr hsr G hkl hk hq hmc hs2 hnx
            go_wp2_with fail
            clear hle1 hle2 hnil
            go_loop [11] (fun i => ∃ k : Nat, k ≤ no ∧ i = .int .i64 k) (fun i => no - (intOf i).toNat)
            case atStart => exact ⟨0, Nat.zero_le _, rfl⟩
            case round =>
              obtain ⟨k, hk, rfl⟩ := hrel
              by_cases hlt : k < no
              · obtain ⟨b', off, hao, hc⟩ := hs5.2.1 k hlt
                have hkL : k < L.length := by rw [hs5.1]; exact hlt
                have hsz := hs5.size k
                have hmem : L.getD k ⟨#[]⟩ ∈ L := by simp [List.getD, hkL]
                have hins := HI.out _ hmem
                generalize L.getD k ⟨#[]⟩ = s at hc hsz hins hmem
                obtain ⟨why, hrs⟩ := Option.isSome_iff_exists.1 hins
                have hrr : restr f L s = some why := by rw [restr_all hmem]; exact hrs
                have hl1 := hm5.look ky9 Try.underlying30 zero9 true hsz 0
                have hl2 := hmc5.look ky9 Try.underlying30 zero9 false hsz 0
                rw [hrr] at hl1 hl2
                simp only [lookV, World.drewN_zero, if_true] at hl1 hl2
                clear hins hmem hrs hrr hm5 hmc5 hs5 hkL
                subst hao
                go_wp2
                go_round
                case rel => exact ⟨k + 1, by omega, by go_num⟩
                case measure => simp [intOf]; omega
              · go_wp2
                go_ret
                exact ⟨rfl, hnx5⟩

set_option maxHeartbeats 1000000 in
theorem regroup_nil (ao : Option Addr) (len cap : Nat) (L : List ByteArray) (w : World) (hs : strs w ao len L) (hmax : len ≤ maxLen) :
    Calls Try.prog 6 #[.map none, .slice ao len cap] w fun e w' => e = .returned (.bool true) ∧ Below w.heap.size w w' := by
  have hmk2 := @run_makeMap Try.prog
  have hneq := fun w : World => run_neq_map_nil (P := Try.prog) w 30 9 9 none Try.underlying30
  have hmo : ∀ w : World, mpo w Value.string okS Value.string none (fun _ => (none : Option ByteArray)) 0 := fun w => Or.inl ⟨rfl, fun _ => rfl, rfl⟩
  have hfit0 := fit_any none 0 (fun _ => none) ao len cap L w (hmo w) hs hmax
  go_enter Try.func6, Try.ntmps6
  go_wp2_with fail
  refine hfit0.mono ?_
  clear hfit0
  rintro e w1 ⟨bb, rfl, hb1, hfit⟩
  cases bb
  · clear hfit
    go_wp2_with fail
    go_ret
    exact ⟨rfl, hb1⟩
  · obtain ⟨hln, hl6, _, _⟩ := hfit rfl
    have hl0 : len ≤ 0 := by omega
    have hs1 := hs.below hb1
    have hcl := clone_any ao len cap L w1 hs1 hl6
    clear hfit hln
    go_wp2_with fail
    refine hcl.mono ?_
    clear hcl
    rintro e w2 ⟨ao2, cap2, rfl, _, hb2⟩
    have hb2' : Below w.heap.size w w2 := hb1.trans (hb2.mono hb1.size)
    clear hs1 hb1 hb2 hs
    go_wp2_with fail
    clear hmk2 hneq
    go_loop [8] (fun i => i = .int .i64 0) (fun _ => 0)
    case atStart => rfl
    case round =>
      subst hrel
      have hm0 : mp (w2.alloc (.map #[] 0)) Value.string okS slv w2.heap.size (fun _ => (none : Option Sl)) 0 := mp_made _ _ _ _
      have hby := zzbyk_any w2.heap.size 0 (fun _ => none) (fun _ => []) (w2.alloc (.map #[] 0)) hm0 (fun _ _ _ _ h => by cases h)
      have hb3 := hb2'.alloc hb2'.size (.map #[] 0)
      generalize w2.alloc (.map #[] 0) = w3 at hby hm0 hb3
      go_wp2_with fail
      refine hby.mono ?_
      clear hby
      rintro e w5 ⟨no, g, rfl, hm5, hsd, _, hb5⟩
      have hno : no = 0 := hm5.same_size hm0 inj9 (fun x => by
        cases h : g x with
        | none => simp
        | some y => cases (hsd x y h).1)
      subst hno
      have hnx5 : Below w.heap.size w w5 := hb3.trans (hb5.mono hb3.size)
      have hle1 := fun ty => hm5.len (P := Try.prog) (t := 30) Try.underlying30 ty 0
      have hle2 := fun ty => (hmo w5).len (P := Try.prog) (t := 30) Try.underlying30 ty 0
      have hnil := fun w : World => run_eql_map_nil (P := Try.prog) w 30 9 9 (some w3.heap.size) Try.underlying30
      simp only [World.drewN_zero] at hle1 hle2
      clear hsd hb5 hm5 hm0 hmo
      go_wp2_with fail
      go_loop [11] (fun i => i = .int .i64 0) (fun _ => 0)
      case atStart => rfl
      case round =>
        subst hrel
        go_wp2
        go_ret
        exact ⟨rfl, hnx5⟩

end Go.Proofs.Qxb6602946a
