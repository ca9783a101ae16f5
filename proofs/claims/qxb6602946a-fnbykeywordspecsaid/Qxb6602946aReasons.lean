/- zzCfgB1ReasonsFit: the walk. -/
import Derived.Test.Qxb6602946aFit
namespace Go.Proofs.Qxb6602946a
open Go.RowKit

/-- What ReasonsFit has found out when it says yes. -/
def RFits (f : ByteArray → Option Sl) (n len : Nat) (L : List ByteArray) : Prop := len = n ∧ len ≤ 65536 ∧ L.Nodup ∧ (∀ x ∈ L, (f x).isSome = true) ∧ ∀ x ∈ L, ∀ sl, f x = some sl → sl.l ≤ 65536
def RPost (f : ByteArray → Option Sl) (n len : Nat) (L : List ByteArray) (w : World) (e : Ending) (w' : World) : Prop := ∃ bb : Bool, e = .returned (.bool bb) ∧ Below w.heap.size w w' ∧ (bb = true → RFits f n len L)
theorem rNo {f : ByteArray → Option Sl} {n len : Nat} {L : List ByteArray} {w w' : World} (h : Below w.heap.size w w') : RPost f n len L w (.returned (.bool false)) w' := ⟨false, rfl, h, fun h => by cases h⟩
theorem rYes {f : ByteArray → Option Sl} {n len : Nat} {L : List ByteArray} {w w' : World} (h : Below w.heap.size w w') (hf : RFits f n len L) : RPost f n len L w (.returned (.bool true)) w' := ⟨true, rfl, h, fun _ => hf⟩

/-- What a look-up in the map of lists answers. -/
theorem look_parts {w : World} {f : ByteArray → Option Sl} {G : ByteArray → List ByteArray} (hG : ∀ x sl, f x = some sl → strs w sl.a sl.l (G x)) (s : ByteArray) :
    ∃ a l c L', lookV false slv (.slice none 0 0) (f s) = .slice a l c ∧ strs w a l L' ∧ ∀ sl, f s = some sl → sl.l = l := by
  cases h : f s with
  | some sl => exact ⟨sl.a, sl.l, sl.c, G s, rfl, hG s sl h, fun sl' h' => by cases h'; rfl⟩
  | none => exact ⟨none, 0, 0, [], rfl, ⟨rfl, fun j hj => by omega, by simp⟩, fun sl h' => by cases h'⟩

set_option maxHeartbeats 2000000 in
theorem rfit_any (mo : Option Nat) (n : Nat) (f : ByteArray → Option Sl) (G : ByteArray → List ByteArray) (ao : Option Addr) (len cap : Nat) (L : List ByteArray) (w : World) (hm : mpo w Value.string okS slv mo f n)
    (hG : ∀ x sl, f x = some sl → strs w sl.a sl.l (G x)) (hs : strs w ao len L) (hmax : len ≤ maxLen) :
    Calls Try.prog 12 #[.map mo, .slice ao len cap] w (RPost f n len L w) := by
  unfold maxLen at hmax
  have hlen0 := fun ty => hm.len (t := 27) Try.underlying27 ty 0
  simp only [World.drewN_zero] at hlen0
  have HG : Hid (∀ x sl, f x = some sl → strs w sl.a sl.l (G x)) := hG
  clear hG
  by_cases h1 : n ≤ 65536
  · by_cases h2 : len ≤ 65536
    · go_enter Try.func12, Try.ntmps12
      go_wp2
      go_loop [5, 6] (fun t i => ∃ (k : Nat) (tt : Int), k ≤ len ∧ i = .int .i64 k ∧ t = .int .i64 tt ∧ ∀ x ∈ L.take k, ∀ sl, f x = some sl → sl.l ≤ 65536) (fun _ i => len - (intOf i).toNat)
      case atStart => exact ⟨0, _, by omega, rfl, rfl, by simp⟩
      case round =>
        obtain ⟨k, tt, hk, rfl, rfl, hsh⟩ := hrel
        by_cases hlt : k < len
        · obtain ⟨b, off, hao, hc⟩ := hs.2.1 k hlt
          have hsz := hs.size k
          have HT : Hid (L.take (k + 1) = L.take k ++ [L.getD k ⟨#[]⟩]) := take_getD (by rw [hs.1]; exact hlt)
          have hlk := hm.look ky9 Try.underlying27 zero23 false hsz 0
          generalize L.getD k ⟨#[]⟩ = s at hc hsz hlk HT
          obtain ⟨a1, l1, c1, L1, hlv, hs1, hl1⟩ := look_parts HG.out s
          rw [hlv] at hlk
          simp only [World.drewN_zero] at hlk
          have HSH : Hid (l1 ≤ 65536 → ∀ x ∈ L.take (k + 1), ∀ sl, f x = some sl → sl.l ≤ 65536) := by
            intro hle x hx sl hsl
            rw [HT.out] at hx
            rcases List.mem_append.1 hx with h | h
            · exact hsh x h sl hsl
            · rw [List.mem_singleton.1 h] at hsl
              rw [hl1 sl hsl]
              exact hle
          clear hlv hl1 hsh HT hlen0
          have HS := hs
          subst hao
          clear hs
          by_cases hl65 : l1 ≤ 65536
          · go_wp2
            · go_ret
              exact rNo (Below.refl _ _)
            · go_loop [5, 8] (fun t i => ∃ (j : Nat) (tt : Int), j ≤ l1 ∧ i = .int .i64 j ∧ t = .int .i64 tt) (fun _ i => l1 - (intOf i).toNat)
              case atStart => exact ⟨0, _, by omega, rfl, rfl⟩
              case round =>
                obtain ⟨j, tt', hj, rfl, rfl⟩ := hrel
                by_cases hjl : j < l1
                · obtain ⟨b1, off1, hao1, hc1⟩ := hs1.2.1 j hjl
                  generalize L1.getD j ⟨#[]⟩ = s1 at hc1
                  subst hao1
                  clear hs1
                  go_wp2
                  · go_ret
                    exact rNo (Below.refl _ _)
                  · go_round
                    case rel => exact ⟨j + 1, _, by omega, by go_num, rfl⟩
                    case measure => simp [intOf]; omega
                · go_wp2
                  go_round
                  case rel => exact ⟨k + 1, _, by omega, by go_num, rfl, HSH.out hl65⟩
                  case measure => simp [intOf]; omega
          · go_wp2
            go_ret
            exact rNo (Below.refl _ _)
        · have hmk := run_makeMap_some (P := Try.prog) Try.underlying33 .i64 (len : Int)
          have HSH : Hid (∀ x ∈ L, ∀ sl, f x = some sl → sl.l ≤ 65536) := by
            have hkl : k = len := by omega
            rw [hkl, List.take_of_length_le (by rw [hs.1]; exact Nat.le_refl _)] at hsh
            exact hsh
          clear hsh
          by_cases hnl : len = n
          · have hnl2 : ((len : Int) == (n : Int)) = true := by simp [hnl]
            have HN : Hid (len = n) := hnl
            clear hnl
            go_wp2
            clear hmk hlen0 hnl2
            have hnq : Below w.heap.size w (w.alloc (.map #[] 0)) := (Below.refl _ _).alloc (Nat.le_refl _) _
            go_loopw [10] (fun i w2 => ∃ (k ln : Nat), k ≤ len ∧ i = .int .i64 k ∧ mp w2 Value.string okS Value.bool w.heap.size (setTo (L.take k)) ln ∧ (L.take k).Nodup ∧ (∀ x ∈ L.take k, (f x).isSome = true) ∧ Below w.heap.size w w2) (fun i _ => len - (intOf i).toNat)
            case atStart => exact ⟨0, 0, by omega, rfl, mp_made _ _ _ _, by simp, by simp, hnq⟩
            case round =>
              clear hnq
              obtain ⟨k, ln, hk, rfl, hml, hnd, hin, hnx⟩ := hrel
              have hmr := hm.below hnx
              have hsr := hs.below hnx
              by_cases hlt : k < len
              · obtain ⟨b, off, hao, hc⟩ := hsr.2.1 k hlt
                have hsz := hsr.size k
                have HT : Hid (L.take (k + 1) = L.take k ++ [L.getD k ⟨#[]⟩]) := take_getD (by rw [hs.1]; exact hlt)
                generalize L.getD k ⟨#[]⟩ = s at hc hsz HT
                have hl1 := hml.look ky9 Try.underlying33 zero4 false hsz 0
                rw [setTo_look] at hl1
                have hl2 := hmr.look ky9 Try.underlying27 zero23 true hsz 0
                simp only [World.drewN_zero] at hl1 hl2
                cases hmem : memB (L.take k) s
                · rw [hmem] at hl1
                  have hnm : s ∉ L.take k := fun h => by rw [(memB_iff _ _).2 h] at hmem; cases hmem
                  cases hf : f s with
                  | none =>
                    rw [hf] at hl2
                    simp only [lookV, if_true] at hl2
                    clear hmem hf hs hsr hm hmr hml hnd hin HT hnm
                    subst hao
                    go_wp2
                    go_ret
                    exact rNo hnx
                  | some rs =>
                    rw [hf] at hl2
                    simp only [lookV, if_true] at hl2
                    have hfs : (f s).isSome = true := by rw [hf]; rfl
                    have HF := hfs
                    clear hmem hf hs hsr hm hmr
                    subst hao
                    go_wp2_with (first
                      | (at_mapUpdate; refine wpList_put_mp _ rfl _ _ _ 33 rfl 9 4 ky9 Try.underlying33 w.heap.size ln (setTo (L.take k)) rfl hml s hsz true rfl rfl ?_; intro w2 hml2 hg2 hs2; go_frame))
                    go_roundw
                    case rel =>
                      refine ⟨k + 1, _, by omega, by go_num, by rw [HT.out, ← setTo_snoc]; exact hml2, ?_, ?_, hnx.grown hg2 hnx.size (fun j hj => by cases hj; exact Nat.le_refl _)⟩
                      · rw [HT.out]
                        exact List.nodup_append.2 ⟨hnd, by simp, fun a ha c hc' => by rw [List.mem_singleton.1 hc']; exact fun e => hnm (e ▸ ha)⟩
                      · intro x hx
                        rw [HT.out] at hx
                        rcases List.mem_append.1 hx with h | h
                        · exact hin x h
                        · rw [List.mem_singleton.1 h]
                          exact HF
                    case measure => simp [intOf]; omega
                · rw [hmem] at hl1
                  clear hmem hs hsr hm hmr hml hnd hin HT hl2
                  subst hao
                  go_wp2
                  go_ret
                  exact rNo hnx
              · have hkl : k = len := by omega
                go_wp2
                go_ret
                rw [hkl, List.take_of_length_le (by rw [hs.1]; exact Nat.le_refl _)] at hnd hin
                exact rYes hnx ⟨HN.out, h2, hnd, hin, HSH.out⟩
          · have hnl2 : ((len : Int) == (n : Int)) = false := by simp; omega
            go_wp2
            go_ret
            exact rNo (Below.refl _ _)
    · go_enter Try.func12, Try.ntmps12
      go_wp2
      go_ret
      exact rNo (Below.refl _ _)
  · go_enter Try.func12, Try.ntmps12
    go_wp2
    go_ret
    exact rNo (Below.refl _ _)

end Go.Proofs.Qxb6602946a
