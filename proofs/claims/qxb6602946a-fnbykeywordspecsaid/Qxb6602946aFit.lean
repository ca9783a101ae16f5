/- zzCfgB1RegroupFit; byKeyword of a nil map; ZZbyKeyword. -/
import Derived.Test.Qxb6602946aBy
namespace Go.Proofs.Qxb6602946a
open Go.RowKit

section
variable {κ α : Type} {emb : κ → Value} {good : κ → Prop} {vemb : α → Value} {w w' : World} {mo : Option Nat} {n : Nat} {f : κ → Option α}

/-- A map's value, nil or not. -/
def mpo (w : World) (emb : κ → Value) (good : κ → Prop) (vemb : α → Value) (mo : Option Nat) (f : κ → Option α) (n : Nat) : Prop :=
  (mo = none ∧ (∀ x, f x = none) ∧ n = 0) ∨ ∃ b, mo = some b ∧ mp w emb good vemb b f n

theorem mpo.below (h : mpo w emb good vemb mo f n) (hb : Below w.heap.size w w') : mpo w' emb good vemb mo f n := by
  rcases h with h | ⟨b, h1, h2⟩
  · exact Or.inl h
  · exact Or.inr ⟨b, h1, h2.below hb h2.lt⟩

theorem mpo.look {P : Program} {k t e : TypeId} (h : mpo w emb good vemb mo f n) (K : Ky P k emb good) (ht : P.underlying t = some (.map k e)) {z : Value} (hz : ∀ w : World, (zeroValue e).run P w = .ok z w) (c : Bool) {x : κ} (hx : good x) (q : Nat) :
    (Instr.lookup t (.map mo) (emb x) c).run P (w.drewN q) = .ok (lookV c vemb z (f x)) (w.drewN q) := by
  rcases h with ⟨rfl, h2, _⟩ | ⟨b, rfl, h2⟩
  · rw [h2 x]
    exact look_nil K ht hz c hx _
  · exact h2.look K ht hz c hx q

theorem mpo.len {P : Program} {k t e : TypeId} (h : mpo w emb good vemb mo f n) (ht : P.underlying t = some (.map k e)) (ty : TypeId) (q : Nat) : (Builtin.len_ #[t] ty #[.map mo]).run P (w.drewN q) = .ok (.int .i64 n) (w.drewN q) := by
  rcases h with ⟨rfl, _, rfl⟩ | ⟨b, rfl, h2⟩
  · simp [Builtin.len_, run_underlying ht, goInt]
  · exact h2.len ht ty q
end

theorem run_makeMap_some {P : Program} {t k e : TypeId} (ht : P.underlying t = some (.map k e)) (q : IntKind) (m : Int) (w : World) : (Instr.makeMap t (some (.int q m))).run P w = .ok (.map (some w.heap.size)) (w.alloc (.map #[] 0)) := by
  simp [Instr.makeMap, run_underlying ht, asInt, asIntOf]

theorem zero9 (w : World) : (zeroValue 9).run Try.prog w = .ok (.string ⟨#[]⟩) w := by kernel_rfl
theorem zero4 (w : World) : (zeroValue 4).run Try.prog w = .ok (.bool false) w := by kernel_rfl
theorem zero23 (w : World) : (zeroValue 23).run Try.prog w = .ok (.slice none 0 0) w := by kernel_rfl

theorem byk_nil (w : World) :
    Calls Try.prog 17 #[.map none] w fun e w' => e = .returned (.map (some w.heap.size)) ∧ mp w' Value.string okS Value.string w.heap.size (fun _ => (none : Option ByteArray)) 0 ∧ Below w.heap.size w w' := by
  have hmm := @run_makeMap Try.prog
  have hrg := run_range_nilMap (P := Try.prog) (w.alloc (.map #[] 0)) 27 9 23 Try.underlying27
  have hnx : ∀ ty, (Instr.next (.pointer (some ⟨(w.alloc (.map #[] 0)).heap.size, 0, none⟩)) false ty).run Try.prog ((w.alloc (.map #[] 0)).alloc (.mapIter none 0 #[] 0)) = _ := fun ty => run_next_nilMap _ ty 0 0 #[]
  have e1 : (w.alloc (.map #[] 0)).heap.size = w.heap.size + 1 := by simp
  rw [e1] at hrg hnx
  go_enter Try.func17, Try.ntmps17
  go_wp2
  refine wp_loop_rounds 1 ?_
  rw [rounds_succ]
  go_wp2
  go_ret
  exact ⟨rfl, (mp_made _ _ _ _).alloc _, ((Below.refl _ _).alloc (Nat.le_refl _) _).alloc (by simp) _⟩

/-- What RegroupFit has found out when it says yes. -/
def Fits (f : ByteArray → Option ByteArray) (n len : Nat) (L : List ByteArray) : Prop := len = n ∧ len ≤ 65536 ∧ L.Nodup ∧ ∀ x ∈ L, (f x).isSome = true

def FitPost (f : ByteArray → Option ByteArray) (n len : Nat) (L : List ByteArray) (w : World) (e : Ending) (w' : World) : Prop := ∃ bb : Bool, e = .returned (.bool bb) ∧ Below w.heap.size w w' ∧ (bb = true → Fits f n len L)
theorem fitNo {f : ByteArray → Option ByteArray} {n len : Nat} {L : List ByteArray} {w w' : World} (h : Below w.heap.size w w') : FitPost f n len L w (.returned (.bool false)) w' := ⟨false, rfl, h, fun h => by cases h⟩
theorem fitYes {f : ByteArray → Option ByteArray} {n len : Nat} {L : List ByteArray} {w w' : World} (h : Below w.heap.size w w') (hf : Fits f n len L) : FitPost f n len L w (.returned (.bool true)) w' := ⟨true, rfl, h, fun _ => hf⟩

theorem take_getD {L : List ByteArray} {k : Nat} (h : k < L.length) : L.take (k + 1) = L.take k ++ [L.getD k ⟨#[]⟩] := by
  rw [List.take_succ_eq_append_getElem h]
  simp [List.getD, h]

def memB (L : List ByteArray) (x : ByteArray) : Bool := L.any fun y => decide (y = x)
theorem memB_iff (L : List ByteArray) (x : ByteArray) : memB L x = true ↔ x ∈ L := by
  unfold memB
  rw [List.any_eq_true]
  constructor
  · rintro ⟨y, hy, h⟩
    rw [← of_decide_eq_true h]
    exact hy
  · exact fun h => ⟨x, h, by simp⟩

/-- The set of what has been listed. -/
def setTo (L : List ByteArray) : ByteArray → Option Bool := fun x => if memB L x then some true else none

theorem setTo_look (L : List ByteArray) (x : ByteArray) : lookV false Value.bool (.bool false) (setTo L x) = .bool (memB L x) := by
  unfold setTo
  cases memB L x <;> rfl

theorem setTo_snoc (L : List ByteArray) (s : ByteArray) : upd (setTo L) s true = setTo (L ++ [s]) := by
  funext x
  unfold upd setTo
  by_cases h : x = s
  · subst h
    have : memB (L ++ [x]) x = true := (memB_iff _ _).2 (by simp)
    simp [this]
  · have : memB (L ++ [s]) x = memB L x := by
      rw [Bool.eq_iff_iff, memB_iff, memB_iff]
      simp [h]
    simp [h, this]

set_option maxHeartbeats 2000000 in
theorem fit_any (mo : Option Nat) (n : Nat) (f : ByteArray → Option ByteArray) (ao : Option Addr) (len cap : Nat) (L : List ByteArray) (w : World) (hm : mpo w Value.string okS Value.string mo f n) (hs : strs w ao len L) (hmax : len ≤ maxLen) :
    Calls Try.prog 15 #[.map mo, .slice ao len cap] w (FitPost f n len L w) := by
  unfold maxLen at hmax
  have hlen0 := fun ty => hm.len (t := 30) Try.underlying30 ty 0
  simp only [World.drewN_zero] at hlen0
  by_cases h1 : n ≤ 65536
  · by_cases h2 : len ≤ 65536
    · go_enter Try.func15, Try.ntmps15
      go_wp2
      go_loopw [5, 6] (fun t i wr => ∃ (k : Nat) (tt : Int), k ≤ len ∧ i = .int .i64 k ∧ t = .int .i64 tt ∧ Below w.heap.size w wr) (fun _ i _ => len - (intOf i).toNat)
      case atStart => exact ⟨0, _, by omega, rfl, rfl, Below.refl _ _⟩
      case round =>
        clear hlen0
        obtain ⟨k, tt, hk, rfl, rfl, hnx⟩ := hrel
        have hmr := hm.below hnx
        have hsr := hs.below hnx
        by_cases hlt : k < len
        · obtain ⟨b, off, hao, hc⟩ := hsr.2.1 k hlt
          have hsz := hsr.size k
          have hlk := hmr.look ky9 Try.underlying30 zero9 false hsz
          generalize L.getD k ⟨#[]⟩ = s at hc hsz hlk
          generalize hrs : (f s).getD ⟨#[]⟩ = rs
          have hlv : lookV false Value.string (.string ⟨#[]⟩) (f s) = .string rs := by rw [← hrs]; cases f s <;> rfl
          rw [hlv] at hlk
          clear hlv hrs hsr hmr hs hm
          subst hao
          go_wp2_with fail
          go_quiet (fail)
          go_wp2
          · go_ret
            exact fitNo (below_drewN hnx _)
          · go_roundw
            case rel => exact ⟨k + 1, _, by omega, by go_num, rfl, below_drewN hnx _⟩
            case measure => simp [intOf]; omega
        · have hlen1 := fun ty => hmr.len (t := 30) Try.underlying30 ty 0
          simp only [World.drewN_zero] at hlen1
          have hmk := run_makeMap_some (P := Try.prog) Try.underlying33 .i64 (len : Int)
          by_cases hnl : len = n
          · have hnl2 : ((len : Int) == (n : Int)) = true := by simp [hnl]
            have HN : Hid (len = n) := hnl
            clear hnl
            go_wp2
            clear hmk hlen1 hnl2 hmr hsr
            rename World => wq
            have hwq := hnx.size
            have hnq := hnx.alloc hwq (.map #[] 0)
            go_loopw [8] (fun i w2 => ∃ (k ln : Nat), k ≤ len ∧ i = .int .i64 k ∧ mp w2 Value.string okS Value.bool wq.heap.size (setTo (L.take k)) ln ∧ (L.take k).Nodup ∧ (∀ x ∈ L.take k, (f x).isSome = true) ∧ Below w.heap.size w w2) (fun i _ => len - (intOf i).toNat)
            case atStart => exact ⟨0, 0, by omega, rfl, mp_made _ _ _ _, by simp, by simp, hnq⟩
            case round =>
              clear hnq hnx
              obtain ⟨k, ln, hk, rfl, hml, hnd, hin, hnx⟩ := hrel
              have hmr := hm.below hnx
              have hsr := hs.below hnx
              by_cases hlt : k < len
              · obtain ⟨b, off, hao, hc⟩ := hsr.2.1 k hlt
                have hsz := hsr.size k
                have HT : Hid (L.take (k + 1) = L.take k ++ [L.getD k ⟨#[]⟩]) := take_getD (by rw [hs.1]; exact hlt)
                generalize L.getD k ⟨#[]⟩ = s at hc hsz HT
                have hl1 := hml.look ky9 Try.underlying33 zero4 false hsz 0
                rw [setTo_look] at hl1
                have hl2 := hmr.look ky9 Try.underlying30 zero9 true hsz 0
                simp only [World.drewN_zero] at hl1 hl2
                cases hmem : memB (L.take k) s
                · rw [hmem] at hl1
                  have hnm : s ∉ L.take k := fun h => by rw [(memB_iff _ _).2 h] at hmem; cases hmem
                  cases hf : f s with
                  | none =>
                    rw [hf] at hl2
                    simp only [lookV, if_true] at hl2
                    clear hmem hf hs hsr hm hmr hml hnd hin HT hnm
                    subst hao
                    go_wp2
                    go_ret
                    exact fitNo hnx
                  | some rs =>
                    rw [hf] at hl2
                    simp only [lookV, if_true] at hl2
                    have hfs : (f s).isSome = true := by rw [hf]; rfl
                    have HF := hfs
                    clear hmem hf hs hsr hm hmr
                    subst hao
                    go_wp2_with (first
                      | (at_mapUpdate; refine wpList_put_mp _ rfl _ _ _ 33 rfl 9 4 ky9 Try.underlying33 wq.heap.size ln (setTo (L.take k)) rfl hml s hsz true rfl rfl ?_; intro w2 hml2 hg2 hs2; go_frame))
                    go_roundw
                    case rel =>
                      refine ⟨k + 1, _, by omega, by go_num, by rw [HT.out, ← setTo_snoc]; exact hml2, ?_, ?_, hnx.grown hg2 hnx.size (fun j hj => by cases hj; exact hwq)⟩
                      · rw [HT.out]
                        exact List.nodup_append.2 ⟨hnd, by simp, fun a ha c hc' => by rw [List.mem_singleton.1 hc']; exact fun e => hnm (e ▸ ha)⟩
                      · intro x hx
                        rw [HT.out] at hx
                        rcases List.mem_append.1 hx with h | h
                        · exact hin x h
                        · rw [List.mem_singleton.1 h]
                          exact HF
                    case measure => simp [intOf]; omega
                · rw [hmem] at hl1
                  clear hmem hs hsr hm hmr hml hnd hin HT hl2
                  subst hao
                  go_wp2
                  go_ret
                  exact fitNo hnx
              · have hkl : k = len := by omega
                go_wp2
                go_ret
                rw [hkl, List.take_of_length_le (by rw [hs.1]; exact Nat.le_refl _)] at hnd hin
                exact fitYes hnx ⟨HN.out, h2, hnd, hin⟩
          · have hnl2 : ((len : Int) == (n : Int)) = false := by simp; omega
            go_wp2
            go_ret
            exact fitNo hnx
    · go_enter Try.func15, Try.ntmps15
      go_wp2
      go_ret
      exact fitNo (Below.refl _ _)
  · go_enter Try.func15, Try.ntmps15
    go_wp2
    go_ret
    exact fitNo (Below.refl _ _)

end Go.Proofs.Qxb6602946a
