/- FnParams: the law returns true: a line of parameters is read as these, keys in small letters. -/
import Derived.Test.YtlbmjfjmbgbpeaaDoorParamsFn
import Derived.Test.YtlbmjfjmbgbpeaaDoorFits1
namespace Go.Proofs.YtlbmjfjmbgbpeaaDoor
open Go.RowKit

theorem line_size {l : List KV} (blank : Bool) {n : Nat} (h : (lineOf blank l).size ≤ l.length * 43) (hl : l.length ≤ n) : (lineOf blank l).size ≤ n * 43 := by omega

set_option maxHeartbeats 2000000 in
set_option maxRecDepth 100000 in
theorem fnParams_walk {D : Nat → Prop} (A : Option Addr) (c : Nat) (l : List KV) (blank : Bool) (w : World) (hl : l.length * 32 ≤ 140737488351232) (hz : ∀ p ∈ l, p.1.size ≤ 9223372036854775807 ∧ p.2.size ≤ 9223372036854775807) (hsp : Spaces w) (h : KVs D w A l) :
    Calls Tryd.prog 7 #[.slice A l.length c, .bool blank] w fun e w' => e = .returned (.bool true) ∧ Below w.heap.size w w' := by
  have hfc := fits1_any A c l w hl h hz
  cases hf : fitsP l with
  | false =>
    rw [hf] at hfc
    have HFC := Lib.hid hfc
    clear hfc hsp h hz
    go_enter Tryd.func7, Tryd.ntmps7
    go_wp2_with (go_at_call 15; refine HFC.out.mono ?_; rintro e w1 ⟨rfl, hb⟩)
    go_ret
    exact ⟨rfl, hb⟩
  | true =>
    rw [hf] at hfc
    obtain ⟨hlen, hzz⟩ := fitsP_mem hf
    have HFC := Lib.hid hfc
    have HZZ := Lib.hid hzz
    have HPA := Lib.hid (fun w h => pairs_any (D := D) A c l w (by omega) h)
    have H := Lib.hid h
    have HSP := Lib.hid hsp
    clear hfc hf hzz hz hsp h
    cases hp : paramsB l with
    | false =>
      have HP := Lib.hid hp
      clear hp
      go_enter Tryd.func7, Tryd.ntmps7
      go_wp2_with (first
        | (go_at_call 15; refine HFC.out.mono ?_; rintro e w1 ⟨rfl, hb1⟩)
        | (go_at_call 16; refine (HPA.out _ (H.out.keep (kp_of_below hb1))).mono ?_; rintro e w2 ⟨A2, c2, rfl, hk2, hb2⟩)
        | (go_at_call 17; have hpc := params_any A2 c2 l w2 (by omega) HZZ.out hk2; rw [HP.out] at hpc; refine hpc.mono ?_; rintro e w3 ⟨rfl, hb3⟩; clear hpc)
        | (go_at_call 9; refine (works_any _).mono ?_; rintro e w4 ⟨rfl, hb4⟩))
      go_ret
      have s1 := hb1.size
      have s2 := hb2.size
      have s3 := hb3.size
      exact ⟨rfl, below_step (below_step (below_step hb1 s1 hb2) (by omega) hb3) (by omega) hb4⟩
    | true =>
      have hwd := paramsB_words hp
      have hrs := paramsB_rises hp
      have hl8 := paramsB_length hp
      have HP := Lib.hid hp
      clear hp
      by_cases hne : 0 < l.length
      · have hw20 : ∀ p ∈ l, p.1.size ≤ 20 ∧ p.2.size ≤ 20 := fun p hp => ⟨(word_size (hwd p hp).1).2, (word_size (hwd p hp).2).2⟩
        have hl43 : l.length * 43 ≤ 344 := by omega
        have hlc := fun (D2 : Nat → Prop) A2 c2 (w2 : World) h2 => line_any (D := D2) A2 c2 l blank w2 (by omega) hw20 h2
        have hfn := fun w3 (hz3 : (lineOf blank l).size ≤ l.length * 43) hs3 => paramsFn_any l blank w3 hne hl8 (by omega) hwd hrs hs3
        have n0 : (l.length == 0) = false := by rw [beq_eq_false_iff_ne]; omega
        have n1 : ¬ l.length = 0 := by omega
        have hsl := smallKeys_length l
        have hsg : ∀ k (hk : k < l.length), (smallKeys l)[k]? = some (small l[k].1, l[k].2) := fun k hk => by simp [smallKeys, List.getElem?_eq_getElem hk]
        have hsm : ∀ k (hk : k < l.length) w, Calls Tryd.prog 18 #[.string l[k].1] w fun e w' => e = .returned (.string (small l[k].1)) ∧ Below w.heap.size w w' := fun k hk w => small_any _ w (by have := (HZZ.out _ (List.getElem_mem hk)).1; omega)
        have HLC := Lib.hid hlc
        have HFN := Lib.hid hfn
        have HSG := Lib.hid hsg
        have HSM := Lib.hid hsm
        clear hlc hfn hsg hsm hw20 hwd hrs
        rw [hsl] at HFN
        generalize smallKeys l = sl at HFN HSG hsl
        generalize lineOf blank l = line at HLC HFN
        go_enter Tryd.func7, Tryd.ntmps7
        go_wp2_with (first
          | (go_at_call 15; refine HFC.out.mono ?_; rintro e w1 ⟨rfl, hb1⟩)
          | (go_at_call 16; refine (HPA.out _ (H.out.keep (kp_of_below hb1))).mono ?_; rintro e w2 ⟨A2, c2, rfl, hk2, hb2⟩)
          | (go_at_call 17; have hpc := params_any A2 c2 l w2 (by omega) HZZ.out hk2; rw [HP.out] at hpc; refine hpc.mono ?_; rintro e w3 ⟨rfl, hb3⟩; clear hpc)
          | (go_at_call 21; refine (HLC.out _ A2 c2 _ (hk2.keep (kp_of_below hb3))).mono ?_; rintro e w4 ⟨rfl, hlz, hb4⟩; have s1 := hb1.size; have s2 := hb2.size; have s3 := hb3.size; have s4 := hb4.size; have b4 : Below w.heap.size w w4 := below_step (below_step (below_step hb1 s1 hb2) (by omega) hb3) (by omega) hb4)
          | (go_at_call 27; refine (HFN.out _ hlz (HSP.out.below b4)).mono ?_; rintro e w5 ⟨A5, c5, rfl, hk5, hb5⟩))
        have s5 := hb5.size
        have bel5 : Below w.heap.size w w5 := below_step b4 (by omega) hb5
        have hx5 : KVs (w1.heap.size ≤ ·) w5 A2 l := hk2.keep (((kp_of_below hb3).trans (kp_of_below hb4)).trans (kp_of_below hb5))
        have BEL := Lib.hid bel5
        have HX := Lib.hid hx5
        have HG := Lib.hid hk5
        have s0 : w.heap.size ≤ w5.heap.size := by omega
        clear bel5 hx5 hk5 hk2 b4 hb1 hb2 hb3 hb4 hb5 hlz
        go_loopw [34] (fun i wr => ∃ k : Nat, i = .int .i64 k ∧ k ≤ l.length ∧ Below w5.heap.size w5 wr) (fun i _ => l.length - (intOf i).toNat)
        case atStart => exact ⟨0, rfl, Nat.zero_le _, Below.refl _ _⟩
        case round =>
          obtain ⟨k, rfl, hk, hb⟩ := hrel
          have hsz := hb.size
          by_cases hlt : k < l.length
          · obtain ⟨b, o, rfl, _, c0, c1⟩ := HX.out k l[k] (by simp [hlt])
            obtain ⟨b', o', rfl, _, g0, g1⟩ := HG.out k _ (HSG.out k hlt)
            have d0 := kp_of_below hb _ _ c0
            have d1 := kp_of_below hb _ _ c1
            have e0 := kp_of_below hb _ _ g0
            have e1 := kp_of_below hb _ _ g1
            have HS1 := Lib.hid (HSM.out k hlt)
            clear c0 c1 g0 g1
            generalize l[k].1 = x1 at d0 HS1 e0
            generalize l[k].2 = x2 at d1 e1
            go_wp2_with fail
            have m0 : ∀ x : Later (wr.alloc (.cells #[.string x1, .string x2] 63)), x.W.cell? ⟨wr.heap.size, 0, none⟩ = some (.string x1) := fun x => x.cell (by simp [go_sem])
            have m1 : ∀ x : Later (wr.alloc (.cells #[.string x1, .string x2] 63)), x.W.cell? ⟨wr.heap.size, 1, none⟩ = some (.string x2) := fun x => x.cell (by simp [go_sem])
            have m2 : ∀ x : Later (wr.alloc (.cells #[.string x1, .string x2] 63)), x.W.cell? ⟨b', o' + k * 2, none⟩ = some (.string (small x1)) := fun x => x.cell (cell_al e0 _)
            have m3 : ∀ x : Later (wr.alloc (.cells #[.string x1, .string x2] 63)), x.W.cell? ⟨b', o' + k * 2 + 1, none⟩ = some (.string x2) := fun x => x.cell (cell_al e1 _)
            refine wp_region_later (by kernel_rfl) (by kernel_rfl) ?_
            repeat (go_big_quiet_step (first | (go_at_call_of 18 x1; exact Calls.later (HS1.out _))))
            refine wpQuiet_nil ?_
            rintro _ ⟨x, rfl⟩
            have bel := below_step hb hsz (((Below.refl _ _).alloc (Nat.le_refl _) _).trans (x.h.mono (by simp)))
            have BL := Lib.hid bel
            clear bel
            go_wp2
            go_roundw
            case rel => exact ⟨k + 1, by go_num, by omega, BL.out⟩
            case measure => simp [intOf]; omega
          · go_wp2_with (go_at_call 9; refine (works_any _).mono ?_; rintro e w6 ⟨rfl, hb6⟩)
            go_ret
            exact ⟨rfl, below_step (below_step BEL.out s0 hb) (by omega) hb6⟩
      · have hl0 : l.length = 0 := by omega
        have h0 : l = [] := List.length_eq_zero_iff.1 hl0
        subst h0
        clear hne hl0 hrs hwd
        go_enter Tryd.func7, Tryd.ntmps7
        go_wp2_with (first
          | (go_at_call 15; refine HFC.out.mono ?_; rintro e w1 ⟨rfl, hb1⟩)
          | (go_at_call 16; refine (HPA.out _ (H.out.keep (kp_of_below hb1))).mono ?_; rintro e w2 ⟨A2, c2, rfl, hk2, hb2⟩)
          | (go_at_call 17; have hpc := params_any A2 c2 [] w2 (by simp) HZZ.out hk2; rw [HP.out] at hpc; refine hpc.mono ?_; rintro e w3 ⟨rfl, hb3⟩; clear hpc)
          | (go_at_call 9; refine (works_any _).mono ?_; rintro e w4 ⟨rfl, hb4⟩))
        go_ret
        have s1 := hb1.size
        have s2 := hb2.size
        have s3 := hb3.size
        exact ⟨rfl, below_step (below_step (below_step hb1 s1 hb2) (by omega) hb3) (by omega) hb4⟩
end Go.Proofs.YtlbmjfjmbgbpeaaDoor
