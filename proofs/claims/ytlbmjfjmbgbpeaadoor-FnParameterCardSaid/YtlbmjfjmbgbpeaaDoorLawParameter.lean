/- FnParameter: the law returns true: a parameter of a format is the one of its key. -/
import Derived.Test.YtlbmjfjmbgbpeaaDoorParam
import Derived.Test.YtlbmjfjmbgbpeaaDoorValLaw
import Derived.Test.YtlbmjfjmbgbpeaaDoorFits1
namespace Go.Proofs.YtlbmjfjmbgbpeaaDoor
open Go.RowKit Go.Maps

set_option maxHeartbeats 2000000 in
set_option maxRecDepth 100000 in
theorem fnParameter_walk {D : Nat → Prop} (A : Option Addr) (c : Nat) (l : List KV) (key : ByteArray) (w : World) (hl : l.length * 32 ≤ 140737488351232) (hz : ∀ p ∈ l, p.1.size ≤ 9223372036854775807 ∧ p.2.size ≤ 9223372036854775807) (hkz : key.size ≤ 9223372036854775807) (hsp : Spaces w) (h : KVs D w A l) :
    Calls Tryd.prog 5 #[.slice A l.length c, .string key] w fun e w' => e = .returned (.bool true) ∧ Below w.heap.size w w' := by
  have hfc := fits1_any A c l w hl h hz
  cases hf : fitsP l with
  | false =>
    rw [hf] at hfc
    have HFC := Lib.hid hfc
    clear hfc hsp h hz
    go_enter Tryd.func5, Tryd.ntmps5
    go_wp2_with (go_at_call 15; refine HFC.out.mono ?_; rintro e w1 ⟨rfl, hb⟩)
    go_ret
    exact ⟨rfl, hb⟩
  | true =>
    rw [hf] at hfc
    obtain ⟨hlen, hzz⟩ := fitsP_mem hf
    have HFC := Lib.hid hfc
    have HZZ := Lib.hid hzz
    have HPA := Lib.hid (fun w h => pairs_any (D := D) A c l w (by omega) h)
    have H := Lib.hid h
    have HSP := Lib.hid hsp
    clear hfc hf hzz hz hsp h
    by_cases hkm : 2147483647 < key.size
    · go_enter Tryd.func5, Tryd.ntmps5
      go_wp2_with (go_at_call 15; refine HFC.out.mono ?_; rintro e w1 ⟨rfl, hb⟩)
      go_ret
      exact ⟨rfl, hb⟩
    · cases hp : paramsB l with
      | false =>
        have HP := Lib.hid hp
        clear hp
        go_enter Tryd.func5, Tryd.ntmps5
        go_wp2_with (first
          | (go_at_call 15; refine HFC.out.mono ?_; rintro e w1 ⟨rfl, hb1⟩)
          | (go_at_call 16; refine (HPA.out _ (H.out.keep (kp_of_below hb1))).mono ?_; rintro e w2 ⟨A2, c2, rfl, hk2, hb2⟩)
          | (go_at_call 17; have hpc := params_any A2 c2 l w2 (by omega) HZZ.out hk2; rw [HP.out] at hpc; refine hpc.mono ?_; rintro e w3 ⟨rfl, hb3⟩; clear hpc)
          | (go_at_call 9; refine (works_any _).mono ?_; rintro e w4 ⟨rfl, hb4⟩))
        go_ret
        have s1 := hb1.size
        have s2 := hb2.size
        have s3 := hb3.size
        exact ⟨rfl, below_step (below_step (below_step hb1 s1 hb2) (by omega) hb3) (by omega) hb4⟩
      | true =>
        have hwd := paramsB_words hp
        have hrs := paramsB_rises hp
        have hl8 := paramsB_length hp
        have HP := Lib.hid hp
        have HSK := Lib.hid (fun w => small_any key w (by omega))
        clear hp
        by_cases hne : 0 < l.length
        · have n0 : (l.length == 0) = false := by rw [beq_eq_false_iff_ne]; omega
          have n1 : ¬ l.length = 0 := by omega
          cases hks : (key.toList == (small key).toList) with
          | false =>
            clear hwd hrs
            go_enter Tryd.func5, Tryd.ntmps5
            go_wp2_with (first
              | (go_at_call 15; refine HFC.out.mono ?_; rintro e w1 ⟨rfl, hb1⟩)
              | (go_at_call 16; refine (HPA.out _ (H.out.keep (kp_of_below hb1))).mono ?_; rintro e w2 ⟨A2, c2, rfl, hk2, hb2⟩)
              | (go_at_call 17; have hpc := params_any A2 c2 l w2 (by omega) HZZ.out hk2; rw [HP.out] at hpc; refine hpc.mono ?_; rintro e w3 ⟨rfl, hb3⟩; clear hpc)
              | (go_at_call 18; refine (HSK.out _).mono ?_; rintro e w4 ⟨rfl, hb4⟩)
              | (go_at_call 9; refine (works_any _).mono ?_; rintro e w5 ⟨rfl, hb5⟩))
            go_ret
            have s1 := hb1.size
            have s2 := hb2.size
            have s3 := hb3.size
            have s4 := hb4.size
            exact ⟨rfl, below_step (below_step (below_step (below_step hb1 s1 hb2) (by omega) hb3) (by omega) hb4) (by omega) hb5⟩
          | true =>
            have hke : (small key).toList = key.data.toList := by
              have := eq_of_beq hks
              rw [← this, Lib.toList_data]
            have hw20 : ∀ p ∈ l, p.1.size ≤ 20 ∧ p.2.size ≤ 20 := fun p hp => ⟨(word_size (hwd p hp).1).2, (word_size (hwd p hp).2).2⟩
            have hlc := fun (D2 : Nat → Prop) A2 c2 (w2 : World) h2 => line_any (D := D2) A2 c2 l false w2 (by omega) hw20 h2
            have hvl := fun (D2 : Nat → Prop) A2 c2 (w2 : World) h2 => value_any (D := D2) A2 c2 l key w2 (by omega) (fun p hp => by have := (hw20 p hp).1; omega) (by omega) h2
            rw [hke, valOf_mapAt (H := Unit) hrs key.data.toList] at hvl
            have hpf := fun w3 (hz3 : (lineOf false l).size ≤ l.length * 43) hs3 => paramFn_any (H := Unit) ⟨#[97, 117, 100, 105, 111, 47, 111, 112, 117, 115]⟩ (lineOf false l) key 48000 2 l.length (mapAt Unit l l.length) w3 (by omega) (by omega) (by omega) (by omega) opus_other (parses_line hne hl8 (by omega) hwd) (by unfold maxLen; omega) hs3 (fun h => valAt_none h)
            have HLC := Lib.hid hlc
            have HVL := Lib.hid hvl
            have HPF := Lib.hid hpf
            clear hlc hvl hpf hw20 hwd hrs hke
            generalize has (mapAt Unit l l.length) (.string key.data.toList) = is at HVL HPF
            generalize valAt (mapAt Unit l l.length) key.data.toList = s at HVL HPF
            generalize lineOf false l = line at HLC HPF
            go_enter Tryd.func5, Tryd.ntmps5
            go_wp2_with (first
              | (go_at_call 15; refine HFC.out.mono ?_; rintro e w1 ⟨rfl, hb1⟩)
              | (go_at_call 16; refine (HPA.out _ (H.out.keep (kp_of_below hb1))).mono ?_; rintro e w2 ⟨A2, c2, rfl, hk2, hb2⟩)
              | (go_at_call 17; have hpc := params_any A2 c2 l w2 (by omega) HZZ.out hk2; rw [HP.out] at hpc; refine hpc.mono ?_; rintro e w3 ⟨rfl, hb3⟩; clear hpc)
              | (go_at_call 18; refine (HSK.out _).mono ?_; rintro e w4 ⟨rfl, hb4⟩)
              | (go_at_call 19; refine (HVL.out _ A2 c2 _ (hk2.keep ((kp_of_below hb3).trans (kp_of_below hb4)))).mono ?_; rintro e w5 ⟨rfl, hb5⟩)
              | (go_at_call 21; refine (HLC.out _ A2 c2 _ (hk2.keep (((kp_of_below hb3).trans (kp_of_below hb4)).trans (kp_of_below hb5)))).mono ?_; rintro e w6 ⟨rfl, hlz, hb6⟩; have s1 := hb1.size; have s2 := hb2.size; have s3 := hb3.size; have s4 := hb4.size; have s5 := hb5.size; have s6 := hb6.size; have b6 : Below w.heap.size w w6 := below_step (below_step (below_step (below_step (below_step hb1 s1 hb2) (by omega) hb3) (by omega) hb4) (by omega) hb5) (by omega) hb6)
              | (go_at_call 20; refine (HPF.out _ hlz (HSP.out.below b6)).mono ?_; rintro e w7 ⟨rfl, hb7⟩; have s7 := hb7.size)
              | (go_at_call 9; refine (works_any _).mono ?_; rintro e w8 ⟨rfl, hb8⟩))
            go_ret
            exact ⟨rfl, below_step (below_step b6 (by omega) hb7) (by omega) hb8⟩
        · have hl0 : l.length = 0 := by omega
          have h0 : l = [] := List.length_eq_zero_iff.1 hl0
          subst h0
          clear hne hl0 hrs hwd
          go_enter Tryd.func5, Tryd.ntmps5
          go_wp2_with (first
            | (go_at_call 15; refine HFC.out.mono ?_; rintro e w1 ⟨rfl, hb1⟩)
            | (go_at_call 16; refine (HPA.out _ (H.out.keep (kp_of_below hb1))).mono ?_; rintro e w2 ⟨A2, c2, rfl, hk2, hb2⟩)
            | (go_at_call 17; have hpc := params_any A2 c2 [] w2 (by simp) HZZ.out hk2; rw [HP.out] at hpc; refine hpc.mono ?_; rintro e w3 ⟨rfl, hb3⟩; clear hpc)
            | (go_at_call 9; refine (works_any _).mono ?_; rintro e w4 ⟨rfl, hb4⟩))
          go_ret
          have s1 := hb1.size
          have s2 := hb2.size
          have s3 := hb3.size
          exact ⟨rfl, below_step (below_step (below_step hb1 s1 hb2) (by omega) hb3) (by omega) hb4⟩
end Go.Proofs.YtlbmjfjmbgbpeaaDoor
