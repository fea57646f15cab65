/- FnMid: the law returns true: a medium's name is its attribute's, a bundle's identifier is its first name, and what is in the bundle is what it lists. -/
import Derived.Test.YtlbmjfjmbgbpeaaBundle
import Derived.Test.YtlbmjfjmbgbpeaaInBundle
import Derived.Test.YtlbmjfjmbgbpeaaJoin
import Derived.Test.YtlbmjfjmbgbpeaaFits3
namespace Go.Proofs.Ytlbmjfjmbgbpeaa
open Go.RowKit

theorem groupOf_one (v : ByteArray) : groupOf [(⟨#[103, 114, 111, 117, 112]⟩, v)] = v := by unfold groupOf; rw [attrOf, if_pos (by simp)]
theorem bundle_head (v : ByteArray) : decide (0 ≤ Lib.index (⟨#[66, 85, 78, 68, 76, 69, 32]⟩ ++ v : ByteArray).data.toList [66, 85, 78, 68, 76, 69]) = true := by
  rw [data_append]; simp [Lib.index, List.isPrefixOf]
theorem bundleIn_joined {l : List ByteArray} (hne : l ≠ []) (hs : ∀ s ∈ l, ∀ b ∈ s.data.toList, b ≠ 32) : bundleIn (⟨#[66, 85, 78, 68, 76, 69, 32]⟩ ++ joined l) = l[0]'(by cases l; exact absurd rfl hne; simp) := by
  unfold bundleIn
  rw [if_pos (bundle_head _)]
  have h := piecesB_before ⟨#[66, 85, 78, 68, 76, 69]⟩ (by decide) hne hs
  have e : ((⟨#[66, 85, 78, 68, 76, 69]⟩ : ByteArray) ++ ⟨#[32]⟩) = ⟨#[66, 85, 78, 68, 76, 69, 32]⟩ := by decide
  rw [e] at h
  rw [h]
  match l, hne with
  | s :: r, _ => rfl

/-- A session with one attribute 'group' has the bundle that its value names. -/
theorem bundle_one (v : ByteArray) (w : World) (b : Nat) (hv : v.size ≤ 4294967296) (c0 : w.cell? ⟨b, 0, none⟩ = some (.string ⟨#[103, 114, 111, 117, 112]⟩)) (c1 : w.cell? ⟨b, 1, none⟩ = some (.string v)) :
    Calls Try.prog 13 #[.agg #[.slice (some ⟨b, 0, none⟩) 1 1, .slice none 0 0]] w fun e w' => e = .returned (.string (bundleIn v)) ∧ Below w.heap.size w w' := by
  have h := bundle_any (E := fun _ => True) (some ⟨b, 0, none⟩) none 1 0 [(⟨#[103, 114, 111, 117, 112]⟩, v)] [] w (by simp) (by rw [groupOf_one]; exact hv) (by simp) (by simp) (kvs_one c0 (by simpa using c1)) (Meds.nil _ _)
  rw [groupOf_one] at h
  exact h

theorem hasB_take {s : ByteArray} {l : List ByteArray} {k : Nat} (hk : k < l.length) : hasB s (l.take (k + 1)) = (hasB s (l.take k) || (l[k].toList == s.toList)) := by
  rw [List.take_succ_eq_append_getElem hk, hasB, List.any_append, hasB, BEq.comm (a := l[k].toList)]; simp

set_option maxHeartbeats 4000000 in
set_option maxRecDepth 100000 in
theorem fnMid_walk {D : Nat → Prop} (m : ByteArray) (A : Option Addr) (c : Nat) (l : List ByteArray) (w : World) (hm : m.size ≤ 9223372036854775807) (hl : l.length * 16 ≤ 140737488351232) (h : Strs D w A l) (hz : ∀ s ∈ l, s.size ≤ 9223372036854775807) :
    Calls Try.prog 5 #[.string m, .slice A l.length c] w fun e w' => e = .returned (.bool true) ∧ Below w.heap.size w w' := by
  have H := Lib.hid h
  have HZ := Lib.hid hz
  clear h hz
  by_cases hms : m.size ≤ 2147483647
  case neg =>
    have hd : decide ((2147483647 : Int) < (m.size : Int)) = true := by simp; omega
    go_enter Try.func5, Try.ntmps5
    go_wp2
    go_ret
    exact ⟨rfl, Below.refl _ _⟩
  have hd0 : decide ((2147483647 : Int) < (m.size : Int)) = false := by simp; omega
  cases hfit : fitsS l with
  | false =>
    have hfc := fits3_any A c l w hl H.out HZ.out
    rw [hfit] at hfc
    have HFC := Lib.hid hfc
    clear hfc hfit
    go_enter Try.func5, Try.ntmps5
    go_wp2_with (go_at_call 10; refine HFC.out.mono ?_; rintro e w1 ⟨rfl, rfl⟩)
    go_ret
    exact ⟨rfl, Below.refl _ _⟩
  | true =>
    have hfm := fitsS_mem hfit
    have HFM := Lib.hid hfm.2
    clear hfm
    have hfc := fits3_any A c l w hl H.out HZ.out
    rw [hfit] at hfc
    have HFC := Lib.hid hfc
    clear hfc hfit
    cases hw : wordB m with
    | false =>
      have hwc := Word_any m w (by omega)
      rw [hw] at hwc
      have HWC := Lib.hid hwc
      clear hwc hw
      go_enter Try.func5, Try.ntmps5
      go_wp2_with (first
        | (go_at_call 10; refine HFC.out.mono ?_; rintro e w1 ⟨rfl, rfl⟩)
        | (go_at_call 11; refine HWC.out.mono ?_; rintro e w1 ⟨rfl, rfl⟩)
        | (go_at_call 7; refine (works_any _).mono ?_; rintro e w2 ⟨rfl, hb2⟩))
      go_ret
      exact ⟨rfl, hb2⟩
    | true =>
      have hwc := Word_any m w (by omega)
      rw [hw] at hwc
      have HWC := Lib.hid hwc
      clear hwc hw
      by_cases h0 : l.length = 0
      · obtain rfl := List.eq_nil_of_length_eq_zero h0
        rw [List.length_nil] at HFC ⊢
        clear hl
        go_enter Try.func5, Try.ntmps5
        go_wp2_with (first
          | (go_at_call 10; refine HFC.out.mono ?_; rintro e w1 ⟨rfl, rfl⟩)
          | (go_at_call 11; refine HWC.out.mono ?_; rintro e w1 ⟨rfl, rfl⟩)
          | (go_at_call 7; refine (works_any _).mono ?_; rintro e w2 ⟨rfl, hb2⟩))
        go_ret
        exact ⟨rfl, hb2⟩
      have hd1 : decide ((l.length : Int) = 0) = false := by simp; intro e; simp [e] at h0
      have hd2 : ((l.length : Int) == 0) = false := by simp; intro e; simp [e] at h0
      by_cases h8 : 8 < l.length
      · have hd3 : decide ((8 : Int) < (l.length : Int)) = true := by simp; omega
        go_enter Try.func5, Try.ntmps5
        go_wp2_with (first
          | (go_at_call 10; refine HFC.out.mono ?_; rintro e w1 ⟨rfl, rfl⟩)
          | (go_at_call 11; refine HWC.out.mono ?_; rintro e w1 ⟨rfl, rfl⟩)
          | (go_at_call 7; refine (works_any _).mono ?_; rintro e w2 ⟨rfl, hb2⟩))
        go_ret
        exact ⟨rfl, hb2⟩
      have hd3 : decide ((8 : Int) < (l.length : Int)) = false := by simp; omega
      go_enter Try.func5, Try.ntmps5
      go_wp2_with (first
        | (go_at_call 10; refine HFC.out.mono ?_; rintro e w1 ⟨rfl, rfl⟩)
        | (go_at_call 11; refine HWC.out.mono ?_; rintro e w1 ⟨rfl, rfl⟩))
      go_loop [5, 33] (fun f i => ∃ (k : Nat) (b : Bool), f = .bool b ∧ i = .int .i64 k ∧ k ≤ l.length ∧ b = hasB m (l.take k) ∧ (∀ s ∈ l.take k, wordB s = true)) (fun _ i => l.length - (intOf i).toNat)
      case atStart => exact ⟨0, false, rfl, rfl, Nat.zero_le _, by simp [hasB], by simp⟩
      case round =>
        obtain ⟨k, b, rfl, rfl, hk, hfb, hwd⟩ := hrel
        have HFB := Lib.hid hfb
        have HWD := Lib.hid hwd
        clear hfb hwd
        by_cases hlt : k < l.length
        · obtain ⟨bb, o, rfl, _, c0⟩ := H.out k l[k] (by simp [hlt])
          have hsk := HFM.out l[k] (List.getElem_mem _)
          have hd : decide ((k : Int) < (l.length : Int)) = true := by simp; omega
          cases hw : wordB l[k] with
          | false =>
            have hwc := Word_any l[k] w (by omega)
            rw [hw] at hwc
            have HWC := Lib.hid hwc
            clear hwc hw
            go_wp2_with (first
              | (go_at_call 11; refine HWC.out.mono ?_; rintro e w1 ⟨rfl, rfl⟩)
              | (go_at_call 7; refine (works_any _).mono ?_; rintro e w2 ⟨rfl, hb2⟩))
            go_ret
            exact ⟨rfl, hb2⟩
          | true =>
            have hwc := Word_any l[k] w (by omega)
            rw [hw] at hwc
            have HWC := Lib.hid hwc
            have wd2 : ∀ s ∈ l.take (k + 1), wordB s = true := by
              rw [List.take_succ_eq_append_getElem hlt]
              intro s hs
              rcases List.mem_append.1 hs with h1 | h1
              · exact HWD.out s h1
              · simp at h1; subst h1; exact hw
            have WD2 := Lib.hid wd2
            clear hwc hw wd2
            have ht := hasB_take (s := m) hlt
            rw [← HFB.out] at ht
            cases b with
            | true =>
              rw [Bool.true_or] at ht
              have HT := Lib.hid ht
              clear ht
              go_wp2_with (go_at_call 11; refine HWC.out.mono ?_; rintro e w1 ⟨rfl, rfl⟩)
              go_round
              case rel => exact ⟨k + 1, true, rfl, by go_num, by omega, HT.out.symm, WD2.out⟩
              case measure => simp [intOf]; omega
            | false =>
              rw [Bool.false_or] at ht
              cases he : (l[k].toList == m.toList) with
              | true =>
                rw [he] at ht
                have HT := Lib.hid ht
                clear ht
                go_wp2_with (go_at_call 11; refine HWC.out.mono ?_; rintro e w1 ⟨rfl, rfl⟩)
                go_round
                case rel => exact ⟨k + 1, true, rfl, by go_num, by omega, HT.out.symm, WD2.out⟩
                case measure => simp [intOf]; omega
              | false =>
                rw [he] at ht
                have HT := Lib.hid ht
                clear ht
                go_wp2_with (go_at_call 11; refine HWC.out.mono ?_; rintro e w1 ⟨rfl, rfl⟩)
                go_round
                case rel => exact ⟨k + 1, false, rfl, by go_num, by omega, HT.out.symm, WD2.out⟩
                case measure => simp [intOf]; omega
        · obtain rfl : k = l.length := by omega
          have hd : decide ((l.length : Int) < (l.length : Int)) = false := by simp
          have hwd := HWD.out
          have hfb := HFB.out
          rw [List.take_length] at hwd hfb
          have hne : l ≠ [] := fun e => by subst e; simp at h0
          have hno : ∀ s ∈ l, ∀ b ∈ s.data.toList, b ≠ 32 := fun s hs => word_no (hwd s hs) (by decide)
          have hjs : (joined l).size ≤ 168 := by
            have h1 := joinGo_size l 0 ⟨#[]⟩
            have h2 := sizes_le (B := 20) l fun s hs => (word_size (hwd s hs)).2
            have h3 : (⟨#[]⟩ : ByteArray).size = 0 := rfl
            unfold joined
            omega
          have hbs : (⟨#[66, 85, 78, 68, 76, 69, 32]⟩ ++ joined l : ByteArray).size ≤ 4294967296 := by
            rw [ByteArray.size_append]; have : (⟨#[66, 85, 78, 68, 76, 69, 32]⟩ : ByteArray).size = 7 := rfl; omega
          have hbc : ∀ (w : World) (b : Nat), w.cell? ⟨b, 0, none⟩ = some (.string ⟨#[103, 114, 111, 117, 112]⟩) → w.cell? ⟨b, 1, none⟩ = some (.string (⟨#[66, 85, 78, 68, 76, 69, 32]⟩ ++ joined l)) →
              Calls Try.prog 13 #[.agg #[.slice (some ⟨b, 0, none⟩) 1 1, .slice none 0 0]] w fun e w' => e = .returned (.string (l[0]'(by omega))) ∧ Below w.heap.size w w' := fun w b c0 c1 => by
            have := bundle_one _ w b hbs c0 c1
            rw [bundleIn_joined hne hno] at this
            exact this
          have hic : ∀ w, Calls Try.prog 16 #[.string (joined l), .string m] w fun e w' => e = .returned (.bool b) ∧ Below w.heap.size w w' := fun w => by
            have := inBundle_any (joined l) m w (by omega)
            rw [piecesB_joined hne hno, ← hfb] at this
            exact this
          have hjc : ∀ w', Kp w w' → Calls Try.prog 14 #[.slice A l.length c] w' fun e w'' => e = .returned (.string (joined l)) ∧ w' = w'' := fun w' k => joined_any A c l w' (by omega) HFM.out (H.out.keep k)
          have HBC := Lib.hid hbc
          have HIC := Lib.hid hic
          have HJC := Lib.hid hjc
          obtain ⟨ob, oo, rfl, _, oc⟩ := H.out 0 (l[0]'(by omega)) (by rw [List.getElem?_eq_getElem (by omega)])
          have hpos : 0 < l.length := by omega
          have HRQ := Lib.hid hne
          have lo := World.block_lt_of_cell? _ _ oc
          clear hbc hic hjc hwd hfb hno hne
          go_wp2_with (first
            | (go_at_call 14; refine (HJC.out _ (by first | exact Kp.refl _ | exact KK.out)).mono ?_; rintro e w1 ⟨rfl, rfl⟩)
            | (go_at_call 13; refine (HBC.out _ w.heap.size (by simp [go_sem]) (by simp [go_sem])).mono ?_; rintro e w1 ⟨rfl, hb1⟩)
            | (go_at_call 15; refine (mid_one _ m _ w1.heap.size (by simp [go_sem]) (by simp [go_sem])).mono ?_; rintro e w2 ⟨rfl, hb2⟩; have KK := Lib.hid (show Kp w w2 from fun p v hp => kp_of_below hb2 _ _ (cell_al (kp_of_below hb1 _ _ (cell_al hp _)) _)); have oc2 : w2.cell? ⟨ob, oo, none⟩ = some (.string (l[0]'(by omega))) := KK.out _ _ (by simpa using oc))
            | (go_at_call 16; refine (HIC.out _).mono ?_; rintro e w3 ⟨rfl, hb3⟩)
            | (go_at_call 7; refine (works_any _).mono ?_; rintro e w4 ⟨rfl, hb4⟩))
          go_ret
          have s1 : w.heap.size + 1 ≤ w1.heap.size := by have := hb1.size; simpa using this
          have s2 : w1.heap.size + 1 ≤ w2.heap.size := by have := hb2.size; simpa using this
          have b1 : Below w.heap.size w w1 := ((Below.refl w.heap.size w).alloc (Nat.le_refl _) _).trans (hb1.mono (by simp))
          have b2 : Below w.heap.size w w2 := (b1.alloc (by omega) _).trans (hb2.mono (by simp; omega))
          have b3 : Below w.heap.size w w3 := below_step b2 (by omega) hb3
          exact ⟨rfl, below_step b3 (by have := hb3.size; omega) hb4⟩
end Go.Proofs.Ytlbmjfjmbgbpeaa
