/- FnExtensions: the law returns true: the extensions of a medium have their numbers. -/
import Derived.Test.YtlbmjfjmbgbpeaaDoorExtPairs
import Derived.Test.YtlbmjfjmbgbpeaaDoorFits3
import Derived.Test.YtlbmjfjmbgbpeaaDoorLater
import Derived.Deep.AppendLies
import Derived.Deep.RegionLaw
import Derived.Sort.Walk0
namespace Go.Proofs.YtlbmjfjmbgbpeaaDoor
open Go.RowKit

theorem extAttrs_snoc : ∀ (l : List ByteArray) (first : Nat) (s : ByteArray), extAttrs first (l ++ [s]) = extAttrs first l ++ [(⟨#[101, 120, 116, 109, 97, 112]⟩, extVal (first + l.length) s)]
  | [], first, s => rfl
  | a :: r, first, s => by
    have := extAttrs_snoc r (first + 1) s
    rw [List.cons_append, extAttrs, this, List.length_cons, show first + (r.length + 1) = first + 1 + r.length by omega]
    rfl
theorem ext_cells {first k : Nat} {l : List ByteArray} (hk : k < l.length) : kvCells (extAttrs first (l.take (k + 1))) = kvCells (extAttrs first (l.take k)) ++ [.string ⟨#[101, 120, 116, 109, 97, 112]⟩, .string (extVal (first + k) l[k])] := by
  rw [List.take_succ_eq_append_getElem hk, extAttrs_snoc, kvCells_snoc, List.length_take, Nat.min_eq_left (by omega)]
/-- The texts as lists of bytes. -/
def rawL (l : List ByteArray) : List (List UInt8) := l.map fun s => s.data.toList
theorem raw_step {l : List ByteArray} {k : Nat} (hk : k < l.length) (h : (rawL (l.take k)).Pairwise (· < ·)) (hp : ∀ j (hj : j < k), j + 1 = k → l[j].data.toList < l[k].data.toList) : (rawL (l.take (k + 1))).Pairwise (· < ·) := by
  unfold rawL at h ⊢
  rw [List.take_succ_eq_append_getElem hk, List.map_append, List.pairwise_append]
  refine ⟨h, by simp, fun a ha b hb => ?_⟩
  simp at hb
  subst hb
  obtain ⟨s, hs, rfl⟩ := List.mem_map.1 ha
  obtain ⟨i, hi, rfl⟩ := List.getElem_of_mem hs
  have hik : i < k := by rw [List.length_take] at hi; omega
  rw [List.getElem_take]
  by_cases e : i + 1 = k
  · exact hp i hik e
  · have h1 : l[i].data.toList < l[k - 1].data.toList := by
      have := List.pairwise_iff_getElem.1 h i (k - 1) (by simp; omega) (by simp; omega) (by omega)
      simpa using this
    exact List.lt_trans h1 (hp (k - 1) (by omega) (by omega))
theorem uri_lt {a b : ByteArray} (h : a.data.toList < b.data.toList) : (uriOf a).data.toList < (uriOf b).data.toList := by
  rw [uriOf_data, uriOf_data]
  simpa [List.cons_lt_cons_iff] using h
theorem uri_rises {l : List ByteArray} (h : (rawL l).Pairwise (· < ·)) : (l.map fun s => (uriOf s).data.toList).Pairwise (· < ·) := by
  unfold rawL at h
  rw [List.pairwise_map] at h ⊢
  exact h.imp fun h => uri_lt h

theorem Tryd.infoKVx : (Tryd.prog.info? 32).map (fun i => (i.zero, i.size, i.bytes)) = some (some (.agg #[.string ByteArray.empty, .string ByteArray.empty]), 2, 32) := by kernel_rfl

set_option maxHeartbeats 4000000 in
set_option maxRecDepth 100000 in
theorem fnExtensions_main {D : Nat → Prop} (A : Option Addr) (c : Nat) (l : List ByteArray) (first : Nat) (w : World) (hf1 : 1 ≤ first) (hf2 : first ≤ 200) (hl8 : l.length ≤ 8) (hfc : Calls Tryd.prog 28 #[.slice A l.length c] w fun e w' => e = .returned (.bool true) ∧ w = w') (hsp : Spaces w) (h : Strs D w A l) (hz : ∀ s ∈ l, s.size ≤ 2147483647) :
    Calls Tryd.prog 8 #[.slice A l.length c, .int .i64 first] w fun e w' => e = .returned (.bool true) ∧ Below w.heap.size w w' := by
  have H := Lib.hid h
  have HZ := Lib.hid hz
  have HSP := Lib.hid hsp
  have HFC := Lib.hid hfc
  clear h hz hsp hfc
  obtain ⟨i0, hi, hz0, hz1, hz2⟩ := info_parts Tryd.infoKVx
  have q1 : decide ((8 : Int) < (l.length : Int)) = false := by simp; omega
  have q2 : decide ((first : Int) < 1) = false := by simp; omega
  have q3 : decide ((200 : Int) < (first : Int)) = false := by simp; omega
  go_enter Tryd.func8, Tryd.ntmps8
  go_wp2_with (go_at_call 28; refine HFC.out.mono ?_; rintro e w1 ⟨rfl, rfl⟩)
  go_loopw [30] (fun i wr => ∃ (k : Nat) (v : Value), k ≤ l.length ∧ i = .int .i64 k ∧ wr.cell? ⟨w.heap.size, 0, none⟩ = some (.string ⟨#[97, 117, 100, 105, 111]⟩) ∧ wr.cell? ⟨w.heap.size, 1, none⟩ = some (.slice none 0 0) ∧ wr.cell? ⟨w.heap.size, 2, none⟩ = some v ∧
      wr.frozen? ⟨w.heap.size, 2, none⟩ = false ∧ wr.ownsRow (w.heap.size + 1) 32 2 v k (kvCells (extAttrs first (l.take k))) ∧ (∀ s ∈ l.take k, wordB s = true) ∧ (rawL (l.take k)).Pairwise (· < ·) ∧ Below w.heap.size w wr) (fun i _ => l.length - (intOf i).toNat)
  case atStart => exact ⟨0, _, Nat.zero_le _, rfl, by simp [go_sem], by simp [go_sem], by simp [go_sem], by simp [go_sem], World.ownsRow_nil _ _ _ _, by simp, List.Pairwise.nil, (Below.refl _ _).alloc (Nat.le_refl _) _⟩
  case round =>
    obtain ⟨wo, rfl⟩ : ∃ wo : World, wo = wr := ⟨_, rfl⟩
    obtain ⟨k, v, hk, rfl, m0, m1, m2, mz, hown, hwd, hrs, hb⟩ := hrel
    have HOWN := Lib.hid hown
    have HWD := Lib.hid hwd
    have HRS := Lib.hid hrs
    clear hown hwd hrs
    have hsz := hb.size
    have lt0 : w.heap.size < wo.heap.size := World.block_lt_of_cell? _ _ m0
    by_cases hlt : k < l.length
    · obtain ⟨b, o, rfl, _, c0⟩ := H.out k l[k] (by simp [hlt])
      have d0 := kp_of_below hb _ _ c0
      have hsk := HZ.out l[k] (List.getElem_mem _)
      have hd : decide ((k : Int) < (l.length : Int)) = true := by simp; omega
      cases hw : wordB l[k] with
      | false =>
        have hwc := Word_any l[k] wo (by omega)
        rw [hw] at hwc
        have HWC := Lib.hid hwc
        clear hwc hw
        go_wp2_with (first
          | (go_at_call 29; refine HWC.out.mono ?_; rintro e w1 ⟨rfl, rfl⟩)
          | (go_at_call 9; refine (works_any _).mono ?_; rintro e w2 ⟨rfl, hb2⟩))
        go_ret
        exact ⟨rfl, below_step hb hsz hb2⟩
      | true =>
        have hwc := Word_any l[k] wo (by omega)
        rw [hw] at hwc
        have HWC := Lib.hid hwc
        have HW := Lib.hid hw
        clear hwc hw
        have hcase : decide ((0 : Int) < (k : Int)) = false ∨ ∃ (j : Nat), decide ((0 : Int) < (k : Int)) = true ∧ (k : Int) - 1 = (j : Int) ∧ decide ((j : Int) < (l.length : Int)) = true ∧ ∃ h1 : j < l.length, j + 1 = k ∧ wo.cell? ⟨b, o + j, none⟩ = some (.string l[j]) := by
          by_cases hk0 : k = 0
          · left; subst hk0; rfl
          · right
            refine ⟨k - 1, by rw [decide_eq_true_eq]; omega, by omega, by rw [decide_eq_true_eq]; omega, by omega, by omega, ?_⟩
            obtain ⟨b', o', e', _, c1⟩ := H.out (k - 1) l[k - 1] (by simp [show k - 1 < l.length by omega])
            cases e'
            exact kp_of_below hb _ _ c1
        obtain hgo | hgo : (∃ j, ∃ h1 : j < l.length, j + 1 = k ∧ decide ((0 : Int) < (k : Int)) = true ∧ (k : Int) - 1 = (j : Int) ∧ decide ((j : Int) < (l.length : Int)) = true ∧ wo.cell? ⟨b, o + j, none⟩ = some (.string l[j]) ∧ Op.bytesLess l[j].toList l[k].toList = false) ∨
            ((∀ j (hj : j < k), j + 1 = k → l[j].data.toList < l[k].data.toList) ∧ (decide ((0 : Int) < (k : Int)) = false ∨ ∃ j, ∃ h1 : j < l.length, decide ((0 : Int) < (k : Int)) = true ∧ (k : Int) - 1 = (j : Int) ∧ decide ((j : Int) < (l.length : Int)) = true ∧ wo.cell? ⟨b, o + j, none⟩ = some (.string l[j]) ∧ Op.bytesLess l[j].toList l[k].toList = true)) := by
          rcases hcase with h0 | ⟨j, h1, h2, h3, h4, h5, h6⟩
          · right
            refine ⟨fun j hj _ => ?_, .inl h0⟩
            rw [decide_eq_false_iff_not] at h0; omega
          · cases hbl : Op.bytesLess l[j].toList l[k].toList with
            | false => exact .inl ⟨j, h4, h5, h1, h2, h3, h6, hbl⟩
            | true =>
              right
              refine ⟨fun i hi e => ?_, .inr ⟨j, h4, h1, h2, h3, h6, hbl⟩⟩
              obtain rfl : i = j := by omega
              rw [bytesLess_eq, Lib.toList_data, Lib.toList_data, decide_eq_true_eq] at hbl
              exact hbl
        · obtain ⟨j, h1, _, hp, hj, hj2, d1, hbl⟩ := hgo
          clear hcase
          go_wp2_with (first
            | (go_at_call 29; refine HWC.out.mono ?_; rintro e w1 ⟨rfl, rfl⟩)
            | (go_at_call 9; refine (works_any _).mono ?_; rintro e w2 ⟨rfl, hb2⟩))
          go_ret
          exact ⟨rfl, below_step hb hsz hb2⟩
        · obtain ⟨hup, hgo⟩ := hgo
          have hst : (rawL (l.take (k + 1))).Pairwise (· < ·) := raw_step hlt HRS.out hup
          have hws : ∀ s ∈ l.take (k + 1), wordB s = true := by
            rw [List.take_succ_eq_append_getElem hlt]
            intro s hs
            rcases List.mem_append.1 hs with h | h
            · exact HWD.out s h
            · rw [List.mem_singleton] at h; subst h; exact HW.out
          have HST := Lib.hid hst
          have HWS := Lib.hid hws
          have hdz := dec_size (first + k)
          have HDEC := Lib.hid (fun w => decimal_any (first + k) w (by omega))
          have hcast : (((first + k : Nat)) : Int) = (first : Int) + (k : Int) := by omega
          rw [hcast] at HDEC
          have hwr : IntKind.i64.wrap ((first : Int) + (k : Int)) = (first : Int) + (k : Int) := by rw [IntKind.wrap_i64]; omega
          have hcells := ext_cells (first := first) hlt
          have HCELLS := Lib.hid hcells
          have ag : v.ownBlock ≠ some w.heap.size := fun e => by have := (HOWN.out.lt _ e).1; omega
          have hvl : ∀ j, v.ownBlock = some j → w.heap.size + 1 ≤ j := fun j hj => (HOWN.out.lt j hj).1
          have HVL := Lib.hid hvl
          clear hst hws hcast hcells hup hcase hvl
          have g1 : ¬ 9223372036854775807 < (dec (first + k)).size + 7 := by omega
          have g2 : ¬ 9223372036854775807 < (dec (first + k)).size + 7 + l[k].size := by omega
          have hgo' : (decide ((0 : Int) < (k : Int)) = false ∧ decide (0 < k) = false) ∨ ∃ j, ∃ h1 : j < l.length, decide ((0 : Int) < (k : Int)) = true ∧ (k : Int) - 1 = (j : Int) ∧ decide ((j : Int) < (l.length : Int)) = true ∧ wo.cell? ⟨b, o + j, none⟩ = some (.string l[j]) ∧ Op.bytesLess l[j].toList l[k].toList = true :=
            hgo.imp (fun h => ⟨h, by rw [decide_eq_false_iff_not] at h ⊢; omega⟩) id
          obtain ⟨hp, hp2⟩ | ⟨j, h1, hp, hj, hj2, d1, hbl⟩ := hgo'
          all_goals
            go_wp2_with (go_at_call 29; refine HWC.out.mono ?_; rintro e w1 ⟨rfl, rfl⟩)
            go_region_law? (first
              | (refine step_append_lies _ (by rfl) _ _ _ (by rfl) (w.heap.size + 1) 32 i0 _ 2 32 Tryd.underlying27 hi hz0 hz1 hz2 rfl (by omega) v k (kvCells (extAttrs first (l.take k))) (by rfl) (HO2.out.alloc _) ⟨w2.heap.size, 0, none⟩ 1 1 [.string ⟨#[101, 120, 116, 109, 97, 112]⟩, .string ((dec (first + k) ++ ⟨#[32, 117, 114, 110, 58, 120, 58]⟩) ++ l[k])] (by rfl) (by rfl) (World.news_of_block (cs := #[.string ⟨#[101, 120, 116, 109, 97, 112]⟩, .string ((dec (first + k) ++ ⟨#[32, 117, 114, 110, 58, 120, 58]⟩) ++ l[k])]) (t := 32) (fr := (0, 0)) (heap_alloc_new w2 _)) (by simp [Value.oneCell']) (by omega) (by unfold maxLen; omega) (by omega) (by have := hb2.size; simp at this ⊢; omega) (w2.heap.size + 1) (by simp) ?_; intro gg cap w3 hown3 hgrow hat hlt3; have h183 : w3.cell? ⟨w.heap.size, 2, none⟩ = some v := (hgrow.cell_far _ (by simp; omega) (Ne.symm ag)).trans (cell_al h182 _); have hz3 : w3.frozen? ⟨w.heap.size, 2, none⟩ = false := (hgrow.frozen_far _ (by simp; omega) (Ne.symm ag)).trans (frozen_al h182 hzz2 _))
              | (go_simp; go_at_call 11; refine (HDEC.out _).mono ?_; rintro e w2 ⟨rfl, hb2⟩; have HO2 := Lib.hid (own_below ((HOWN.out).drew) hb2); have h182 : w2.cell? ⟨w.heap.size, 2, none⟩ = some v := (hb2.cell (by simp; omega)).trans m2; have hzz2 : w2.frozen? ⟨w.heap.size, 2, none⟩ = false := (hb2.frozen (by simp; omega)).trans mz; have hs2 : w.heap.size < w2.heap.size := (by have := hb2.size; simp at this; omega)))
          all_goals
            have ne : some w.heap.size ≠ v.ownBlock := Ne.symm ag
            have n0 : w3.cell? ⟨w.heap.size, 0, none⟩ = some (.string ⟨#[97, 117, 100, 105, 111]⟩) := (hgrow.cell_far _ (by simp; omega) ne).trans (cell_al ((hb2.cell (by simp; omega)).trans m0) _)
            have n1 : w3.cell? ⟨w.heap.size, 1, none⟩ = some (.slice none 0 0) := (hgrow.cell_far _ (by simp; omega) ne).trans (cell_al ((hb2.cell (by simp; omega)).trans m1) _)
            have hc3 := HCELLS.out
            unfold extVal at hc3
            rw [← hc3] at hown3
            have own2 := ownsRow_setCell_below (a := ⟨w.heap.size, 2, none⟩) hown3 (by show w.heap.size < w.heap.size + 1; omega) (.slice (some ⟨gg, 0, none⟩) (k + 1) cap)
            have bel : Below w.heap.size w (w3.setCell ⟨w.heap.size, 2, none⟩ (.slice (some ⟨gg, 0, none⟩) (k + 1) cap)) :=
              ((((hb.drew.trans (hb2.mono hsz)).alloc (by omega) _).grown hgrow (by simp; omega) (fun j hj => by have := HVL.out j hj; omega)).setCell (Nat.le_refl _) _)
            have G0 := Lib.hid n0
            have G1 := Lib.hid n1
            have G2 := Lib.hid (World.cell?_setCell_same _ _ (.slice (some ⟨gg, 0, none⟩) (k + 1) cap) h183)
            have G3 := Lib.hid hz3
            have G4 := Lib.hid own2
            have G6 := Lib.hid bel
            clear hown3 hgrow hc3 own2 bel n0 n1 m0 m1 m2 mz d0 hb2 h182 hzz2 h183 hz3 hat
            go_wp2
            go_roundw
            case rel => exact ⟨k + 1, _, by omega, by go_num, (World.cell?_setCell_other _ _ _ _ (fun e => by simp at e)).trans G0.out, (World.cell?_setCell_other _ _ _ _ (fun e => by simp at e)).trans G1.out, G2.out, by rw [World.frozen?_setCell]; exact G3.out, G4.out, HWS.out, HST.out, G6.out⟩
            case measure => simp [intOf]; omega
    · obtain rfl : k = l.length := by omega
      have hown := HOWN.out
      have hwd := HWD.out
      have hrs := HRS.out
      rw [List.take_length] at hown hwd hrs
      obtain ⟨A', c', rfl, hkv⟩ := own_kvs hown
      have hrc := extsFn_any (D := fun _ => True) first ⟨#[97, 117, 100, 105, 111]⟩ none A' 0 c' [] l wo (by simp) hf1 (by omega) hwd (uri_rises hrs) (HSP.out.below hb) (Strs.nil _ _ _) hkv
      simp only [extPairs_length] at hrc
      have HRC := Lib.hid hrc
      have HXG := Lib.hid (extPairs_get l first)
      clear hown hwd hrs hkv hrc
      generalize extPairs first l = res at HRC HXG
      go_wp2_with (go_at_call 30; refine HRC.out.mono ?_; rintro e w1 ⟨A1, k1, rfl, hr1, hb1⟩)
      have HG := Lib.hid hr1
      have hs1 := hb1.size
      have bel : Below w.heap.size w w1 := below_step hb hsz hb1
      have BEL := Lib.hid bel
      have s0 : w.heap.size ≤ w1.heap.size := by omega
      clear hr1 bel
      go_loopw [82] (fun i wr => ∃ j : Nat, i = .int .i64 j ∧ j ≤ l.length ∧ Below w1.heap.size w1 wr) (fun i _ => l.length - (intOf i).toNat)
      case atStart => exact ⟨0, rfl, Nat.zero_le _, Below.refl _ _⟩
      case round =>
        obtain ⟨j, rfl, hj, hb9⟩ := hrel
        have hsz9 := hb9.size
        by_cases hlt : j < l.length
        · obtain ⟨b, o, rfl, _, c0⟩ := H.out j l[j] (by simp [hlt])
          obtain ⟨b', o', rfl, _, g0, g1⟩ := HG.out j _ (HXG.out j hlt)
          have d0 := kp_of_below hb9 _ _ (kp_of_below BEL.out _ _ c0)
          have e0 := kp_of_below hb9 _ _ g0
          have e1 := kp_of_below hb9 _ _ g1
          have hsk := HZ.out l[j] (List.getElem_mem _)
          have hdz := dec_size (first + j)
          have HDEC := Lib.hid (fun w => decimal_any (first + j) w (by omega))
          have hcast : (((first + j : Nat)) : Int) = (first : Int) + (j : Int) := by omega
          rw [hcast] at HDEC
          have hwr : IntKind.i64.wrap ((first : Int) + (j : Int)) = (first : Int) + (j : Int) := by rw [IntKind.wrap_i64]; omega
          clear c0 g0 g1 hcast
          unfold uriOf at e0
          simp only at e0 e1
          generalize l[j] = x1 at d0 e0 hsk
          generalize dec (first + j) = x2 at e1 HDEC hdz
          go_wp2_with fail
          have m0 : ∀ x : Later wr, x.W.cell? ⟨b', o' + j * 2, none⟩ = some (.string (⟨#[117, 114, 110, 58, 120, 58]⟩ ++ x1)) := fun x => x.cell e0
          have m1 : ∀ x : Later wr, x.W.cell? ⟨b', o' + j * 2 + 1, none⟩ = some (.string x2) := fun x => x.cell e1
          have g2 : ¬ 9223372036854775807 < 6 + x1.size := by omega
          refine wp_region_later (by kernel_rfl) (by kernel_rfl) ?_
          repeat (go_big_quiet_step (first | (go_at_call 11; exact Calls.later (HDEC.out _))))
          refine wpQuiet_nil ?_
          rintro _ ⟨x, rfl⟩
          have bel := below_step hb9 hsz9 x.h
          have BL := Lib.hid bel
          clear bel
          go_wp2
          go_roundw
          case rel => exact ⟨j + 1, by go_num, by omega, BL.out⟩
          case measure => simp [intOf]; omega
        · go_wp2_with (go_at_call 9; refine (works_any _).mono ?_; rintro e w6 ⟨rfl, hb6⟩)
          go_ret
          exact ⟨rfl, below_step (below_step BEL.out s0 hb9) (by omega) hb6⟩

set_option maxHeartbeats 1000000 in
set_option maxRecDepth 100000 in
theorem fnExtensions_walk {D : Nat → Prop} (A : Option Addr) (c : Nat) (l : List ByteArray) (n : Int) (w : World) (hl : l.length * 16 ≤ 140737488351232) (hz : ∀ s ∈ l, s.size ≤ 9223372036854775807) (hsp : Spaces w) (h : Strs D w A l) :
    Calls Tryd.prog 8 #[.slice A l.length c, .int .i64 n] w fun e w' => e = .returned (.bool true) ∧ Below w.heap.size w w' := by
  have hfc := fits3_any A c l w hl h hz
  cases hfit : fitsS l with
  | false =>
    rw [hfit] at hfc
    have HFC := Lib.hid hfc
    clear hfc hfit h hz hsp
    go_enter Tryd.func8, Tryd.ntmps8
    go_wp2_with (go_at_call 28; refine HFC.out.mono ?_; rintro e w1 ⟨rfl, rfl⟩)
    go_ret
    exact ⟨rfl, Below.refl _ _⟩
  | true =>
    rw [hfit] at hfc
    have hfm := fitsS_mem hfit
    by_cases hok : l.length ≤ 8 ∧ 1 ≤ n ∧ n ≤ 200
    · obtain ⟨h8, h1, h2⟩ := hok
      obtain ⟨m, rfl⟩ : ∃ m : Nat, n = (m : Int) := ⟨n.toNat, by omega⟩
      exact fnExtensions_main A c l m w (by omega) (by omega) h8 hfc hsp h hfm.2
    · have HFC := Lib.hid hfc
      clear hfc hfit h hz hsp hfm
      have hq : decide ((8 : Int) < (l.length : Int)) = true ∨ (decide ((8 : Int) < (l.length : Int)) = false ∧ decide (n < 1) = true) ∨ (decide ((8 : Int) < (l.length : Int)) = false ∧ decide (n < 1) = false ∧ decide ((200 : Int) < n) = true) := by
        simp only [decide_eq_true_eq, decide_eq_false_iff_not]
        omega
      rcases hq with q1 | ⟨q1, q2⟩ | ⟨q1, q2, q3⟩
      all_goals
        go_enter Tryd.func8, Tryd.ntmps8
        go_wp2_with (first
          | (go_at_call 28; refine HFC.out.mono ?_; rintro e w1 ⟨rfl, rfl⟩)
          | (go_at_call 9; refine (works_any _).mono ?_; rintro e w1 ⟨rfl, hb⟩))
        go_ret
        exact ⟨rfl, hb⟩
end Go.Proofs.YtlbmjfjmbgbpeaaDoor
