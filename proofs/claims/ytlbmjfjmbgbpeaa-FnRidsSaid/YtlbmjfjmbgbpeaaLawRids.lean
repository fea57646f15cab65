/- FnRids: for every list of texts the law returns true: the restriction identifiers of a medium are those of its attributes. -/
import Derived.Test.YtlbmjfjmbgbpeaaRidsFn
import Derived.Test.YtlbmjfjmbgbpeaaWord
import Derived.Test.YtlbmjfjmbgbpeaaFits3
namespace Go.Proofs.Ytlbmjfjmbgbpeaa
open Go.RowKit

theorem Try.infoKV : (Try.prog.info? 26).map (fun i => (i.zero, i.size, i.bytes)) = some (some (.agg #[.string ByteArray.empty, .string ByteArray.empty]), 2, 32) := by kernel_rfl

/-- The attributes that the law makes. -/
def ridAttrs (l : List ByteArray) : List KV := l.map fun s => (⟨#[114, 105, 100]⟩, s ++ ⟨#[32, 115, 101, 110, 100]⟩)

theorem toList_rid : (⟨#[114, 105, 100]⟩ : ByteArray).toList = [114, 105, 100] := by decide +kernel
theorem rids_of_attrs : ∀ (l : List ByteArray), (∀ s ∈ l, wordB s = true) → ridsOf (ridAttrs l) = l
  | [], _ => rfl
  | s :: r, h => by
    have h1 := rids_of_attrs r (fun x hx => h x (List.mem_cons_of_mem _ hx))
    have h2 : piecesB 32 (s ++ ⟨#[32, 115, 101, 110, 100]⟩) = s :: (pieces 32 [115, 101, 110, 100]).map fun l => ⟨l.toArray⟩ := by
      unfold piecesB
      rw [data_append]
      have := pieces_mid 32 s.data.toList [115, 101, 110, 100] (word_no (h s (List.mem_cons_self ..)) (by decide))
      show (pieces 32 (s.data.toList ++ 32 :: [115, 101, 110, 100])).map _ = _
      rw [this, List.map_cons, Lib.mk_data]
    unfold ridsOf ridAttrs at h1 ⊢
    rw [List.map_cons, List.filter_cons, if_pos (by rw [toList_rid]; rfl), List.map_cons, h2, h1]
    rfl
theorem ridAttrs_mem {l : List ByteArray} {p : KV} (hp : p ∈ ridAttrs l) : p.1 = ⟨#[114, 105, 100]⟩ ∧ ∃ s ∈ l, p.2 = s ++ ⟨#[32, 115, 101, 110, 100]⟩ := by
  unfold ridAttrs at hp
  obtain ⟨s, hs, rfl⟩ := List.mem_map.1 hp
  exact ⟨rfl, s, hs, rfl⟩

set_option maxHeartbeats 4000000 in
set_option maxRecDepth 100000 in
theorem fnRids_walk {D : Nat → Prop} (A : Option Addr) (c : Nat) (l : List ByteArray) (w : World) (hl : l.length * 16 ≤ 140737488351232) (hcap : l.length ≤ c) (h : Strs D w A l) (hz : ∀ s ∈ l, s.size ≤ 9223372036854775807) :
    Calls Try.prog 4 #[.slice A l.length c] w fun e w' => e = .returned (.bool true) ∧ Below w.heap.size w w' := by
  have H := Lib.hid h
  have HZ := Lib.hid hz
  clear h hz
  cases hfit : fitsS l with
  | false =>
    have hfc := fits3_any A c l w hl H.out HZ.out
    rw [hfit] at hfc
    have HFC := Lib.hid hfc
    clear hfc hfit
    go_enter Try.func4, Try.ntmps4
    go_wp2_with (go_at_call 10; refine HFC.out.mono ?_; rintro e w1 ⟨rfl, rfl⟩)
    go_ret
    exact ⟨rfl, Below.refl _ _⟩
  | true =>
    have hfm := fitsS_mem hfit
    have HFM := Lib.hid hfm.2
    clear hfm
    have hfc := fits3_any A c l w hl H.out HZ.out
    rw [hfit] at hfc
    have HFC := Lib.hid hfc
    clear hfc hfit
    by_cases h6 : 6 < l.length
    · go_enter Try.func4, Try.ntmps4
      go_wp2_with (first
        | (go_at_call 10; refine HFC.out.mono ?_; rintro e w1 ⟨rfl, rfl⟩)
        | (go_at_call 7; refine (works_any _).mono ?_; rintro e w1 ⟨rfl, hb⟩))
      go_ret
      exact ⟨rfl, hb⟩
    · have hd6 : decide ((6 : Int) < (l.length : Int)) = false := by simp; omega
      obtain ⟨i0, hi, hz0, hz1, hz2⟩ := info_parts Try.infoKV
      go_enter Try.func4, Try.ntmps4
      go_wp2_with (go_at_call 10; refine HFC.out.mono ?_; rintro e w1 ⟨rfl, rfl⟩)
      go_loopw [22] (fun i wr => ∃ (k : Nat) (v : Value), k ≤ l.length ∧ i = .int .i64 k ∧ wr.cell? ⟨w.heap.size, 0, none⟩ = some (.string ⟨#[118, 105, 100, 101, 111]⟩) ∧ wr.cell? ⟨w.heap.size, 1, none⟩ = some (.slice none 0 0) ∧ wr.cell? ⟨w.heap.size, 2, none⟩ = some v ∧
          wr.frozen? ⟨w.heap.size, 2, none⟩ = false ∧ wr.ownsRow (w.heap.size + 1) 26 2 v k (kvCells (ridAttrs (l.take k))) ∧ (∀ s ∈ l.take k, wordB s = true) ∧ Below w.heap.size w wr) (fun i _ => l.length - (intOf i).toNat)
      case atStart => exact ⟨0, _, Nat.zero_le _, rfl, by simp [go_sem], by simp [go_sem], by simp [go_sem], by simp [go_sem], World.ownsRow_nil _ _ _ _, by simp, (Below.refl _ _).alloc (Nat.le_refl _) _⟩
      case round =>
        obtain ⟨wo, rfl⟩ : ∃ wo : World, wo = wr := ⟨_, rfl⟩
        obtain ⟨k, v, hk, rfl, m0, m1, m2, mz, hown, hwd, hb⟩ := hrel
        have HOWN := Lib.hid hown
        have HWD := Lib.hid hwd
        clear hown hwd
        have hsz := hb.size
        have lt0 : w.heap.size < wo.heap.size := World.block_lt_of_cell? _ _ m0
        by_cases hlt : k < l.length
        · obtain ⟨b, o, rfl, _, c0⟩ := H.out k l[k] (by simp [hlt])
          have d0 := (hb.cell (p := ⟨b, o + k, none⟩) (World.block_lt_of_cell? _ _ c0)).trans c0
          clear c0
          have hsk := HFM.out l[k] (List.getElem_mem _)
          have hd : decide ((k : Int) < (l.length : Int)) = true := by simp; omega
          cases hw : wordB l[k] with
          | false =>
            have hwc := Word_any l[k] wo (by omega)
            rw [hw] at hwc
            have HWC := Lib.hid hwc
            clear hwc hw
            go_wp2_with (first
              | (go_at_call 11; refine HWC.out.mono ?_; rintro e w1 ⟨rfl, rfl⟩)
              | (go_at_call 7; refine (works_any _).mono ?_; rintro e w2 ⟨rfl, hb2⟩))
            go_ret
            exact ⟨rfl, below_step hb hsz hb2⟩
          | true =>
            have hwc := Word_any l[k] wo (by omega)
            rw [hw] at hwc
            have HWC := Lib.hid hwc
            have HW := Lib.hid hw
            clear hwc hw
            go_wp2_with (go_at_call 11; refine HWC.out.mono ?_; rintro e w1 ⟨rfl, rfl⟩)
            have hs20 : l[k].size ≤ 20 := (word_size HW.out).2
            go_loop [35] (fun i => ∃ j : Nat, i = .int .i64 j ∧ j ≤ k) (fun i => k - (intOf i).toNat)
            case atStart => exact ⟨0, rfl, Nat.zero_le _⟩
            case round =>
              obtain ⟨j, rfl, hj⟩ := hrel
              by_cases hjk : j < k
              · obtain ⟨b', o', hA, _, c1⟩ := H.out j l[j] (by simp [show j < l.length by omega])
                cases hA
                have d1 := (hb.cell (p := ⟨b, o + j, none⟩) (World.block_lt_of_cell? _ _ c1)).trans c1
                clear c1
                cases he : (l[j].toList == l[k].toList) with
                | true =>
                  go_wp2_with (go_at_call 7; refine (works_any _).mono ?_; rintro e w2 ⟨rfl, hb2⟩)
                  go_ret
                  exact ⟨rfl, below_step hb hsz hb2⟩
                | false =>
                  go_wp2
                  go_round
                  case rel => exact ⟨j + 1, by go_num, by omega⟩
                  case measure => simp [intOf]; omega
              · go_wp2_with (at_builtin; refine wpList_append_own _ rfl _ _ 27 rfl (w.heap.size + 1) 26 i0 _ 2 32 Try.underlying27 hi hz0 hz1 hz2 rfl (by decide) v k (kvCells (ridAttrs (l.take k))) rfl (HOWN.out.alloc _) ⟨wo.heap.size, 0, none⟩ 1 1 [.string ⟨#[114, 105, 100]⟩, .string (l[k] ++ ⟨#[32, 115, 101, 110, 100]⟩)] rfl rfl ?c1 ?c2 ?c3 ?c4 ?c5 ?_)
                case c2 => exact ⟨rfl, rfl⟩
                case c3 => unfold maxLen; omega
                case c4 => omega
                intro v' w1 hown' hgrow _
                obtain ⟨Av, cv, rfl⟩ := own_shape hown'
                have ne : some w.heap.size ≠ v.ownBlock := fun e => by have := (HOWN.out.lt _ e.symm).1; omega
                have n0 : w1.cell? ⟨w.heap.size, 0, none⟩ = some (.string ⟨#[118, 105, 100, 101, 111]⟩) := (hgrow.cell_far _ (by simp; omega) ne).trans (cell_al m0 _)
                have n1 : w1.cell? ⟨w.heap.size, 1, none⟩ = some (.slice none 0 0) := (hgrow.cell_far _ (by simp; omega) ne).trans (cell_al m1 _)
                have n2 : w1.cell? ⟨w.heap.size, 2, none⟩ = some v := (hgrow.cell_far _ (by simp; omega) ne).trans (cell_al m2 _)
                have nz : w1.frozen? ⟨w.heap.size, 2, none⟩ = false := (hgrow.frozen_far _ (by simp; omega) ne).trans (frozen_al m2 mz _)
                have e1 : kvCells (ridAttrs (l.take (k + 1))) = kvCells (ridAttrs (l.take k)) ++ [.string ⟨#[114, 105, 100]⟩, .string (l[k] ++ ⟨#[32, 115, 101, 110, 100]⟩)] := by
                  rw [List.take_succ_eq_append_getElem hlt, ridAttrs, List.map_append]
                  exact kvCells_snoc _ _
                rw [← e1] at hown'
                have own2 := ownsRow_setCell_below (a := ⟨w.heap.size, 2, none⟩) hown' (by show w.heap.size < w.heap.size + 1; omega) (.slice Av (k + 1) cv)
                have bel : Below w.heap.size w (w1.setCell ⟨w.heap.size, 2, none⟩ (.slice Av (k + 1) cv)) := ((hb.alloc hsz _).grown hgrow (by simp; omega) (fun j hj => by have := (HOWN.out.lt _ hj).1; omega)).setCell (Nat.le_refl _) _
                have wd2 : ∀ s ∈ l.take (k + 1), wordB s = true := by
                  rw [List.take_succ_eq_append_getElem hlt]
                  intro s hs
                  rcases List.mem_append.1 hs with h1 | h1
                  · exact HWD.out s h1
                  · simp at h1; subst h1; exact HW.out
                have G0 := Lib.hid n0
                have G1 := Lib.hid n1
                have G2 := Lib.hid (World.cell?_setCell_same _ _ (.slice Av (k + 1) cv) n2)
                have G3 := Lib.hid nz
                have G4 := Lib.hid own2
                have G5 := Lib.hid wd2
                have G6 := Lib.hid bel
                clear hown' hgrow e1 own2 bel wd2 n0 n1 m0 m1 m2 mz d0
                go_wp2
                go_roundw
                case rel => exact ⟨k + 1, _, by omega, by go_num, (World.cell?_setCell_other _ _ _ _ (fun e => by simp at e)).trans G0.out, (World.cell?_setCell_other _ _ _ _ (fun e => by simp at e)).trans G1.out, G2.out, by rw [World.frozen?_setCell]; exact G3.out, G4.out, G5.out, G6.out⟩
                case measure => simp [intOf]; omega
        · obtain rfl : k = l.length := by omega
          have hown := HOWN.out
          have hwd := HWD.out
          rw [List.take_length] at hown hwd
          obtain ⟨A', c', rfl, hkv⟩ := own_kvs hown
          have hrl : (ridAttrs l).length = l.length := by simp [ridAttrs]
          have hro := rids_of_attrs l hwd
          have hrc := rids_any (D := fun _ => True) ⟨#[118, 105, 100, 101, 111]⟩ none A' 0 c' [] (ridAttrs l) wo (by simp) (by rw [hrl]; omega)
            (fun p hp => by
              obtain ⟨_, s, hs, e⟩ := ridAttrs_mem hp
              have h1 := (word_size (hwd s hs)).2
              rw [e, ByteArray.size_append]
              have : (⟨#[32, 115, 101, 110, 100]⟩ : ByteArray).size = 5 := rfl
              omega)
            (fun p hp => by rw [(ridAttrs_mem hp).1, toList_rid]; rfl) (Strs.nil _ _ _) hkv
          rw [hro] at hrc
          have HRC := Lib.hid hrc
          have HRL := Lib.hid hrl
          clear hown hwd hkv hro hrc hrl
          go_wp2_with (go_at_call 12; refine HRC.out.mono ?_; rintro e w1 ⟨A1, k1, A2, k2, rfl, hr1, hr2, hb1⟩)
          have R1 := Lib.hid hr1
          have R2 := Lib.hid hr2
          have hs1 := hb1.size
          have bel : Below w.heap.size w w1 := below_step hb hsz hb1
          have BEL := Lib.hid bel
          clear hr1 hr2 bel
          go_loop [72] (fun i => ∃ j : Nat, i = .int .i64 j ∧ j ≤ l.length) (fun i => l.length - (intOf i).toNat)
          case atStart => exact ⟨0, rfl, Nat.zero_le _⟩
          case round =>
            obtain ⟨j, rfl, hj⟩ := hrel
            by_cases hjl : j < l.length
            · obtain ⟨b, o, rfl, _, c0⟩ := H.out j l[j] (by simp [hjl])
              obtain ⟨b1, o1, rfl, _, c1⟩ := R1.out j l[j] (by simp [hjl])
              obtain ⟨b2, o2, rfl, _, c2⟩ := R2.out j false (by simp [hjl])
              have d0 : w1.cell? ⟨b, o + j, none⟩ = some (.string l[j]) := kp_of_below BEL.out _ _ c0
              clear c0
              go_wp2
              go_round
              case rel => exact ⟨j + 1, by go_num, by omega⟩
              case measure => simp [intOf]; omega
            · go_wp2_with (go_at_call 7; refine (works_any _).mono ?_; rintro e w2 ⟨rfl, hb2⟩)
              go_ret
              exact ⟨rfl, below_step BEL.out (by omega) hb2⟩
end Go.Proofs.Ytlbmjfjmbgbpeaa
