/- The package's reading of a line of parameters: a map that the call makes. -/
import Derived.Test.YtlbmjfjmbgbpeaaGreatDoorParsePart
import Derived.Maps.Own
import Derived.Maps.StringElems
namespace Go.Proofs.YtlbmjfjmbgbpeaaGreatDoor
open Go.RowKit Go.WideMaps Go.Maps

theorem Tryz.keyed : Keyed Tryz.prog 9 := string_keyed Tryz.underlying9
/-- What the map holds behind k parameters. -/
def mapAt (H : Type) (l : List KV) (k : Nat) : DataW H := (l.take k).foldl (fun d p => d.put (.string (small p.1).data.toList) (.lit (.string p.2.data.toList))) (.map [])
theorem mapAt_succ {H : Type} {l : List KV} {k : Nat} (hk : k < l.length) : mapAt H l (k + 1) = (mapAt H l k).put (.string (small l[k].1).data.toList) (.lit (.string l[k].2.data.toList)) := by
  unfold mapAt
  rw [List.take_succ_eq_append_getElem hk, List.foldl_append]
  rfl

theorem parts_length (blank : Bool) {l : List KV} (hne : 0 < l.length) (hs : ∀ p ∈ l, ∀ b ∈ entryL p, b ≠ 59) : (piecesB 59 (lineOf blank l)).length = l.length := by
  rw [piecesB, pieces_lineOf blank hs, List.length_map]
  match l, hne with
  | p :: r, _ => simp [lineParts]
theorem parts_get (blank : Bool) {l : List KV} (hs : ∀ p ∈ l, ∀ b ∈ entryL p, b ≠ 59) {k : Nat} (hk : k < l.length) : (piecesB 59 (lineOf blank l))[k]? = some (partB (if k = 0 then [] else gapL blank) l[k]) := by
  rw [piecesB, pieces_lineOf blank hs]
  match l, hk with
  | p :: r, hk =>
    match k, hk with
    | 0, _ => rfl
    | k + 1, hk =>
      simp at hk
      simp [lineParts, partB, List.getElem?_eq_getElem hk]

set_option maxHeartbeats 2000000 in
set_option maxRecDepth 100000 in
theorem parse_any {H : Type} (l : List KV) (blank : Bool) (w : World) (hne : 0 < l.length) (hl : l.length ≤ 8) (hz : (lineOf blank l).size ≤ 4294967296) (hw : ∀ p ∈ l, wordB p.1 = true ∧ wordB p.2 = true) (hsp : Spaces w) :
    Calls Tryz.prog 37 #[.string (lineOf blank l)] w fun e w' => e = .returned (.map (some w.heap.size)) ∧ w'.ownsMap Tryz.prog 9 (plainElem (H := H) Tryz.prog 9) w.heap.size l.length (mapAt H l l.length) ∧ Below w.heap.size w w' := by
  have hno : ∀ p ∈ l, ∀ b ∈ entryL p, b ≠ 59 := fun p hp => entry_no (word_no (hw p hp).1 (by decide)) (word_no (hw p hp).2 (by decide))
  have hpl := parts_length blank hne hno
  have hpg : ∀ k (hk : k < l.length), (piecesB 59 (lineOf blank l))[k]? = some (partB (if k = 0 then [] else gapL blank) l[k]) := fun k hk => parts_get blank hno hk
  have hsc : ∀ w, Calls Tryz.prog 47 #[.string (lineOf blank l), .string ⟨#[59]⟩] w fun e w' => ∃ A k, e = .returned (.slice A l.length k) ∧ Strs (w.heap.size ≤ ·) w' A (piecesB 59 (lineOf blank l)) ∧ Below w.heap.size w w' := fun w => by
    have := F.split_any (lineOf blank l) 59 w hz
    rw [hpl] at this
    exact this
  have HPG := Lib.hid hpg
  have HSC := Lib.hid hsc
  have HW := Lib.hid hw
  have HSP := Lib.hid hsp
  clear hpg hsc hno hpl hw hsp hz
  generalize piecesB 59 (lineOf blank l) = ps at HPG HSC
  generalize lineOf blank l = line at HSC ⊢
  have hmm := @run_makeMap Tryz.prog
  go_enter Tryz.func37, Tryz.ntmps37
  go_wp2_with (go_at_call 47; refine (HSC.out _).mono ?_; rintro e w1 ⟨A, c, rfl, hps, hb1⟩)
  have hs1 : w.heap.size + 1 ≤ w1.heap.size := by have := hb1.size; simpa using this
  have hown1 : w1.ownsMap Tryz.prog 9 (plainElem (H := H) Tryz.prog 9) w.heap.size 0 (mapAt H l 0) := (World.ownsMap_made w Tryz.prog 9 (plainElem (H := H) Tryz.prog 9)).kept (grown_of_below hb1 none) (by simp)
  have bel1 : Below w.heap.size w w1 := ((Below.refl _ _).alloc (Nat.le_refl _) _).trans (hb1.mono (by simp))
  have hst : Strs (w.heap.size + 1 ≤ ·) w1 A ps := hps.wide fun b hb _ => by have hb : _ ≤ b := hb; simpa using hb
  clear hps hb1
  go_loopw [13] (fun i wr => ∃ k : Nat, k ≤ l.length ∧ i = .int .i64 k ∧ wr.ownsMap Tryz.prog 9 (plainElem (H := H) Tryz.prog 9) w.heap.size k (mapAt H l k) ∧ Strs (w.heap.size + 1 ≤ ·) wr A ps ∧ Below w.heap.size w wr) (fun i _ => l.length - (intOf i).toNat)
  case atStart => exact ⟨0, Nat.zero_le _, rfl, hown1, hst, bel1⟩
  case round =>
    obtain ⟨wo, rfl⟩ : ∃ wo : World, wo = wr := ⟨_, rfl⟩
    obtain ⟨k, hk, rfl, hown, hst, hb⟩ := hrel
    have HOWN := Lib.hid hown
    have HST := Lib.hid hst
    clear hown hst
    have hsz := hb.size
    by_cases hlt : k < l.length
    · obtain ⟨b, o, rfl, _, c0⟩ := HST.out k _ (HPG.out k hlt)
      obtain ⟨g1, g2⟩ := HW.out _ (List.getElem_mem hlt)
      have htr : Calls Tryz.prog 49 #[.string (partB (if k = 0 then [] else gapL blank) l[k])] wo fun e w' => e = .returned (.string (entryB l[k])) ∧ Below wo.heap.size wo w' := part_trim blank k g1 g2 wo (HSP.out.below hb)
      generalize partB (if k = 0 then [] else gapL blank) l[k] = part at c0 htr
      have HTR := Lib.hid htr
      have hsp2 : ∀ w, Calls Tryz.prog 48 #[.string (entryB l[k]), .string ⟨#[61]⟩, .int .i64 2] w fun e w' => ∃ A k', e = .returned (.slice A 2 k') ∧ Strs (w.heap.size ≤ ·) w' A [l[k].1, l[k].2] ∧ Below w.heap.size w w' := fun w => part_split g1 g2 w
      have HS2 := Lib.hid hsp2
      have HLO := Lib.hid (fun w => part_lower g1 w)
      have hsm := small_size l[k].1
      have z1 := word_size g1
      have z2 := word_size g2
      have hkey : keyOf Tryz.prog 9 (.string (small l[k].1)) = some (.string (small l[k].1).data.toList) := keyOf_string_mk Tryz.underlying9 (by unfold maxLen; omega)
      have HKEY := Lib.hid hkey
      have hms := mapAt_succ (H := H) hlt
      have HMS := Lib.hid hms
      clear htr hsp2 hkey hms
      go_wp2_with (first
        | (go_at_call 49; refine HTR.out.mono ?_; rintro e w2 ⟨rfl, hb2⟩)
        | (go_at_call 48; refine (HS2.out _).mono ?_; rintro e w3 ⟨A2, k2, rfl, hr2, hb3⟩; obtain ⟨b2, o2, rfl, _, p0⟩ := hr2 0 l[k].1 rfl; obtain ⟨b2', o2', he2, _, p1⟩ := hr2 1 l[k].2 rfl; cases he2; simp only [Nat.add_zero] at p0)
        | (go_at_call 50; refine (HLO.out _).mono ?_; rintro e w4 ⟨rfl, hb4⟩; have q1 : w4.cell? ⟨b2, o2 + 1, none⟩ = some (.string l[k].2) := kp_of_below hb4 _ _ p1; have B4 := Lib.hid (below_step (below_step hb2 hb2.size hb3) (Nat.le_trans hb2.size hb3.size) hb4))
        | (at_mapUpdate; refine wpList_mapUpdate_own _ rfl _ _ _ 111 rfl 9 9 Tryz.keyed Tryz.underlying111 _ w.heap.size k _ rfl (HOWN.out.kept (grown_of_below B4.out none) (by simp)) (by unfold maxLen; omega) _ _ _ rfl rfl HKEY.out _ [] (plainElem_string Tryz.underlying9 (by unfold maxLen; omega)) ?_; intro w5 hown5 hgrow5))
      have lm : w.heap.size < wo.heap.size := HOWN.out.lt
      have own5 : w5.ownsMap Tryz.prog 9 (plainElem (H := H) Tryz.prog 9) w.heap.size (k + 1) (mapAt H l (k + 1)) := by rw [HMS.out]; exact hown5
      have bel4 : Below w.heap.size w w4 := below_step hb hsz B4.out
      have bel5 : Below w.heap.size w w5 := bel4.grown hgrow5 bel4.size (fun j hj => by cases hj; exact Nat.le_refl _)
      have st5 : Strs (w.heap.size + 1 ≤ ·) w5 (some ⟨b, o, none⟩) ps := (HST.out.keep (kp_of_below B4.out)).keepOn fun p v hd hp => by
        have hd : w.heap.size + 1 ≤ p.block := hd
        exact (hgrow5.cell_far _ (World.block_lt_of_cell? _ _ hp) (fun e => by injection e with e; omega)).trans hp
      have G1 := Lib.hid own5
      have G2 := Lib.hid st5
      have G3 := Lib.hid bel5
      clear hown5 hgrow5 own5 st5 bel5 bel4 c0
      go_wp2
      go_roundw
      case rel => exact ⟨k + 1, by omega, by go_num, G1.out, G2.out, G3.out⟩
      case measure => simp [intOf]; omega
    · obtain rfl : k = l.length := by omega
      go_wp2
      go_ret
      exact ⟨rfl, HOWN.out, hb⟩
end Go.Proofs.YtlbmjfjmbgbpeaaGreatDoor
