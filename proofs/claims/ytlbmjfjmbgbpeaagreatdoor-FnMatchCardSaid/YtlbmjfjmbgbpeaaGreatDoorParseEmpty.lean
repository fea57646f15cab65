/- The package's reading of an empty line of parameters: one parameter, its key and value empty. -/
import Derived.Test.YtlbmjfjmbgbpeaaGreatDoorParse
import Derived.Test.YtlbmjfjmbgbpeaaGreatDoorStrMap
namespace Go.Proofs.YtlbmjfjmbgbpeaaGreatDoor
open Go.RowKit Go.WideMaps Go.Maps

set_option maxHeartbeats 2000000 in
set_option maxRecDepth 100000 in
theorem F.split2_none (s : ByteArray) (c : UInt8) (w : World) (hs : s.size ≤ 4294967296) (hi0 : Lib.index s.data.toList [c] = -1) :
    Calls Tryz.prog 48 #[.string s, .string ⟨#[c]⟩, .int .i64 2] w fun e w' => ∃ A k, e = .returned (.slice A 1 k) ∧ Strs (w.heap.size ≤ ·) w' A [s] ∧ Below w.heap.size w w' := by
  obtain ⟨i0, hi, hz0, hz1, hz2⟩ := info_parts Tryz.infoStr
  have HM := Lib.hid hi0
  clear hi0
  go_enter Tryz.func48, Tryz.ntmps48
  go_wp2
  go_loopw [0, 7] (fun t v wr => t = .string s ∧ v = .slice none 0 0 ∧ Below w.heap.size w wr) (fun t _ _ => lenOf t)
  case atStart => exact ⟨rfl, rfl, Below.refl _ _⟩
  case round =>
    obtain ⟨wo, rfl⟩ : ∃ wo : World, wo = wr := ⟨_, rfl⟩
    obtain ⟨rfl, rfl, hb⟩ := hrel
    have hsz := hb.size
    go_wp2_with (first
      | (go_at_call 62; refine (F.index_one s c (-1) _ (by omega) HM.out).mono ?_; rintro e w' ⟨rfl, rfl⟩)
      | (at_builtin; refine wpList_append_own _ rfl _ _ 38 rfl w.heap.size 9 i0 _ 1 16 Tryz.underlying38 hi hz0 hz1 hz2 rfl (by decide) _ 0 [] rfl (World.ownsRow_nil _ _ _ _) ⟨wo.heap.size, 0, none⟩ 1 1 [.string s] rfl rfl ?d1 ?d2 ?d3 ?d4 ?d5 ?_))
    case d1 => exact World.news_of_block (cs := #[.string s]) (t := 9) (fr := (0, 0)) (heap_alloc_new wo _)
    case d2 => intro u hu; simp at hu; subst hu; rfl
    case d3 => unfold maxLen; simp
    case d4 => simp
    case d5 => simp; omega
    intro v' w1 hown' hgrow _
    have hb' : Below w.heap.size w w1 := (hb.alloc hsz _).grown hgrow (by simp; omega) (fun j hj => by simp [Value.ownBlock] at hj)
    have hown2 : w1.ownsRow w.heap.size 9 1 v' 1 ([s].map Value.string) := hown'
    obtain ⟨A', c', rfl, hr⟩ := own_strs hown2
    clear hown' hgrow hown2 hb
    go_wp2
    go_ret
    exact ⟨A', c', rfl, hr, hb'⟩

/-- What the map of an empty line holds behind k rounds. -/
def emptyAt (H : Type) (k : Nat) : DataW H := if k = 0 then .map [] else (DataW.map []).put (.string []) (.lit (.string []))

set_option maxHeartbeats 2000000 in
set_option maxRecDepth 100000 in
theorem parseEmpty_any {H : Type} (w : World) (hsp : Spaces w) :
    Calls Tryz.prog 37 #[.string ⟨#[]⟩] w fun e w' => e = .returned (.map (some w.heap.size)) ∧ w'.ownsMap Tryz.prog 9 (plainElem (H := H) Tryz.prog 9) w.heap.size 1 (emptyAt H 1) ∧ Below w.heap.size w w' := by
  have hsc : ∀ w, Calls Tryz.prog 47 #[.string ⟨#[]⟩, .string ⟨#[59]⟩] w fun e w' => ∃ A k, e = .returned (.slice A 1 k) ∧ Strs (w.heap.size ≤ ·) w' A [⟨#[]⟩] ∧ Below w.heap.size w w' := fun w => by
    have := F.split_any ⟨#[]⟩ 59 w (Nat.zero_le _)
    rw [show piecesB 59 ⟨#[]⟩ = [⟨#[]⟩] from rfl] at this
    exact this
  have htr : ∀ w, Spaces w → Calls Tryz.prog 49 #[.string ⟨#[]⟩] w fun e w' => e = .returned (.string ⟨#[]⟩) ∧ Below w.heap.size w w' := fun w hs =>
    (Tryz.strings_TrimSpace ⟨#[]⟩ w (Nat.zero_le _) (fun j b hb => by simp at hb) hs).mono fun e w' ⟨he, hw⟩ => ⟨he, hw ▸ below_bytes _ _ _⟩
  have hlo : ∀ w, Calls Tryz.prog 50 #[.string ⟨#[]⟩] w fun e w' => e = .returned (.string ⟨#[]⟩) ∧ Below w.heap.size w w' := fun w => by
    have := Tryz.strings_ToLower_ascii ⟨#[]⟩ w (Nat.zero_le _) (fun j b hb => by simp at hb)
    exact this
  have hs2 : ∀ w, Calls Tryz.prog 48 #[.string ⟨#[]⟩, .string ⟨#[61]⟩, .int .i64 2] w fun e w' => ∃ A k, e = .returned (.slice A 1 k) ∧ Strs (w.heap.size ≤ ·) w' A [⟨#[]⟩] ∧ Below w.heap.size w w' := fun w => F.split2_none ⟨#[]⟩ 61 w (Nat.zero_le _) (by decide)
  have hkey : keyOf Tryz.prog 9 (.string ⟨#[]⟩) = some (.string []) := keyOf_string_mk (s := ⟨#[]⟩) Tryz.underlying9 (Nat.zero_le _)
  have HSC := Lib.hid hsc
  have HTR := Lib.hid htr
  have HLO := Lib.hid hlo
  have HS2 := Lib.hid hs2
  have HKEY := Lib.hid hkey
  have HSP := Lib.hid hsp
  clear hsc htr hlo hs2 hkey hsp
  have hmm := @run_makeMap Tryz.prog
  go_enter Tryz.func37, Tryz.ntmps37
  go_wp2_with (go_at_call 47; refine (HSC.out _).mono ?_; rintro e w1 ⟨A, c, rfl, hps, hb1⟩)
  have hs1 : w.heap.size + 1 ≤ w1.heap.size := by have := hb1.size; simpa using this
  have hown1 : w1.ownsMap Tryz.prog 9 (plainElem (H := H) Tryz.prog 9) w.heap.size 0 (emptyAt H 0) := (World.ownsMap_made w Tryz.prog 9 (plainElem (H := H) Tryz.prog 9)).kept (grown_of_below hb1 none) (by simp)
  have bel1 : Below w.heap.size w w1 := ((Below.refl _ _).alloc (Nat.le_refl _) _).trans (hb1.mono (by simp))
  obtain ⟨pb, po, rfl, _, p0⟩ := hps 0 ⟨#[]⟩ rfl
  simp only [Nat.add_zero] at p0
  clear hps hb1
  go_loopw [13] (fun i wr => ∃ k : Nat, k ≤ 1 ∧ i = .int .i64 k ∧ wr.ownsMap Tryz.prog 9 (plainElem (H := H) Tryz.prog 9) w.heap.size k (emptyAt H k) ∧ (k = 0 → wr.cell? ⟨pb, po, none⟩ = some (.string ⟨#[]⟩)) ∧ Below w.heap.size w wr) (fun i _ => 1 - (intOf i).toNat)
  case atStart => exact ⟨0, Nat.zero_le _, rfl, hown1, fun _ => p0, bel1⟩
  case round =>
    obtain ⟨wo, rfl⟩ : ∃ wo : World, wo = wr := ⟨_, rfl⟩
    obtain ⟨k, hk, rfl, hown, hcell, hb⟩ := hrel
    have hsz := hb.size
    rcases (show k = 0 ∨ k = 1 by omega) with rfl | rfl
    · have c0 := hcell rfl
      have HOWN := Lib.hid hown
      clear hown hcell
      go_wp2_with (first
        | (go_at_call 49; refine (HTR.out _ (HSP.out.below hb)).mono ?_; rintro e w2 ⟨rfl, hb2⟩)
        | (go_at_call 48; refine (HS2.out _).mono ?_; rintro e w3 ⟨A2, k2, rfl, hr2, hb3⟩; obtain ⟨b2, o2, rfl, _, q0⟩ := hr2 0 ⟨#[]⟩ rfl; simp only [Nat.add_zero] at q0)
        | (go_at_call 50; refine (HLO.out _).mono ?_; rintro e w4 ⟨rfl, hb4⟩; have B4 := Lib.hid (below_step (below_step hb2 hb2.size hb3) (Nat.le_trans hb2.size hb3.size) hb4))
        | (at_mapUpdate; refine wpList_mapUpdate_own _ rfl _ _ _ 111 rfl 9 9 Tryz.keyed Tryz.underlying111 _ w.heap.size 0 _ rfl (HOWN.out.kept (grown_of_below B4.out none) (by simp)) (by unfold maxLen; omega) _ _ _ rfl rfl HKEY.out _ [] (plainElem_string (s := ⟨#[]⟩) Tryz.underlying9 (Nat.zero_le _)) ?_; intro w5 hown5 hgrow5))
      have own5 : w5.ownsMap Tryz.prog 9 (plainElem (H := H) Tryz.prog 9) w.heap.size 1 (emptyAt H 1) := hown5
      have bel4 : Below w.heap.size w w4 := below_step hb hsz B4.out
      have bel5 : Below w.heap.size w w5 := bel4.grown hgrow5 bel4.size (fun j hj => by cases hj; exact Nat.le_refl _)
      have G1 := Lib.hid own5
      have G3 := Lib.hid bel5
      clear hown5 hgrow5 own5 bel5 bel4 c0
      go_wp2
      go_roundw
      case rel => exact ⟨1, by omega, by go_num, G1.out, fun h => absurd h (by omega), G3.out⟩
      case measure => simp [intOf]
    · have HOWN := Lib.hid hown
      clear hown hcell
      go_wp2
      go_ret
      exact ⟨rfl, HOWN.out, hb⟩
end Go.Proofs.YtlbmjfjmbgbpeaaGreatDoor
