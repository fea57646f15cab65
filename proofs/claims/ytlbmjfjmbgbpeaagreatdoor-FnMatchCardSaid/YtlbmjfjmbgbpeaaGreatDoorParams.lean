/- Parameters that are compared: words, keys in growing order of their small letters, at most 8. -/
import Derived.Test.YtlbmjfjmbgbpeaaGreatDoorSmall
import Derived.Test.YtlbmjfjmbgbpeaaGreatDoorWord
import Derived.Test.YtlbmjfjmbgbpeaaGreatDoorLater
namespace Go.Proofs.YtlbmjfjmbgbpeaaGreatDoor
open Go.RowKit

/-- Words, and each key behind the one before. -/
def growB : Option (List UInt8) → List KV → Bool
  | _, [] => true
  | prev, p :: r => wordB p.1 && (wordB p.2 && ((match prev with | none => true | some q => Op.bytesLess q (small p.1).toList) && growB (some (small p.1).toList) r))
def paramsB (l : List KV) : Bool := growB none l && decide (l.length ≤ 8)
def prevOf (l : List KV) (k : Nat) : Option (List UInt8) := if k = 0 then none else (l[k - 1]?).map fun p => (small p.1).toList
theorem growB_drop {prev : Option (List UInt8)} {l : List KV} {k : Nat} (hk : k < l.length) : growB prev (l.drop k) = (wordB l[k].1 && (wordB l[k].2 && ((match prev with | none => true | some q => Op.bytesLess q (small l[k].1).toList) && growB (prevOf l (k + 1)) (l.drop (k + 1))))) := by
  rw [List.drop_eq_getElem_cons hk]
  show (wordB l[k].1 && (wordB l[k].2 && (_ && growB (some (small l[k].1).toList) (l.drop (k + 1))))) = _
  unfold prevOf
  rw [if_neg (by omega), Nat.add_sub_cancel, List.getElem?_eq_getElem hk]
  rfl

set_option maxHeartbeats 2000000 in
set_option maxRecDepth 100000 in
theorem params_any {D : Nat → Prop} (A : Option Addr) (c : Nat) (l : List KV) (w : World) (hl : l.length * 32 ≤ 140737488355328) (hz : ∀ p ∈ l, p.1.size ≤ 2147483647 ∧ p.2.size ≤ 2147483647) (h : KVs D w A l) :
    Calls Tryz.prog 7 #[.slice A l.length c] w fun e w' => e = .returned (.bool (paramsB l)) ∧ Below w.heap.size w w' := by
  have H := Lib.hid h
  have HZ := Lib.hid hz
  clear h hz
  go_enter Tryz.func7, Tryz.ntmps7
  go_wp2
  go_loopw [7] (fun i wr => ∃ k : Nat, i = .int .i64 k ∧ k ≤ l.length ∧ growB (prevOf l k) (l.drop k) = growB none l ∧ Below w.heap.size w wr) (fun i _ => l.length - (intOf i).toNat)
  case atStart => exact ⟨0, rfl, Nat.zero_le _, rfl, Below.refl _ _⟩
  case round =>
    obtain ⟨k, rfl, hk, hat, hb⟩ := hrel
    have HAT := Lib.hid hat
    clear hat
    have hsz := hb.size
    by_cases hlt : k < l.length
    · obtain ⟨b, o, rfl, _, c0, c1⟩ := H.out k l[k] (by simp [hlt])
      have d0 := (hb.cell (p := ⟨b, o + k * 2, none⟩) (World.block_lt_of_cell? _ _ c0)).trans c0
      have d1 := (hb.cell (p := ⟨b, o + k * 2 + 1, none⟩) (World.block_lt_of_cell? _ _ c1)).trans c1
      clear c0 c1
      obtain ⟨z1, z2⟩ := HZ.out _ (List.getElem_mem hlt)
      have hg := growB_drop (prev := prevOf l k) hlt
      rw [HAT.out] at hg
      have hw1 : ∀ w, Calls Tryz.prog 16 #[.string l[k].1] w fun e w' => e = .returned (.bool (wordB l[k].1)) ∧ Below w.heap.size w w' := fun w => (word_any _ w (by omega)).mono fun e w' h => ⟨h.1, h.2 ▸ Below.refl _ _⟩
      have hw2 : ∀ w, Calls Tryz.prog 16 #[.string l[k].2] w fun e w' => e = .returned (.bool (wordB l[k].2)) ∧ Below w.heap.size w w' := fun w => (word_any _ w (by omega)).mono fun e w' h => ⟨h.1, h.2 ▸ Below.refl _ _⟩
      have hs1 : ∀ w, Calls Tryz.prog 17 #[.string l[k].1] w fun e w' => e = .returned (.string (small l[k].1)) ∧ Below w.heap.size w w' := fun w => small_any _ w (by omega)
      have HS1 := Lib.hid hs1
      clear hs1
      cases ht1 : wordB l[k].1 with
      | false =>
        have fin : paramsB l = false := by unfold paramsB; rw [hg, ht1]; rfl
        have FIN := Lib.hid fin
        rw [ht1] at hw1
        have HW1 := Lib.hid hw1
        clear fin hg hw1 hw2 HS1
        generalize l[k].1 = x1 at d0 HW1
        generalize l[k].2 = x2 at d1
        go_wp2_with fail
        have m0 : ∀ x : Later (wr.alloc (.cells #[.string x1, .string x2] 52)), x.W.cell? ⟨wr.heap.size, 0, none⟩ = some (.string x1) := fun x => x.cell (by simp [go_sem])
        refine wp_region_later (by kernel_rfl) (by kernel_rfl) ?_
        repeat (go_big_quiet_step (first | (go_at_call 16; exact Calls.later (HW1.out _))))
        refine wpQuiet_nil ?_
        rintro _ ⟨x, rfl⟩
        have bel := below_step hb hsz (((Below.refl _ _).alloc (Nat.le_refl _) _).trans (x.h.mono (by simp)))
        go_wp2
        go_ret
        exact ⟨congrArg (fun b => Ending.returned (.bool b)) FIN.out.symm, bel⟩
      | true =>
        cases ht2 : wordB l[k].2 with
        | false =>
          have fin : paramsB l = false := by unfold paramsB; rw [hg, ht1, ht2]; rfl
          have FIN := Lib.hid fin
          rw [ht1] at hw1
          rw [ht2] at hw2
          have HW1 := Lib.hid hw1
          have HW2 := Lib.hid hw2
          clear fin hg hw1 hw2 HS1
          generalize l[k].1 = x1 at d0 HW1
          generalize l[k].2 = x2 at d1 HW2
          go_wp2_with fail
          have m0 : ∀ x : Later (wr.alloc (.cells #[.string x1, .string x2] 52)), x.W.cell? ⟨wr.heap.size, 0, none⟩ = some (.string x1) := fun x => x.cell (by simp [go_sem])
          have m1 : ∀ x : Later (wr.alloc (.cells #[.string x1, .string x2] 52)), x.W.cell? ⟨wr.heap.size, 1, none⟩ = some (.string x2) := fun x => x.cell (by simp [go_sem])
          refine wp_region_later (by kernel_rfl) (by kernel_rfl) ?_
          repeat (go_big_quiet_step (first | (go_at_call_of 16 x1; exact Calls.later (HW1.out _)) | (go_at_call_of 16 x2; exact Calls.later (HW2.out _))))
          refine wpQuiet_nil ?_
          rintro _ ⟨x, rfl⟩
          have bel := below_step hb hsz (((Below.refl _ _).alloc (Nat.le_refl _) _).trans (x.h.mono (by simp)))
          go_wp2
          go_ret
          exact ⟨congrArg (fun b => Ending.returned (.bool b)) FIN.out.symm, bel⟩
        | true =>
          rw [ht1] at hw1
          rw [ht2] at hw2
          rw [ht1, ht2, Bool.true_and, Bool.true_and] at hg
          have HW1 := Lib.hid hw1
          have HW2 := Lib.hid hw2
          clear hw1 hw2
          by_cases h0 : k = 0
          · have e0 : prevOf l k = none := by unfold prevOf; rw [if_pos h0]
            rw [e0] at hg
            have e1 : growB (prevOf l (k + 1)) (l.drop (k + 1)) = growB none l := by rw [hg]; rfl
            have E1 := Lib.hid e1
            have g0 : decide (0 < k) = false := by simp; omega
            clear e1 hg HS1 HAT e0 h0
            generalize l[k].1 = x1 at d0 HW1
            generalize l[k].2 = x2 at d1 HW2
            go_wp2_with fail
            have m0 : ∀ x : Later (wr.alloc (.cells #[.string x1, .string x2] 52)), x.W.cell? ⟨wr.heap.size, 0, none⟩ = some (.string x1) := fun x => x.cell (by simp [go_sem])
            have m1 : ∀ x : Later (wr.alloc (.cells #[.string x1, .string x2] 52)), x.W.cell? ⟨wr.heap.size, 1, none⟩ = some (.string x2) := fun x => x.cell (by simp [go_sem])
            refine wp_region_later (by kernel_rfl) (by kernel_rfl) ?_
            repeat (go_big_quiet_step (first | (go_at_call_of 16 x1; exact Calls.later (HW1.out _)) | (go_at_call_of 16 x2; exact Calls.later (HW2.out _))))
            refine wpQuiet_nil ?_
            rintro _ ⟨x, rfl⟩
            have bel := below_step hb hsz (((Below.refl _ _).alloc (Nat.le_refl _) _).trans (x.h.mono (by simp)))
            have BEL := Lib.hid bel
            clear bel
            go_wp2
            go_roundw
            case rel => exact ⟨k + 1, by go_num, by omega, E1.out, BEL.out⟩
            case measure => simp [intOf]; omega
          · obtain ⟨j, rfl⟩ : ∃ j, k = j + 1 := ⟨k - 1, by omega⟩
            clear h0
            have hj : j < l.length := by omega
            have hp : prevOf l (j + 1) = some (small l[j].1).toList := by unfold prevOf; rw [if_neg (by omega), Nat.add_sub_cancel, List.getElem?_eq_getElem hj]; rfl
            obtain ⟨b', o', hA, _, p0, _⟩ := H.out j l[j] (by simp [hj])
            cases hA
            have q0 := (hb.cell (p := ⟨b, o + j * 2, none⟩) (World.block_lt_of_cell? _ _ p0)).trans p0
            have zp := (HZ.out _ (List.getElem_mem hj)).1
            have hsp : ∀ w, Calls Tryz.prog 17 #[.string l[j].1] w fun e w' => e = .returned (.string (small l[j].1)) ∧ Below w.heap.size w w' := fun w => small_any _ w (by omega)
            have HSP := Lib.hid hsp
            rw [hp] at hg
            have hg' : growB none l = (Op.bytesLess (small l[j].1).toList (small l[j + 1].1).toList && growB (prevOf l (j + 1 + 1)) (l.drop (j + 1 + 1))) := hg
            have hpl : growB none l = false → paramsB l = false := fun h => by unfold paramsB; rw [h]; rfl
            have HPL := Lib.hid hpl
            clear hsp hg p0 HAT hp hpl
            generalize hrest : growB (prevOf l (j + 1 + 1)) (l.drop (j + 1 + 1)) = rest at hg'
            generalize hx1 : l[j + 1].1 = x1 at d0 HW1 HS1 hg'
            generalize hx2 : l[j + 1].2 = x2 at d1 HW2
            generalize hxp : l[j].1 = xp at q0 HSP hg'
            clear hx1 hx2 hxp
            cases hc : Op.bytesLess (small xp).toList (small x1).toList with
            | true =>
              rw [hc, Bool.true_and] at hg'
              have e1 : growB (prevOf l (j + 1 + 1)) (l.drop (j + 1 + 1)) = growB none l := hrest.trans hg'.symm
              have E1 := Lib.hid e1
              clear e1 hg' HPL hrest
              go_wp2_with fail
              have m0 : ∀ x : Later (wr.alloc (.cells #[.string x1, .string x2] 52)), x.W.cell? ⟨wr.heap.size, 0, none⟩ = some (.string x1) := fun x => x.cell (by simp [go_sem])
              have m1 : ∀ x : Later (wr.alloc (.cells #[.string x1, .string x2] 52)), x.W.cell? ⟨wr.heap.size, 1, none⟩ = some (.string x2) := fun x => x.cell (by simp [go_sem])
              have m2 : ∀ x : Later (wr.alloc (.cells #[.string x1, .string x2] 52)), x.W.cell? ⟨b, o + j * 2, none⟩ = some (.string xp) := fun x => x.cell (cell_al q0 _)
              refine wp_region_later (by kernel_rfl) (by kernel_rfl) ?_
              repeat (go_big_quiet_step (first | (go_at_call_of 16 x1; exact Calls.later (HW1.out _)) | (go_at_call_of 16 x2; exact Calls.later (HW2.out _)) | (go_at_call_of 17 xp; exact Calls.later (HSP.out _)) | (go_at_call_of 17 x1; exact Calls.later (HS1.out _))))
              refine wpQuiet_nil ?_
              rintro _ ⟨x, rfl⟩
              have bel := below_step hb hsz (((Below.refl _ _).alloc (Nat.le_refl _) _).trans (x.h.mono (by simp)))
              have BEL := Lib.hid bel
              clear bel
              go_wp2
              go_roundw
              case rel => exact ⟨j + 1 + 1, by go_num, by omega, E1.out, BEL.out⟩
              case measure => simp [intOf]; omega
            | false =>
              rw [hc, Bool.false_and] at hg'
              have fin := HPL.out hg'
              have FIN := Lib.hid fin
              clear fin hg' HPL hrest
              go_wp2_with fail
              have m0 : ∀ x : Later (wr.alloc (.cells #[.string x1, .string x2] 52)), x.W.cell? ⟨wr.heap.size, 0, none⟩ = some (.string x1) := fun x => x.cell (by simp [go_sem])
              have m1 : ∀ x : Later (wr.alloc (.cells #[.string x1, .string x2] 52)), x.W.cell? ⟨wr.heap.size, 1, none⟩ = some (.string x2) := fun x => x.cell (by simp [go_sem])
              have m2 : ∀ x : Later (wr.alloc (.cells #[.string x1, .string x2] 52)), x.W.cell? ⟨b, o + j * 2, none⟩ = some (.string xp) := fun x => x.cell (cell_al q0 _)
              refine wp_region_later (by kernel_rfl) (by kernel_rfl) ?_
              repeat (go_big_quiet_step (first | (go_at_call_of 16 x1; exact Calls.later (HW1.out _)) | (go_at_call_of 16 x2; exact Calls.later (HW2.out _)) | (go_at_call_of 17 xp; exact Calls.later (HSP.out _)) | (go_at_call_of 17 x1; exact Calls.later (HS1.out _))))
              refine wpQuiet_nil ?_
              rintro _ ⟨x, rfl⟩
              have bel := below_step hb hsz (((Below.refl _ _).alloc (Nat.le_refl _) _).trans (x.h.mono (by simp)))
              go_wp2
              go_ret
              exact ⟨congrArg (fun b => Ending.returned (.bool b)) FIN.out.symm, bel⟩
    · obtain rfl : k = l.length := by omega
      have e1 := HAT.out
      rw [List.drop_length] at e1
      have e2 : paramsB l = decide (l.length ≤ 8) := by unfold paramsB; rw [← e1]; rfl
      have E2 := Lib.hid e2
      clear e1 e2
      by_cases h8 : l.length ≤ 8
      · have g : decide ((l.length : Int) ≤ 8) = true := by simp; omega
        have g2 : decide (l.length ≤ 8) = true := by simp; omega
        go_wp2
        go_ret
        exact ⟨congrArg (fun b => Ending.returned (.bool b)) (by rw [E2.out, g2]), hb⟩
      · have g : decide ((l.length : Int) ≤ 8) = false := by simp; omega
        have g2 : decide (l.length ≤ 8) = false := by simp; omega
        go_wp2
        go_ret
        exact ⟨congrArg (fun b => Ending.returned (.bool b)) (by rw [E2.out, g2]), hb⟩
end Go.Proofs.YtlbmjfjmbgbpeaaGreatDoor
