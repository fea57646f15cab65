/- The reference's answer whether parameters agree. -/
import Derived.Test.YtlbmjfjmbgbpeaaGreatDoorValue
import Derived.Test.YtlbmjfjmbgbpeaaGreatDoorLater
namespace Go.Proofs.YtlbmjfjmbgbpeaaGreatDoor
open Go.RowKit

/-- One parameter against a list. -/
def agrees (b : List KV) (p : KV) : Bool := !(valOf (small p.1).toList b).2 || ((small (valOf (small p.1).toList b).1).toList == (small p.2).toList)
def agreeL (b a : List KV) : Bool := a.all (agrees b)
theorem agreeL_drop {a b : List KV} {k : Nat} (hk : k < a.length) : agreeL b (a.drop k) = (agrees b a[k] && agreeL b (a.drop (k + 1))) := by
  unfold agreeL
  rw [List.drop_eq_getElem_cons hk, List.all_cons]

theorem valOf_size {key : List UInt8} {n : Nat} : ∀ {l : List KV}, (∀ p ∈ l, p.2.size ≤ n) → (valOf key l).1.size ≤ n
  | [], _ => Nat.zero_le _
  | p :: r, h => by
    unfold valOf
    split
    · exact h p (List.mem_cons_self ..)
    · exact valOf_size fun q hq => h q (List.mem_cons_of_mem _ hq)

set_option maxHeartbeats 2000000 in
set_option maxRecDepth 100000 in
theorem agree_any {D D' : Nat → Prop} (A B : Option Addr) (c d : Nat) (a b : List KV) (w : World) (ha : a.length * 32 ≤ 140737488355328) (hb : b.length * 32 ≤ 140737488355328) (za : ∀ p ∈ a, p.1.size ≤ 2147483647 ∧ p.2.size ≤ 2147483647) (zb : ∀ p ∈ b, p.1.size ≤ 2147483647 ∧ p.2.size ≤ 2147483647) (h : KVs D w A a) (h' : KVs D' w B b) :
    Calls Tryz.prog 11 #[.slice A a.length c, .slice B b.length d] w fun e w' => e = .returned (.bool (agreeL b a)) ∧ Below w.heap.size w w' := by
  have H := Lib.hid h
  have H' := Lib.hid h'
  have ZA := Lib.hid za
  have ZB := Lib.hid zb
  clear h h' za zb
  go_enter Tryz.func11, Tryz.ntmps11
  go_wp2
  go_loopw [11] (fun i wr => ∃ k : Nat, i = .int .i64 k ∧ k ≤ a.length ∧ agreeL b (a.drop k) = agreeL b a ∧ Below w.heap.size w wr) (fun i _ => a.length - (intOf i).toNat)
  case atStart => exact ⟨0, rfl, Nat.zero_le _, rfl, Below.refl _ _⟩
  case round =>
    obtain ⟨k, rfl, hk, hat, hbw⟩ := hrel
    have HAT := Lib.hid hat
    clear hat
    have hsz := hbw.size
    by_cases hlt : k < a.length
    · obtain ⟨bb, o, rfl, _, c0, c1⟩ := H.out k a[k] (by simp [hlt])
      have d0 := (hbw.cell (p := ⟨bb, o + k * 2, none⟩) (World.block_lt_of_cell? _ _ c0)).trans c0
      have d1 := (hbw.cell (p := ⟨bb, o + k * 2 + 1, none⟩) (World.block_lt_of_cell? _ _ c1)).trans c1
      clear c0 c1
      have hg := agreeL_drop (b := b) hlt
      rw [HAT.out] at hg
      obtain ⟨z1, z2⟩ := ZA.out _ (List.getElem_mem hlt)
      have hva := fun w (h : Kp wr w) => value_any (D := D') B d b a[k].1 w hb (fun p hp => by have := (ZB.out p hp).1; omega) (by omega) ((H'.out.keep (kp_of_below hbw)).keep h)
      have hvz : (valOf (small a[k].1).toList b).1.size ≤ 2147483647 := valOf_size fun p hp => (ZB.out p hp).2
      have hag : agrees b a[k] = (!(valOf (small a[k].1).toList b).2 || ((small (valOf (small a[k].1).toList b).1).toList == (small a[k].2).toList)) := rfl
      rw [hag] at hg
      generalize (valOf (small a[k].1).toList b).1 = v at hg hva hvz
      cases hok : (valOf (small a[k].1).toList b).2 with
      | false =>
        rw [hok] at hg hva
        have HN := Lib.hid (show agreeL b (a.drop (k + 1)) = agreeL b a by rw [hg]; rfl)
        have HVA := Lib.hid hva
        clear hg hva hag hok
        generalize a[k].1 = x1 at d0 HVA
        generalize a[k].2 = x2 at d1
        go_wp2_with (go_at_call 22; refine (HVA.out _ (Kp.alloc _ _)).mono ?_; rintro e w1 ⟨rfl, hb1⟩; have m1 : ∀ x : Later w1, x.W.cell? ⟨wr.heap.size, 1, none⟩ = some (.string x2) := fun x => x.cell ((hb1.cell (by simp)).trans (by simp [go_sem])))
        refine wp_region_later (by kernel_rfl) (by kernel_rfl) ?_
        repeat (go_big_quiet_step (fail))
        refine wpQuiet_nil ?_
        rintro _ ⟨x, rfl⟩
        have b1 : Below w.heap.size w w1 := below_step hbw hsz (((Below.refl _ _).alloc (Nat.le_refl _) _).trans (hb1.mono (by simp)))
        have BL := Lib.hid (below_step b1 b1.size x.h)
        clear b1
        go_wp2
        go_roundw
        case rel => exact ⟨k + 1, by go_num, by omega, HN.out, BL.out⟩
        case measure => simp [intOf]; omega
      | true =>
        rw [hok] at hg hva
        have HVA := Lib.hid hva
        have HS1 := Lib.hid (fun w => small_any v w (by omega))
        have HS2 := Lib.hid (fun w => small_any a[k].2 w (by omega))
        clear hva hag hok
        generalize a[k].1 = x1 at d0 HVA
        generalize a[k].2 = x2 at d1 HS2 hg
        cases hq : ((small v).toList == (small x2).toList) with
        | false =>
          rw [hq] at hg
          have HN := Lib.hid (show agreeL b a = false by rw [hg]; rfl)
          clear hg
          go_wp2_with (go_at_call 22; refine (HVA.out _ (Kp.alloc _ _)).mono ?_; rintro e w1 ⟨rfl, hb1⟩; have m1 : ∀ x : Later w1, x.W.cell? ⟨wr.heap.size, 1, none⟩ = some (.string x2) := fun x => x.cell ((hb1.cell (by simp)).trans (by simp [go_sem])))
          refine wp_region_later (by kernel_rfl) (by kernel_rfl) ?_
          repeat (go_big_quiet_step (first | (go_at_call_of 17 v; exact Calls.later (HS1.out _)) | (go_at_call_of 17 x2; exact Calls.later (HS2.out _))))
          refine wpQuiet_nil ?_
          rintro _ ⟨x, rfl⟩
          have b1 : Below w.heap.size w w1 := below_step hbw hsz (((Below.refl _ _).alloc (Nat.le_refl _) _).trans (hb1.mono (by simp)))
          go_wp2
          go_ret
          exact ⟨congrArg (fun b => Ending.returned (.bool b)) HN.out.symm, below_step b1 b1.size x.h⟩
        | true =>
          rw [hq] at hg
          have HN := Lib.hid (show agreeL b (a.drop (k + 1)) = agreeL b a by rw [hg]; rfl)
          clear hg
          go_wp2_with (go_at_call 22; refine (HVA.out _ (Kp.alloc _ _)).mono ?_; rintro e w1 ⟨rfl, hb1⟩; have m1 : ∀ x : Later w1, x.W.cell? ⟨wr.heap.size, 1, none⟩ = some (.string x2) := fun x => x.cell ((hb1.cell (by simp)).trans (by simp [go_sem])))
          refine wp_region_later (by kernel_rfl) (by kernel_rfl) ?_
          repeat (go_big_quiet_step (first | (go_at_call_of 17 v; exact Calls.later (HS1.out _)) | (go_at_call_of 17 x2; exact Calls.later (HS2.out _))))
          refine wpQuiet_nil ?_
          rintro _ ⟨x, rfl⟩
          have b1 : Below w.heap.size w w1 := below_step hbw hsz (((Below.refl _ _).alloc (Nat.le_refl _) _).trans (hb1.mono (by simp)))
          have BL := Lib.hid (below_step b1 b1.size x.h)
          clear b1
          go_wp2
          go_roundw
          case rel => exact ⟨k + 1, by go_num, by omega, HN.out, BL.out⟩
          case measure => simp [intOf]; omega
    · obtain rfl : k = a.length := by omega
      have e1 : agreeL b a = true := by rw [← HAT.out, List.drop_length]; rfl
      have E1 := Lib.hid e1
      clear e1
      go_wp2
      go_ret
      exact ⟨congrArg (fun b => Ending.returned (.bool b)) E1.out.symm, hbw⟩
end Go.Proofs.YtlbmjfjmbgbpeaaGreatDoor
