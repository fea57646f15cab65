/- The reference's test of a line of parameters. -/
import Derived.Test.YtkaelnfhohggeaaDoorCodLaw
namespace Go.Proofs.YtkaelnfhohggeaaDoor
open Go.RowKit

theorem word_one {s : ByteArray} {k : Nat} (hk : k < s.size) (h : wordB (s.extract k (k + 1)) = true) : okB s[k] = true := by
  simp only [wordB, Bool.and_eq_true, List.all_eq_true] at h
  refine h.1 _ ?_
  rw [ByteArray.data_extract, Array.toList_extract]
  have e : (s.data.toList.drop k).take 1 = [s.data.toList[k]'(by simpa using hk)] := by
    rw [List.drop_eq_getElem_cons (by simpa using hk)]; rfl
  simp only [List.extract, show k + 1 - k = 1 by omega, e, List.mem_singleton]
  rfl

set_option maxHeartbeats 1000000 in
set_option maxRecDepth 100000 in
theorem line_any (s : ByteArray) (w : World) (hs : s.size ≤ 140737488351232) :
    Calls Tryd.prog 13 #[.string s] w fun e w' => ∃ r : Bool, e = .returned (.bool r) ∧ (r = true → lineB s = true) ∧ w = w' := by
  go_enter Tryd.func13, Tryd.ntmps13
  go_wp2
  go_loop [7] (fun i => ∃ k : Nat, i = .int .i64 k ∧ k ≤ s.size ∧ (s.data.toList.take k).all lineOk = true) (fun i => s.size - (intOf i).toNat)
  case atStart => exact ⟨0, rfl, by omega, by simp⟩
  case round =>
    obtain ⟨k, rfl, hk, hall⟩ := hrel
    have HALL := Lib.hid hall
    clear hall
    by_cases hlt : k < s.size
    · have hb := (s[k]).toNat_lt
      rcases (show s[k].toNat = 61 ∨ s[k].toNat = 59 ∨ (s[k].toNat ≠ 61 ∧ s[k].toNat ≠ 59) by omega) with h | h | ⟨h, h'⟩
      · have n1 : ((s[k].toNat : Int) != 61) = false := by simp; omega
        have nx := all_take_succ hlt HALL.out (by simp [lineOk]; omega)
        have NX := Lib.hid nx
        clear nx
        go_wp2
        go_round
        case rel => exact ⟨k + 1, by go_num, by omega, NX.out⟩
        case measure => simp [intOf]; omega
      · have n1 : ((s[k].toNat : Int) != 61) = true := by simp; omega
        have n2 : ((s[k].toNat : Int) != 59) = false := by simp; omega
        have nx := all_take_succ hlt HALL.out (by simp [lineOk]; omega)
        have NX := Lib.hid nx
        clear nx
        go_wp2
        go_round
        case rel => exact ⟨k + 1, by go_num, by omega, NX.out⟩
        case measure => simp [intOf]; omega
      · have n1 : ((s[k].toNat : Int) != 61) = true := by simp; omega
        have n2 : ((s[k].toNat : Int) != 59) = true := by simp; omega
        have zx : (s.extract k (k + 1)).size ≤ 140737488351232 := by rw [ByteArray.size_extract]; omega
        have hW := word_any (s.extract k (k + 1))
        cases hw : wordB (s.extract k (k + 1)) with
        | false =>
          rw [hw] at hW
          have HW := Lib.hid (fun w => hW w zx)
          clear hW hw zx
          go_wp2_with (go_at_call 12; refine (HW.out _).mono ?_; rintro e w1 ⟨rfl, rfl⟩)
          go_ret
          exact ⟨false, rfl, (fun e => by cases e), rfl⟩
        | true =>
          rw [hw] at hW
          have HW := Lib.hid (fun w => hW w zx)
          have nx := all_take_succ hlt HALL.out (p := lineOk) (by simp [lineOk, word_one hlt hw])
          have NX := Lib.hid nx
          clear hW hw zx nx
          go_wp2_with (go_at_call 12; refine (HW.out _).mono ?_; rintro e w1 ⟨rfl, rfl⟩)
          go_round
          case rel => exact ⟨k + 1, by go_num, by omega, NX.out⟩
          case measure => simp [intOf]; omega
    · obtain rfl : k = s.size := by omega
      have hall := all_of_take HALL.out
      have HA := Lib.hid hall
      clear hall
      by_cases h60 : s.size ≤ 60
      · have d : decide ((s.size : Int) ≤ 60) = true := by simp; omega
        have fin : lineB s = true := by unfold lineB; rw [HA.out]; simp [h60]
        have FIN := Lib.hid fin
        clear fin
        go_wp2
        go_ret
        exact .inr ⟨rfl, FIN.out, rfl⟩
      · have d : decide ((s.size : Int) ≤ 60) = false := by simp; omega
        go_wp2
        go_ret
        exact .inl ⟨rfl, rfl⟩
end Go.Proofs.YtkaelnfhohggeaaDoor
