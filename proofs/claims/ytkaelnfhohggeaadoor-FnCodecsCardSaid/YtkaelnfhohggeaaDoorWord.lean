/- What a word is: 1 to 20 letters, digits, hyphens and lines. -/
import Derived.Test.YtkaelnfhohggeaaDoorBase
namespace Go.Proofs.YtkaelnfhohggeaaDoor
open Go.RowKit

/-- A byte that a word may have. -/
def okB (b : UInt8) : Bool := decide (97 ≤ b.toNat ∧ b.toNat ≤ 122) || decide (65 ≤ b.toNat ∧ b.toNat ≤ 90) || decide (48 ≤ b.toNat ∧ b.toNat ≤ 57) || decide (b.toNat = 45) || decide (b.toNat = 95)
def wordB (s : ByteArray) : Bool := s.data.toList.all okB && (decide (1 ≤ s.size) && decide (s.size ≤ 20))

/-- A word has no byte that words may not have. -/
theorem word_no {s : ByteArray} (h : wordB s = true) {c : UInt8} (hc : okB c = false) : ∀ b ∈ s.data.toList, b ≠ c := by
  intro b hb e
  subst e
  simp only [wordB, Bool.and_eq_true, List.all_eq_true] at h
  rw [h.1 b hb] at hc
  cases hc
theorem word_size {s : ByteArray} (h : wordB s = true) : 1 ≤ s.size ∧ s.size ≤ 20 := by
  simp only [wordB, Bool.and_eq_true, decide_eq_true_eq] at h
  exact h.2

theorem all_of_take {p : UInt8 → Bool} {s : ByteArray} (h : (s.data.toList.take s.size).all p = true) : s.data.toList.all p = true := by
  rwa [List.take_of_length_le (by simp)] at h
theorem all_take_succ {p : UInt8 → Bool} {s : ByteArray} {k : Nat} (hk : k < s.size) (h : (s.data.toList.take k).all p = true) (hp : p s[k] = true) : (s.data.toList.take (k + 1)).all p = true := by
  rw [List.take_succ_eq_append_getElem (by simpa using hk), List.all_append, h]
  have hp' : p s.data[k] = true := hp
  simpa using hp'
theorem not_all {p : UInt8 → Bool} {s : ByteArray} {k : Nat} (hk : k < s.size) (hp : p s[k] = false) : s.data.toList.all p = false := by
  rw [List.all_eq_false]
  exact ⟨s[k], by show s.data[k] ∈ _; simp, by simp [hp]⟩

set_option maxHeartbeats 4000000 in
set_option maxRecDepth 100000 in
theorem word_any (s : ByteArray) (w : World) (hs : s.size ≤ 140737488351232) :
    Calls Tryd.prog 12 #[.string s] w fun e w' => e = .returned (.bool (wordB s)) ∧ w = w' := by
  go_enter Tryd.func12, Tryd.ntmps12
  go_wp2
  go_loop [7] (fun i => ∃ k : Nat, i = .int .i64 k ∧ k ≤ s.size ∧ (s.data.toList.take k).all okB = true) (fun i => s.size - (intOf i).toNat)
  case atStart => exact ⟨0, rfl, by omega, by simp⟩
  case round =>
    obtain ⟨k, rfl, hk, hall⟩ := hrel
    have HALL := Lib.hid hall
    clear hall
    by_cases hlt : k < s.size
    · have hb := (s[k]).toNat_lt
      rcases (show s[k].toNat < 45 ∨ (46 ≤ s[k].toNat ∧ s[k].toNat ≤ 47) ∨ (58 ≤ s[k].toNat ∧ s[k].toNat ≤ 64) ∨ (91 ≤ s[k].toNat ∧ s[k].toNat ≤ 94) ∨ s[k].toNat = 96 ∨ 122 < s[k].toNat ∨
          s[k].toNat = 45 ∨ (48 ≤ s[k].toNat ∧ s[k].toNat ≤ 57) ∨ (65 ≤ s[k].toNat ∧ s[k].toNat ≤ 90) ∨ s[k].toNat = 95 ∨ (97 ≤ s[k].toNat ∧ s[k].toNat ≤ 122) by omega) with h | h | h | h | h | h | h | h | h | h | h
      · have n45 : ((s[k].toNat : Int) != 45) = true := by simp; omega
        have n95 : ((s[k].toNat : Int) != 95) = true := by simp; omega
        have fin : wordB s = false := by unfold wordB; rw [not_all hlt (p := okB) (by simp [okB]; omega)]; rfl
        have FIN := Lib.hid fin
        clear fin
        go_wp2
        go_ret
        exact ⟨congrArg (fun b => Ending.returned (.bool b)) FIN.out.symm, rfl⟩
      · have n45 : ((s[k].toNat : Int) != 45) = true := by simp; omega
        have n95 : ((s[k].toNat : Int) != 95) = true := by simp; omega
        have fin : wordB s = false := by unfold wordB; rw [not_all hlt (p := okB) (by simp [okB]; omega)]; rfl
        have FIN := Lib.hid fin
        clear fin
        go_wp2
        go_ret
        exact ⟨congrArg (fun b => Ending.returned (.bool b)) FIN.out.symm, rfl⟩
      · have n45 : ((s[k].toNat : Int) != 45) = true := by simp; omega
        have n95 : ((s[k].toNat : Int) != 95) = true := by simp; omega
        have fin : wordB s = false := by unfold wordB; rw [not_all hlt (p := okB) (by simp [okB]; omega)]; rfl
        have FIN := Lib.hid fin
        clear fin
        go_wp2
        go_ret
        exact ⟨congrArg (fun b => Ending.returned (.bool b)) FIN.out.symm, rfl⟩
      · have n45 : ((s[k].toNat : Int) != 45) = true := by simp; omega
        have n95 : ((s[k].toNat : Int) != 95) = true := by simp; omega
        have fin : wordB s = false := by unfold wordB; rw [not_all hlt (p := okB) (by simp [okB]; omega)]; rfl
        have FIN := Lib.hid fin
        clear fin
        go_wp2
        go_ret
        exact ⟨congrArg (fun b => Ending.returned (.bool b)) FIN.out.symm, rfl⟩
      · have n45 : ((s[k].toNat : Int) != 45) = true := by simp; omega
        have n95 : ((s[k].toNat : Int) != 95) = true := by simp; omega
        have fin : wordB s = false := by unfold wordB; rw [not_all hlt (p := okB) (by simp [okB]; omega)]; rfl
        have FIN := Lib.hid fin
        clear fin
        go_wp2
        go_ret
        exact ⟨congrArg (fun b => Ending.returned (.bool b)) FIN.out.symm, rfl⟩
      · have n45 : ((s[k].toNat : Int) != 45) = true := by simp; omega
        have n95 : ((s[k].toNat : Int) != 95) = true := by simp; omega
        have fin : wordB s = false := by unfold wordB; rw [not_all hlt (p := okB) (by simp [okB]; omega)]; rfl
        have FIN := Lib.hid fin
        clear fin
        go_wp2
        go_ret
        exact ⟨congrArg (fun b => Ending.returned (.bool b)) FIN.out.symm, rfl⟩
      · have n45 : ((s[k].toNat : Int) != 45) = false := by simp; omega
        have n95 : ((s[k].toNat : Int) != 95) = true := by simp; omega
        have nx := all_take_succ hlt HALL.out (by simp [okB]; omega)
        have NX := Lib.hid nx
        clear nx
        go_wp2
        go_round
        case rel => exact ⟨k + 1, by go_num, by omega, NX.out⟩
        case measure => simp [intOf]; omega
      · have n45 : ((s[k].toNat : Int) != 45) = true := by simp; omega
        have n95 : ((s[k].toNat : Int) != 95) = true := by simp; omega
        have nx := all_take_succ hlt HALL.out (by simp [okB]; omega)
        have NX := Lib.hid nx
        clear nx
        go_wp2
        go_round
        case rel => exact ⟨k + 1, by go_num, by omega, NX.out⟩
        case measure => simp [intOf]; omega
      · have n45 : ((s[k].toNat : Int) != 45) = true := by simp; omega
        have n95 : ((s[k].toNat : Int) != 95) = true := by simp; omega
        have nx := all_take_succ hlt HALL.out (by simp [okB]; omega)
        have NX := Lib.hid nx
        clear nx
        go_wp2
        go_round
        case rel => exact ⟨k + 1, by go_num, by omega, NX.out⟩
        case measure => simp [intOf]; omega
      · have n45 : ((s[k].toNat : Int) != 45) = true := by simp; omega
        have n95 : ((s[k].toNat : Int) != 95) = false := by simp; omega
        have nx := all_take_succ hlt HALL.out (by simp [okB]; omega)
        have NX := Lib.hid nx
        clear nx
        go_wp2
        go_round
        case rel => exact ⟨k + 1, by go_num, by omega, NX.out⟩
        case measure => simp [intOf]; omega
      · have n45 : ((s[k].toNat : Int) != 45) = true := by simp; omega
        have n95 : ((s[k].toNat : Int) != 95) = true := by simp; omega
        have nx := all_take_succ hlt HALL.out (by simp [okB]; omega)
        have NX := Lib.hid nx
        clear nx
        go_wp2
        go_round
        case rel => exact ⟨k + 1, by go_num, by omega, NX.out⟩
        case measure => simp [intOf]; omega
    · obtain rfl : k = s.size := by omega
      have hall := all_of_take HALL.out
      have HA := Lib.hid hall
      clear hall
      by_cases h1 : 1 ≤ s.size
      · have fin : decide ((s.size : Int) ≤ 20) = wordB s := by unfold wordB; rw [HA.out]; simp [h1]; omega
        have FIN := Lib.hid fin
        clear fin
        go_wp2
        go_ret
        exact ⟨congrArg (fun b => Ending.returned (.bool b)) FIN.out, rfl⟩
      · have fin : wordB s = false := by unfold wordB; rw [HA.out]; simp [h1]
        have FIN := Lib.hid fin
        clear fin
        go_wp2
        go_ret
        exact ⟨congrArg (fun b => Ending.returned (.bool b)) FIN.out.symm, rfl⟩

end Go.Proofs.YtkaelnfhohggeaaDoor
