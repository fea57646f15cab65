/- A fingerprint: pairs of digits with colons between; only what the law needs of it: no blank, and 5 to 95 bytes. -/
import Derived.Test.YtlbmjfjmbgbpeaaBase
namespace Go.Proofs.Ytlbmjfjmbgbpeaa
open Go.RowKit

theorem none_take_succ {s : ByteArray} {k : Nat} (hk : k < s.size) (h : ∀ b ∈ s.data.toList.take k, b ≠ 32) (hp : s[k].toNat ≠ 32) : ∀ b ∈ s.data.toList.take (k + 1), b ≠ 32 := by
  have hk' : k < s.data.toList.length := by simpa using hk
  rw [List.take_succ_eq_append_getElem hk']
  intro b hb
  rcases List.mem_append.1 hb with h1 | h1
  · exact h b h1
  · simp at h1
    subst h1
    intro e
    have : s.data[k] = 32 := e
    apply hp
    show s.data[k].toNat = 32
    rw [this]; rfl

/-- An answer; if it is yes, the text is a fingerprint's. -/
def HashSays (s : ByteArray) (e : Ending) : Prop := ∃ b, e = .returned (.bool b) ∧ (b = true → (∀ x ∈ s.data.toList, x ≠ 32) ∧ 5 ≤ s.size ∧ s.size ≤ 95)

set_option maxHeartbeats 4000000 in
set_option maxRecDepth 100000 in
theorem hash_any (s : ByteArray) (w : World) (hs : s.size ≤ 140737488351232) :
    Calls Try.prog 17 #[.string s] w fun e w' => HashSays s e ∧ w = w' := by
  go_enter Try.func17, Try.ntmps17
  go_wp2
  go_loop [7] (fun i => ∃ k : Nat, i = .int .i64 k ∧ k ≤ s.size ∧ (∀ b ∈ s.data.toList.take k, b ≠ 32)) (fun i => s.size - (intOf i).toNat)
  case atStart => exact ⟨0, rfl, by omega, by simp⟩
  case round =>
    obtain ⟨k, rfl, hk, hall⟩ := hrel
    have HALL := Lib.hid hall
    clear hall
    by_cases hlt : k < s.size
    · have hb := (s[k]).toNat_lt
      have tm : ((k : Int)).tmod 3 = ((k % 3 : Nat) : Int) := by rw [Int.tmod_eq_emod_of_nonneg (by omega)]; rfl
      rcases (show k % 3 = 2 ∨ k % 3 = 0 ∨ k % 3 = 1 by omega) with h3 | h3 | h3
      · rw [h3] at tm
        have t2 : (((k : Int)).tmod 3 == 2) = true := by rw [tm]; rfl
        have t3 : (((k : Int)).tmod 3 != 2) = false := by rw [tm]; rfl
        by_cases h : s[k].toNat = 58
        · have n58 : ((s[k].toNat : Int) != 58) = false := by simp; omega
          have nx := none_take_succ hlt HALL.out (by omega)
          have NX := Lib.hid nx
          clear nx
          go_wp2
          go_round
          case rel => exact ⟨k + 1, by go_num, by omega, NX.out⟩
          case measure => simp [intOf]; omega
        · have n58 : ((s[k].toNat : Int) != 58) = true := by simp; omega
          go_wp2
          go_ret
          exact ⟨⟨false, rfl, (fun h => by cases h)⟩, rfl⟩
      · rw [h3] at tm
        have t2 : (((k : Int)).tmod 3 == 2) = false := by rw [tm]; rfl
        have t3 : (((k : Int)).tmod 3 != 2) = true := by rw [tm]; rfl
        rcases (show s[k].toNat < 48 ∨ (48 ≤ s[k].toNat ∧ s[k].toNat ≤ 57) ∨ (58 ≤ s[k].toNat ∧ s[k].toNat < 65) ∨ (65 ≤ s[k].toNat ∧ s[k].toNat ≤ 70) ∨ 70 < s[k].toNat by omega) with h | h | h | h | h
        · have a1 : decide ((s[k].toNat : Int) < 48) = true := by simp; omega
          have a2 : decide ((57 : Int) < (s[k].toNat : Int)) = false := by simp; omega
          have a3 : decide ((s[k].toNat : Int) < 65) = true := by simp; omega
          have a4 : decide ((70 : Int) < (s[k].toNat : Int)) = false := by simp; omega
          go_wp2
          go_ret
          exact ⟨⟨false, rfl, (fun h => by cases h)⟩, rfl⟩
        · have a1 : decide ((s[k].toNat : Int) < 48) = false := by simp; omega
          have a2 : decide ((57 : Int) < (s[k].toNat : Int)) = false := by simp; omega
          have a3 : decide ((s[k].toNat : Int) < 65) = true := by simp; omega
          have a4 : decide ((70 : Int) < (s[k].toNat : Int)) = false := by simp; omega
          have nx := none_take_succ hlt HALL.out (by omega)
          have NX := Lib.hid nx
          clear nx
          go_wp2
          go_round
          case rel => exact ⟨k + 1, by go_num, by omega, NX.out⟩
          case measure => simp [intOf]; omega
        · have a1 : decide ((s[k].toNat : Int) < 48) = false := by simp; omega
          have a2 : decide ((57 : Int) < (s[k].toNat : Int)) = true := by simp; omega
          have a3 : decide ((s[k].toNat : Int) < 65) = true := by simp; omega
          have a4 : decide ((70 : Int) < (s[k].toNat : Int)) = false := by simp; omega
          go_wp2
          go_ret
          exact ⟨⟨false, rfl, (fun h => by cases h)⟩, rfl⟩
        · have a1 : decide ((s[k].toNat : Int) < 48) = false := by simp; omega
          have a2 : decide ((57 : Int) < (s[k].toNat : Int)) = true := by simp; omega
          have a3 : decide ((s[k].toNat : Int) < 65) = false := by simp; omega
          have a4 : decide ((70 : Int) < (s[k].toNat : Int)) = false := by simp; omega
          have nx := none_take_succ hlt HALL.out (by omega)
          have NX := Lib.hid nx
          clear nx
          go_wp2
          go_round
          case rel => exact ⟨k + 1, by go_num, by omega, NX.out⟩
          case measure => simp [intOf]; omega
        · have a1 : decide ((s[k].toNat : Int) < 48) = false := by simp; omega
          have a2 : decide ((57 : Int) < (s[k].toNat : Int)) = true := by simp; omega
          have a3 : decide ((s[k].toNat : Int) < 65) = false := by simp; omega
          have a4 : decide ((70 : Int) < (s[k].toNat : Int)) = true := by simp; omega
          go_wp2
          go_ret
          exact ⟨⟨false, rfl, (fun h => by cases h)⟩, rfl⟩
      · rw [h3] at tm
        have t2 : (((k : Int)).tmod 3 == 2) = false := by rw [tm]; rfl
        have t3 : (((k : Int)).tmod 3 != 2) = true := by rw [tm]; rfl
        rcases (show s[k].toNat < 48 ∨ (48 ≤ s[k].toNat ∧ s[k].toNat ≤ 57) ∨ (58 ≤ s[k].toNat ∧ s[k].toNat < 65) ∨ (65 ≤ s[k].toNat ∧ s[k].toNat ≤ 70) ∨ 70 < s[k].toNat by omega) with h | h | h | h | h
        · have a1 : decide ((s[k].toNat : Int) < 48) = true := by simp; omega
          have a2 : decide ((57 : Int) < (s[k].toNat : Int)) = false := by simp; omega
          have a3 : decide ((s[k].toNat : Int) < 65) = true := by simp; omega
          have a4 : decide ((70 : Int) < (s[k].toNat : Int)) = false := by simp; omega
          go_wp2
          go_ret
          exact ⟨⟨false, rfl, (fun h => by cases h)⟩, rfl⟩
        · have a1 : decide ((s[k].toNat : Int) < 48) = false := by simp; omega
          have a2 : decide ((57 : Int) < (s[k].toNat : Int)) = false := by simp; omega
          have a3 : decide ((s[k].toNat : Int) < 65) = true := by simp; omega
          have a4 : decide ((70 : Int) < (s[k].toNat : Int)) = false := by simp; omega
          have nx := none_take_succ hlt HALL.out (by omega)
          have NX := Lib.hid nx
          clear nx
          go_wp2
          go_round
          case rel => exact ⟨k + 1, by go_num, by omega, NX.out⟩
          case measure => simp [intOf]; omega
        · have a1 : decide ((s[k].toNat : Int) < 48) = false := by simp; omega
          have a2 : decide ((57 : Int) < (s[k].toNat : Int)) = true := by simp; omega
          have a3 : decide ((s[k].toNat : Int) < 65) = true := by simp; omega
          have a4 : decide ((70 : Int) < (s[k].toNat : Int)) = false := by simp; omega
          go_wp2
          go_ret
          exact ⟨⟨false, rfl, (fun h => by cases h)⟩, rfl⟩
        · have a1 : decide ((s[k].toNat : Int) < 48) = false := by simp; omega
          have a2 : decide ((57 : Int) < (s[k].toNat : Int)) = true := by simp; omega
          have a3 : decide ((s[k].toNat : Int) < 65) = false := by simp; omega
          have a4 : decide ((70 : Int) < (s[k].toNat : Int)) = false := by simp; omega
          have nx := none_take_succ hlt HALL.out (by omega)
          have NX := Lib.hid nx
          clear nx
          go_wp2
          go_round
          case rel => exact ⟨k + 1, by go_num, by omega, NX.out⟩
          case measure => simp [intOf]; omega
        · have a1 : decide ((s[k].toNat : Int) < 48) = false := by simp; omega
          have a2 : decide ((57 : Int) < (s[k].toNat : Int)) = true := by simp; omega
          have a3 : decide ((s[k].toNat : Int) < 65) = false := by simp; omega
          have a4 : decide ((70 : Int) < (s[k].toNat : Int)) = true := by simp; omega
          go_wp2
          go_ret
          exact ⟨⟨false, rfl, (fun h => by cases h)⟩, rfl⟩
    · obtain rfl : k = s.size := by omega
      have hall := HALL.out
      rw [show s.size = s.data.toList.length by simp, List.take_length] at hall
      have HN := Lib.hid hall
      clear hall
      by_cases h5 : s.size < 5
      · have a1 : decide ((5 : Int) ≤ (s.size : Int)) = false := by simp; omega
        go_wp2
        go_ret
        exact ⟨⟨false, rfl, (fun h => by cases h)⟩, rfl⟩
      have a1 : decide ((5 : Int) ≤ (s.size : Int)) = true := by simp; omega
      by_cases h95 : 95 < s.size
      · have a2 : decide ((s.size : Int) ≤ 95) = false := by simp; omega
        go_wp2
        go_ret
        exact ⟨⟨false, rfl, (fun h => by cases h)⟩, rfl⟩
      have a2 : decide ((s.size : Int) ≤ 95) = true := by simp; omega
      go_wp2
      go_ret
      exact ⟨⟨_, rfl, fun _ => ⟨HN.out, by omega, by omega⟩⟩, rfl⟩
end Go.Proofs.Ytlbmjfjmbgbpeaa
