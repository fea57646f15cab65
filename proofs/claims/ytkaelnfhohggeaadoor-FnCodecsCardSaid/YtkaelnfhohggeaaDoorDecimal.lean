/- The reference's decimal spelling. -/
import Derived.Test.YtkaelnfhohggeaaDoorBase
import Derived.Lib.ParseIntB
import Derived.Laws.IdiomStrings
namespace Go.Proofs.YtkaelnfhohggeaaDoor
open Go.RowKit

/-- The decimal digits of n. -/
def decL (n : Nat) : List UInt8 := if h : n < 10 then [UInt8.ofNat (48 + n)] else decL (n / 10) ++ [UInt8.ofNat (48 + n % 10)]
termination_by n
theorem decL_small {n : Nat} (h : n < 10) : decL n = [UInt8.ofNat (48 + n)] := by rw [decL, dif_pos h]
theorem decL_big {n : Nat} (h : ¬ n < 10) : decL n = decL (n / 10) ++ [UInt8.ofNat (48 + n % 10)] := by rw [decL, dif_neg h]
theorem decL_length (n : Nat) : (decL n).length ≤ n + 1 := by
  induction n using Nat.strongRecOn with
  | _ n ih =>
    by_cases h : n < 10
    · rw [decL_small h]; simp
    · rw [decL_big h, List.length_append]
      have := ih (n / 10) (by omega)
      simp; omega
def dec (n : Nat) : ByteArray := ⟨(decL n).toArray⟩
theorem dec_size (n : Nat) : (dec n).size ≤ n + 1 := by
  have := decL_length n
  show (decL n).toArray.size ≤ _
  simpa using this
theorem dec_big {n : Nat} (h : ¬ n < 10) : dec n = dec (n / 10) ++ dec (n % 10) := by
  have h1 : n % 10 < 10 := by omega
  rw [dec, decL_big h, dec, dec, decL_small h1]
  apply ByteArray.ext; apply Array.ext'; simp

set_option maxHeartbeats 1000000 in
set_option maxRecDepth 100000 in
theorem decimal_any (n : Nat) (w : World) (hn : n ≤ 4294967295) :
    Calls Tryd.prog 7 #[.int .i64 n] w fun e w' => e = .returned (.string (dec n)) ∧ Below w.heap.size w w' := by
  induction n using Nat.strongRecOn generalizing w with
  | _ n ih =>
    have IH := Lib.hid ih
    clear ih
    by_cases h : n < 10
    · have hd : decide ((n : Int) < 10) = true := by simp; omega
      have hb : (UInt8.ofNat (48 + n)).toNat = 48 + n := by rw [UInt8.toNat_ofNat']; omega
      have hcv : (convert 46 9 (.slice (some ⟨w.heap.size, 0, none⟩) 1 1)).run Tryd.prog (w.alloc (.cells #[.int .u8 (48 + n)] 5)) = .ok (.string (dec n)) (w.alloc (.cells #[.int .u8 (48 + n)] 5)) := by
        have := run_convert_bytes_back (P := Tryd.prog) (w.alloc (.cells #[.int .u8 (48 + n)] 5)) 46 9 5 ⟨w.heap.size, 0, none⟩ 1 [UInt8.ofNat (48 + n)] Tryd.underlying46 Tryd.underlying5 Tryd.underlying9 (fun j hj => by
          obtain rfl : j = 0 := by simpa using hj
          rw [show ([UInt8.ofNat (48 + n)][0]).toNat = 48 + n from hb]
          simp [go_sem])
        rw [← decL_small h] at this
        rw [show (decL n).length = 1 by rw [decL_small h]; rfl] at this
        exact this
      go_enter Tryd.func7, Tryd.ntmps7
      go_wp2
      go_ret
      exact ⟨rfl, (Below.refl _ _).alloc (Nat.le_refl _) _⟩
    · have hd : decide ((n : Int) < 10) = false := by simp; omega
      have t1 : ((n : Int)).tdiv 10 = ((n / 10 : Nat) : Int) := by rw [Int.tdiv_eq_ediv_of_nonneg (by omega)]; rfl
      have t2 : ((n : Int)).tmod 10 = ((n % 10 : Nat) : Int) := by rw [Int.tmod_eq_emod_of_nonneg (by omega)]; rfl
      have z1 := dec_size (n / 10)
      have z2 := dec_size (n % 10)
      have fin := dec_big h
      have FIN := Lib.hid fin
      clear fin
      go_enter Tryd.func7, Tryd.ntmps7
      go_wp2_with fail
      refine (IH.out (n / 10) (by omega) w (by omega)).mono ?_
      rintro e w1 ⟨rfl, hb1⟩
      go_wp2_with fail
      refine (IH.out (n % 10) (by omega) w1 (by omega)).mono ?_
      rintro e w2 ⟨rfl, hb2⟩
      go_wp2
      go_ret
      exact ⟨congrArg (fun s => Ending.returned (.string s)) FIN.out.symm, below_step hb1 hb1.size hb2⟩

/-- What the digits of n make of a number that was read before them. -/
theorem parse_dec (M : Nat) (hM : M ≤ 4294967295) : ∀ (n acc : Nat) (r : List UInt8), acc * 10 ^ (decL n).length + n ≤ M → Lib.parseUintM M acc (decL n ++ r) = Lib.parseUintM M (acc * 10 ^ (decL n).length + n) r := by
  intro n
  induction n using Nat.strongRecOn with
  | _ n ih =>
    intro acc r hle
    by_cases h : n < 10
    · have hb : (UInt8.ofNat (48 + n)).toNat = 48 + n := by rw [UInt8.toNat_ofNat']; omega
      rw [decL_small h] at hle ⊢
      simp only [List.length_cons, List.length_nil, List.cons_append, List.nil_append, Lib.parseUintM, hb] at hle ⊢
      rw [if_pos (by omega), if_neg (by omega), if_neg (by omega)]
      congr 1
      omega
    · have hb : (UInt8.ofNat (48 + n % 10)).toNat = 48 + n % 10 := by rw [UInt8.toNat_ofNat']; omega
      have e : decL n = decL (n / 10) ++ [UInt8.ofNat (48 + n % 10)] := decL_big h
      have hl : (decL n).length = (decL (n / 10)).length + 1 := by rw [e]; simp
      have hpow : acc * 10 ^ (decL n).length = acc * 10 ^ (decL (n / 10)).length * 10 := by rw [hl, Nat.pow_succ, Nat.mul_assoc]
      rw [hpow] at hle ⊢
      rw [e, List.append_assoc, ih (n / 10) (by omega) acc _ (by omega)]
      simp only [List.cons_append, List.nil_append, Lib.parseUintM, hb]
      rw [if_pos (by omega), if_neg (by omega), if_neg (by omega)]
      congr 1
      omega
theorem decL_ne (n : Nat) : decL n ≠ [] := by
  by_cases h : n < 10
  · rw [decL_small h]; simp
  · rw [decL_big h]; simp
theorem parseB_dec (B n : Nat) (hB : 2 ^ B - 1 ≤ 4294967295) (hn : n ≤ 2 ^ B - 1) : Lib.parseUintB B (dec n).data.toList = .ok n := by
  have h := parse_dec (2 ^ B - 1) hB n 0 [] (by omega)
  have e : (dec n).data.toList = decL n := rfl
  rw [Lib.parseUintB, e, if_neg (decL_ne n)]
  rw [List.append_nil, Nat.zero_mul, Nat.zero_add] at h
  rw [h]; rfl
end Go.Proofs.YtkaelnfhohggeaaDoor
