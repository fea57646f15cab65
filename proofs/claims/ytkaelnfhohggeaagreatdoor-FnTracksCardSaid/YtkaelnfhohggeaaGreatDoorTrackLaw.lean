/- The attributes of FnTracks' medium, and what the readers make of them: plain laws. -/
import Derived.Test.YtkaelnfhohggeaaGreatDoorDir
import Derived.Test.YtkaelnfhohggeaaGreatDoorRids
import Derived.Test.YtkaelnfhohggeaaGreatDoorMid
import Derived.Test.YtkaelnfhohggeaaGreatDoorWord
import Derived.Test.YtkaelnfhohggeaaGreatDoorDecimal
namespace Go.Proofs.YtkaelnfhohggeaaGreatDoor
open Go.RowKit

/-- The digits of a number are digits. -/
theorem decL_digits : ∀ (n : Nat), ∀ b ∈ decL n, 48 ≤ b.toNat ∧ b.toNat ≤ 57 := by
  intro n
  induction n using Nat.strongRecOn with
  | _ n ih =>
    intro b hb
    have one : ∀ m, m < 10 → 48 ≤ (UInt8.ofNat (48 + m)).toNat ∧ (UInt8.ofNat (48 + m)).toNat ≤ 57 := fun m hm => by
      rw [UInt8.toNat_ofNat']; omega
    by_cases h : n < 10
    · rw [decL_small h] at hb
      obtain rfl := List.mem_singleton.1 hb
      exact one n h
    · rw [decL_big h] at hb
      rcases List.mem_append.1 hb with h1 | h1
      · exact ih (n / 10) (by omega) b h1
      · obtain rfl := List.mem_singleton.1 h1
        exact one (n % 10) (by omega)
theorem dec_no {n : Nat} {c : UInt8} (hc : c.toNat < 48 ∨ 57 < c.toNat) : ∀ b ∈ (dec n).data.toList, b ≠ c := fun b hb e => by
  subst e
  have := decL_digits n b hb
  omega
/-- The number of digits of a number of 32 bits. -/
theorem decL_short : ∀ (d n : Nat), n < 10 ^ (d + 1) → (decL n).length ≤ d + 1
  | 0, n, h => by rw [decL_small (by simpa using h)]; simp
  | d + 1, n, h => by
    by_cases h1 : n < 10
    · rw [decL_small h1]; simp
    · rw [decL_big h1, List.length_append]
      have := decL_short d (n / 10) (by rw [Nat.pow_succ] at h; omega)
      simp; omega
theorem dec_short {n : Nat} (h : n ≤ 4294967295) : (dec n).size ≤ 10 := by
  have := decL_short 9 n (by omega)
  rw [Lib.size_eq]; exact this

def msidVal (s t : ByteArray) : ByteArray := (s ++ ⟨#[32]⟩) ++ t
def cnameVal (n : Nat) : ByteArray := dec n ++ ⟨#[32, 99, 110, 97, 109, 101, 58, 120]⟩
def ssrcVal (n : Nat) (s t : ByteArray) : ByteArray := (((dec n ++ ⟨#[32, 109, 115, 105, 100, 58]⟩) ++ s) ++ ⟨#[32]⟩) ++ t
/-- The attributes of the law's medium. -/
def trackAttrs (mid s t : ByteArray) (n : Nat) : List KV :=
  [(⟨#[109, 105, 100]⟩, mid), (⟨#[115, 101, 110, 100, 114, 101, 99, 118]⟩, ⟨#[]⟩), (⟨#[109, 115, 105, 100]⟩, msidVal s t), (⟨#[115, 115, 114, 99]⟩, cnameVal n), (⟨#[115, 115, 114, 99]⟩, ssrcVal n s t)]

theorem back (s : ByteArray) : (⟨s.data.toList.toArray⟩ : ByteArray) = s := by simp
theorem msid_pieces {s t : ByteArray} (hs : wordB s = true) (ht : wordB t = true) : piecesB 32 (msidVal s t) = [s, t] := by
  have e : (msidVal s t).data.toList = s.data.toList ++ 32 :: t.data.toList := by
    unfold msidVal; rw [data_append, data_append]; simp
  unfold piecesB
  rw [e, pieces_mid 32 _ _ (word_no hs (by decide)), pieces_whole 32 _ (word_no ht (by decide))]
  simp only [List.map_cons, List.map_nil, back]
theorem cname_pieces (n : Nat) : piecesB 32 (cnameVal n) = [dec n, ⟨#[99, 110, 97, 109, 101, 58, 120]⟩] := by
  have e : (cnameVal n).data.toList = (dec n).data.toList ++ 32 :: [99, 110, 97, 109, 101, 58, 120] := by
    unfold cnameVal; rw [data_append]
  unfold piecesB
  rw [e, pieces_mid 32 _ _ (dec_no (by decide)), pieces_whole 32 _ (by decide)]
  simp only [List.map_cons, List.map_nil, back]
theorem ssrc_pieces {s t : ByteArray} (n : Nat) (hs : wordB s = true) (ht : wordB t = true) : piecesB 32 (ssrcVal n s t) = [dec n, ⟨#[109, 115, 105, 100, 58]⟩ ++ s, t] := by
  have e : (ssrcVal n s t).data.toList = (dec n).data.toList ++ 32 :: ((⟨#[109, 115, 105, 100, 58]⟩ ++ s : ByteArray).data.toList ++ 32 :: t.data.toList) := by
    unfold ssrcVal; rw [data_append, data_append, data_append, data_append, data_append]; simp
  have h : ∀ b ∈ (⟨#[109, 115, 105, 100, 58]⟩ ++ s : ByteArray).data.toList, b ≠ 32 := fun b hb => by
    rw [data_append] at hb
    rcases List.mem_append.1 hb with h1 | h1
    · simp at h1
      rcases h1 with rfl | rfl | rfl | rfl | rfl <;> decide
    · exact word_no hs (by decide) b h1
  unfold piecesB
  rw [e, pieces_mid 32 _ _ (dec_no (by decide)), pieces_mid 32 _ _ h, pieces_whole 32 _ (word_no ht (by decide))]
  simp only [List.map_cons, List.map_nil, back]

theorem tl_mid : (⟨#[109, 105, 100]⟩ : ByteArray).toList = [109, 105, 100] := by decide +kernel
theorem tl_send : (⟨#[115, 101, 110, 100, 114, 101, 99, 118]⟩ : ByteArray).toList = [115, 101, 110, 100, 114, 101, 99, 118] := by decide +kernel
theorem tl_msid : (⟨#[109, 115, 105, 100]⟩ : ByteArray).toList = [109, 115, 105, 100] := by decide +kernel
theorem tl_ssrc : (⟨#[115, 115, 114, 99]⟩ : ByteArray).toList = [115, 115, 114, 99] := by decide +kernel

theorem track_mid (mid s t : ByteArray) (n : Nat) : attrOf [109, 105, 100] (trackAttrs mid s t n) = mid := by
  rw [trackAttrs, attrOf, if_pos (by rw [tl_mid]; rfl)]
theorem track_dir (mid s t : ByteArray) (n : Nat) : peerDir (trackAttrs mid s t n) [] = 1 := by
  have h : firstDir (trackAttrs mid s t n) = 1 := by
    rw [trackAttrs, firstDir, if_pos (by rw [tl_mid]; decide), firstDir, if_neg (by rw [tl_send]; decide), tl_send]
    decide
  rw [peerDir, h]; rfl
theorem track_rids (mid s t : ByteArray) (n : Nat) : ridsOf (trackAttrs mid s t n) = [] := by
  simp only [ridsOf, trackAttrs, List.filter_cons, tl_mid, tl_send, tl_msid, tl_ssrc]
  rfl
theorem track_sim (mid s t : ByteArray) (n : Nat) : ∀ p ∈ trackAttrs mid s t n, (p.1.toList == [115, 105, 109, 117, 108, 99, 97, 115, 116]) = false := by
  intro p hp
  simp only [trackAttrs, List.mem_cons, List.not_mem_nil, or_false] at hp
  rcases hp with rfl | rfl | rfl | rfl | rfl
  · rw [tl_mid]; rfl
  · rw [tl_send]; rfl
  · rw [tl_msid]; rfl
  · rw [tl_ssrc]; rfl
  · rw [tl_ssrc]; rfl
theorem track_sizes {s t : ByteArray} {n : Nat} (hs : wordB s = true) (ht : wordB t = true) (hn : n ≤ 4294967295) : (msidVal s t).size ≤ 41 ∧ (cnameVal n).size ≤ 18 ∧ (ssrcVal n s t).size ≤ 57 := by
  have h1 := (word_size hs).2
  have h2 := (word_size ht).2
  have h3 := dec_short hn
  have e1 : (⟨#[32]⟩ : ByteArray).size = 1 := rfl
  have e2 : (⟨#[32, 99, 110, 97, 109, 101, 58, 120]⟩ : ByteArray).size = 8 := rfl
  have e3 : (⟨#[32, 109, 115, 105, 100, 58]⟩ : ByteArray).size = 6 := rfl
  unfold msidVal cnameVal ssrcVal
  simp only [ByteArray.size_append, e1, e2, e3]
  omega
theorem track_vals {mid s t : ByteArray} {n : Nat} (hm : wordB mid = true) (hs : wordB s = true) (ht : wordB t = true) (hn : n ≤ 4294967295) : ∀ p ∈ trackAttrs mid s t n, p.2.size ≤ 4294967296 := by
  have hz := track_sizes hs ht hn
  have h1 := (word_size hm).2
  have e : (⟨#[]⟩ : ByteArray).size = 0 := rfl
  intro p hp
  simp only [trackAttrs, List.mem_cons, List.not_mem_nil, or_false] at hp
  rcases hp with rfl | rfl | rfl | rfl | rfl
  · show mid.size ≤ _; omega
  · show (⟨#[]⟩ : ByteArray).size ≤ _; omega
  · show (msidVal s t).size ≤ _; omega
  · show (cnameVal n).size ≤ _; omega
  · show (ssrcVal n s t).size ≤ _; omega
theorem has_msid (s : ByteArray) : Lib.hasPrefix (⟨#[109, 115, 105, 100, 58]⟩ ++ s : ByteArray).data.toList [109, 115, 105, 100, 58] = true := by
  rw [data_append]
  unfold Lib.hasPrefix
  simp
theorem msid_rest (s : ByteArray) : (⟨#[109, 115, 105, 100, 58]⟩ ++ s : ByteArray).extract 5 (⟨#[109, 115, 105, 100, 58]⟩ ++ s : ByteArray).size = s := by
  have e : (⟨#[109, 115, 105, 100, 58]⟩ : ByteArray).size = 5 := rfl
  apply ByteArray.ext
  apply Array.toList_inj.1
  rw [Lib.extract_to_end, data_append]
  rfl
end Go.Proofs.YtkaelnfhohggeaaGreatDoor
