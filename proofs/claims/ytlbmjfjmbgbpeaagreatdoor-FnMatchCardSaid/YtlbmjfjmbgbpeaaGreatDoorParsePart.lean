/- One piece of a line of parameters: trimmed, cut at the equal sign, its key in small letters: by contracts. -/
import Derived.Test.YtlbmjfjmbgbpeaaGreatDoorLineLaw
import Derived.Test.YtlbmjfjmbgbpeaaGreatDoorTextF
import Derived.Test.YtlbmjfjmbgbpeaaGreatDoorSmall
import Derived.Test.YtlbmjfjmbgbpeaaGreatDoorSpaces
namespace Go.Proofs.YtlbmjfjmbgbpeaaGreatDoor
open Go.RowKit

theorem index_mid (c : UInt8) : ∀ (l t : List UInt8), (∀ b ∈ l, b ≠ c) → Lib.index (l ++ c :: t) [c] = (l.length : Int)
  | [], t, _ => index_one_hit c t
  | b :: l, t, h => by
    have h1 := index_mid c l t (fun x hx => h x (List.mem_cons_of_mem _ hx))
    rw [List.cons_append, index_one_miss c b _ (h b (List.mem_cons_self ..)), h1, if_neg (by omega)]
    simp
def entryB (p : KV) : ByteArray := (p.1 ++ ⟨#[61]⟩) ++ p.2
theorem entryB_data (p : KV) : (entryB p).data.toList = entryL p := entry_data p
theorem entryB_size (p : KV) : (entryB p).size = p.1.size + 1 + p.2.size := by
  unfold entryB
  rw [ByteArray.size_append, ByteArray.size_append]; rfl
theorem entry_index {p : KV} (h : ∀ b ∈ p.1.data.toList, b ≠ 61) : Lib.index (entryB p).data.toList [61] = (p.1.size : Int) := by
  rw [entryB_data, entryL, index_mid 61 _ _ h, Lib.size_eq]
theorem mk_of_data {a b : ByteArray} (h : a.data.toList = b.data.toList) : a = b := by
  apply ByteArray.ext; exact Array.toList_inj.1 h
theorem entry_key (p : KV) : (entryB p).extract 0 p.1.size = p.1 := by
  apply mk_of_data
  rw [Lib.extract_eq]
  simp only [entryB_data, entryL, List.drop_zero, Nat.sub_zero]
  rw [Lib.size_eq p.1]
  simp
theorem entry_val (p : KV) : (entryB p).extract (p.1.size + 1) (entryB p).size = p.2 := by
  apply mk_of_data
  rw [Lib.extract_to_end, entryB_data, entryL, Lib.size_eq p.1]
  rw [show p.1.data.toList ++ 61 :: p.2.data.toList = (p.1.data.toList ++ [61]) ++ p.2.data.toList by simp]
  rw [List.drop_left' (by simp)]
theorem lower_small (s : ByteArray) : (⟨(Lib.toLowerA s.data.toList).toArray⟩ : ByteArray) = small s := by
  have h : ∀ n, n < 256 → Lib.lowerB (UInt8.ofNat n) = smallU (UInt8.ofNat n) := by decide +kernel
  have e : ∀ b, Lib.lowerB b = smallU b := fun b => by
    have := h b.toNat b.toNat_lt
    rwa [UInt8.ofNat_toNat] at this
  unfold small Lib.toLowerA
  rw [show Lib.lowerB = smallU from funext e]
/-- A piece as a text. -/
def partB (gap : List UInt8) (p : KV) : ByteArray := ⟨(gap ++ entryL p).toArray⟩
theorem word_ascii {s : ByteArray} (h : wordB s = true) : ∀ b ∈ s.data.toList, b.toNat < 128 := by
  intro b hb
  unfold wordB at h
  simp only [Bool.and_eq_true] at h
  have := List.all_eq_true.1 h.1 b hb
  unfold okB at this
  simp only [Bool.or_eq_true, decide_eq_true_eq] at this
  omega
theorem part_trim (blank : Bool) (k : Nat) {p : KV} (h1 : wordB p.1 = true) (h2 : wordB p.2 = true) (w : World) (hs : Spaces w) :
    Calls Tryz.prog 49 #[.string (partB (if k = 0 then [] else gapL blank) p)] w fun e w' => e = .returned (.string (entryB p)) ∧ Below w.heap.size w w' := by
  have hg : ∀ b ∈ (if k = 0 then [] else gapL blank), b.toNat < 128 := by
    intro b hb
    split at hb
    · cases hb
    · cases blank <;> simp [gapL] at hb; subst hb; decide
  have hlen : (if k = 0 then ([] : List UInt8) else gapL blank).length ≤ 1 := by split <;> (try cases blank) <;> simp [gapL]
  have w1 := word_size h1
  have w2 := word_size h2
  have hz : (partB (if k = 0 then [] else gapL blank) p).size ≤ 9223372036854775807 := by
    show ((if k = 0 then [] else gapL blank) ++ entryL p).toArray.size ≤ _
    have := Lib.size_eq p.1
    have := Lib.size_eq p.2
    simp [entryL]; omega
  refine (Tryz.strings_TrimSpace _ w hz (fun j b hb => ?_) hs).mono ?_
  · have hm : b ∈ (if k = 0 then [] else gapL blank) ++ entryL p := List.mem_of_getElem? hb
    rcases List.mem_append.1 hm with h | h
    · exact hg b h
    · rcases List.mem_append.1 h with h | h
      · exact word_ascii h1 b h
      · rcases List.mem_cons.1 h with rfl | h
        · decide
        · exact word_ascii h2 b h
  · rintro e w' ⟨rfl, rfl⟩
    refine ⟨?_, below_bytes _ _ _⟩
    have : Lib.trimSpace (partB (if k = 0 then [] else gapL blank) p).data.toList = (entryB p).data.toList := by
      rw [entryB_data]
      show Lib.trimSpace ((if k = 0 then [] else gapL blank) ++ entryL p) = _
      split
      · exact trim_entry h1 h2
      · exact trim_gap blank (trim_entry h1 h2)
    rw [this, Lib.mk_data]
theorem part_split {p : KV} (h1 : wordB p.1 = true) (h2 : wordB p.2 = true) (w : World) :
    Calls Tryz.prog 48 #[.string (entryB p), .string ⟨#[61]⟩, .int .i64 2] w fun e w' => ∃ A k, e = .returned (.slice A 2 k) ∧ Strs (w.heap.size ≤ ·) w' A [p.1, p.2] ∧ Below w.heap.size w w' := by
  have w1 := word_size h1
  have w2 := word_size h2
  have := F.split2_any (entryB p) 61 p.1.size w (by rw [entryB_size]; omega) (entry_index (word_no h1 (by decide)))
  rw [entry_key, entry_val] at this
  exact this
theorem part_lower {s : ByteArray} (h1 : wordB s = true) (w : World) :
    Calls Tryz.prog 50 #[.string s] w fun e w' => e = .returned (.string (small s)) ∧ Below w.heap.size w w' := by
  have w1 := word_size h1
  have := Tryz.strings_ToLower_ascii s w (by omega) (fun j b hb => word_ascii h1 b (List.mem_of_getElem? hb))
  rw [lower_small] at this
  exact this
end Go.Proofs.YtlbmjfjmbgbpeaaGreatDoor
