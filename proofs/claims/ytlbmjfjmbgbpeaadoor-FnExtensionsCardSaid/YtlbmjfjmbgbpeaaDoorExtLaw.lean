/- The text of an extension's attribute, and what its reader makes of it: plain laws. -/
import Derived.Test.YtlbmjfjmbgbpeaaDoorAttrStr
import Derived.Test.YtlbmjfjmbgbpeaaDoorTextS
import Derived.Test.YtlbmjfjmbgbpeaaDoorLineLaw
import Derived.Test.YtlbmjfjmbgbpeaaDoorDecimal
import Derived.Lib.Fields
import Derived.Lib.ParseIntB
namespace Go.Proofs.YtlbmjfjmbgbpeaaDoor
open Go.RowKit

theorem index_at (c : UInt8) : ∀ (l t : List UInt8), (∀ b ∈ l, b ≠ c) → Lib.index (l ++ c :: t) [c] = (l.length : Int)
  | [], t, _ => index_one_hit c t
  | b :: l, t, h => by
    have h1 := index_at c l t (fun x hx => h x (List.mem_cons_of_mem _ hx))
    rw [List.cons_append, index_one_miss c b _ (h b (List.mem_cons_self ..)), h1, if_neg (by omega)]
    simp
theorem bytes_ext {a b : ByteArray} (h : a.data.toList = b.data.toList) : a = b := by apply ByteArray.ext; exact Array.toList_inj.1 h
theorem attr_index {k v : ByteArray} (h : ∀ b ∈ k.data.toList, b ≠ 58) : Lib.index (attrText k v).data.toList [58] = (k.size : Int) := by
  rw [attrText_data, index_at 58 _ _ h, Lib.size_eq]
theorem attr_key (k v : ByteArray) : (attrText k v).extract 0 k.size = k := by
  apply bytes_ext
  rw [Lib.extract_eq]
  simp only [attrText_data, List.drop_zero, Nat.sub_zero]
  rw [Lib.size_eq k]
  simp
theorem attr_val (k v : ByteArray) : (attrText k v).extract (k.size + 1) (attrText k v).size = v := by
  apply bytes_ext
  rw [Lib.extract_to_end, attrText_data, Lib.size_eq k]
  rw [show k.data.toList ++ 58 :: v.data.toList = (k.data.toList ++ [58]) ++ v.data.toList by simp]
  rw [List.drop_left' (by simp)]

/-- The digits of a number are digits. -/
theorem decL_digits : ∀ (n : Nat), ∀ b ∈ decL n, 48 ≤ b.toNat ∧ b.toNat ≤ 57 := by
  intro n
  induction n using Nat.strongRecOn with
  | _ n ih =>
    intro b hb
    have one : ∀ m, m < 10 → 48 ≤ (UInt8.ofNat (48 + m)).toNat ∧ (UInt8.ofNat (48 + m)).toNat ≤ 57 := fun m hm => by
      rw [UInt8.toNat_ofNat']; omega
    by_cases h : n < 10
    · rw [decL_small h] at hb
      obtain rfl := List.mem_singleton.1 hb
      exact one n h
    · rw [decL_big h] at hb
      rcases List.mem_append.1 hb with h1 | h1
      · exact ih (n / 10) (by omega) b h1
      · obtain rfl := List.mem_singleton.1 h1
        exact one (n % 10) (by omega)
theorem dec_data (n : Nat) : (dec n).data.toList = decL n := rfl
theorem dec_no {n : Nat} {c : UInt8} (hc : c.toNat < 48 ∨ 57 < c.toNat) : ∀ b ∈ (dec n).data.toList, b ≠ c := fun b hb e => by
  subst e
  have := decL_digits n b hb
  omega
theorem dec_pos (n : Nat) : 0 < (dec n).size := by
  rw [Lib.size_eq]
  exact List.length_pos_iff.2 (decL_ne n)

theorem parseM_more {M M' : Nat} (h : M ≤ M') : ∀ (l : List UInt8) (acc v : Nat), Lib.parseUintM M acc l = .ok v → Lib.parseUintM M' acc l = .ok v
  | [], acc, v, hp => hp
  | c :: r, acc, v, hp => by
    unfold Lib.parseUintM at hp ⊢
    split at hp
    · rename_i hd
      rw [if_pos hd]
      split at hp
      · cases hp
      · rename_i h1
        rw [if_neg h1]
        split at hp
        · cases hp
        · rename_i h2
          rw [if_neg (by omega)]
          exact parseM_more h r _ v hp
    · cases hp
theorem parseInt_dec (n : Nat) (hn : n ≤ 4294967295) : Lib.parseIntB 64 (dec n).data.toList = .ok (n : Int) := by
  have h32 := parseB_dec 32 n (by decide) (by simpa using hn)
  have h64 : Lib.parseUintB 64 (decL n) = .ok n := by
    rw [dec_data] at h32
    unfold Lib.parseUintB at h32 ⊢
    rw [if_neg (decL_ne n)] at h32 ⊢
    exact parseM_more (by decide) _ _ _ h32
  rw [dec_data]
  cases hl : decL n with
  | nil => exact absurd hl (decL_ne n)
  | cons c r =>
    have hc := decL_digits n c (by rw [hl]; simp)
    rw [hl] at h64
    unfold Lib.parseIntB
    have e1 : ¬ (c.toNat = 43 ∨ c.toNat = 45) := by omega
    have e2 : ¬ c.toNat = 45 := by omega
    have hlt : ¬ 2 ^ (64 - 1) ≤ n := by
      have : (4294967295 : Nat) < 2 ^ (64 - 1) := by decide
      omega
    dsimp only
    rw [if_neg e1, h64]
    dsimp only
    rw [if_neg (fun h => hlt h.2), if_neg (fun h => e2 h.1), if_neg e2]

/-- The text of an extension's address. -/
def uriOf (s : ByteArray) : ByteArray := ⟨#[117, 114, 110, 58, 120, 58]⟩ ++ s
/-- The value of an extension's attribute. -/
def extVal (n : Nat) (s : ByteArray) : ByteArray := (dec n ++ ⟨#[32, 117, 114, 110, 58, 120, 58]⟩) ++ s
theorem uriOf_data (s : ByteArray) : (uriOf s).data.toList = [117, 114, 110, 58, 120, 58] ++ s.data.toList := by simp [uriOf]
theorem extVal_data (n : Nat) (s : ByteArray) : (extVal n s).data.toList = decL n ++ 32 :: (uriOf s).data.toList := by
  unfold extVal
  rw [uriOf_data, data_append, data_append, dec_data]
  simp
theorem extVal_size (n : Nat) (s : ByteArray) : (extVal n s).size = (dec n).size + 7 + s.size := by
  unfold extVal
  rw [ByteArray.size_append, ByteArray.size_append]; rfl
theorem uriOf_size (s : ByteArray) : (uriOf s).size = 6 + s.size := by
  unfold uriOf
  rw [ByteArray.size_append]; rfl

theorem fieldsGo_run : ∀ (l cur t : List UInt8), (∀ b ∈ l, Lib.isSp b = false) → Lib.fieldsGo cur (l ++ t) = Lib.fieldsGo (cur ++ l) t
  | [], cur, t, _ => by simp
  | b :: l, cur, t, h => by
    rw [List.cons_append, Lib.fieldsGo_more cur b _ (h b (List.mem_cons_self ..)), fieldsGo_run l _ t (fun x hx => h x (List.mem_cons_of_mem _ hx))]
    simp
theorem fields_two {a b : List UInt8} (ha : ∀ x ∈ a, Lib.isSp x = false) (hb : ∀ x ∈ b, Lib.isSp x = false) (na : a ≠ []) (nb : b ≠ []) : Lib.fields (a ++ 32 :: b) = [a, b] := by
  unfold Lib.fields
  rw [fieldsGo_run a [] _ ha, List.nil_append, Lib.fieldsGo_end a 32 b (by decide) na]
  have := fieldsGo_run b [] [] hb
  rw [List.append_nil, List.nil_append] at this
  rw [this]
  cases b with
  | nil => exact absurd rfl nb
  | cons x r => simp [Lib.fieldsGo]
theorem digit_sp {b : UInt8} (h : 48 ≤ b.toNat ∧ b.toNat ≤ 57) : Lib.isSp b = false := by
  refine ok_not_sp ?_
  unfold okB
  simp only [Bool.or_eq_true, decide_eq_true_eq]
  omega
theorem word_bytes {s : ByteArray} (h : wordB s = true) : ∀ b ∈ s.data.toList, okB b = true := fun b hb => by
  unfold wordB at h
  simp only [Bool.and_eq_true] at h
  exact List.all_eq_true.1 h.1 b hb
theorem uri_sp {s : ByteArray} (h : wordB s = true) : ∀ b ∈ (uriOf s).data.toList, Lib.isSp b = false := fun b hb => by
  rw [uriOf_data] at hb
  rcases List.mem_append.1 hb with h1 | h1
  · simp at h1
    rcases h1 with rfl | rfl | rfl | rfl | rfl | rfl <;> decide
  · exact ok_not_sp (word_bytes h b h1)
theorem uri_ne (s : ByteArray) : (uriOf s).data.toList ≠ [] := by rw [uriOf_data]; simp
theorem ext_fields {n : Nat} {s : ByteArray} (h : wordB s = true) : Lib.fields (extVal n s).data.toList = [(dec n).data.toList, (uriOf s).data.toList] := by
  rw [extVal_data]
  exact fields_two (fun b hb => digit_sp (decL_digits n b hb)) (uri_sp h) (decL_ne n) (uri_ne s)
theorem ext_ascii {n : Nat} {s : ByteArray} (h : wordB s = true) : ∀ (j : Nat) b, (extVal n s).data.toList[j]? = some b → b.toNat < 128 := fun j b hb => by
  have hm := List.mem_of_getElem? hb
  rw [extVal_data, uriOf_data] at hm
  rcases List.mem_append.1 hm with h1 | h1
  · have := decL_digits n b h1; omega
  · rcases List.mem_cons.1 h1 with rfl | h1
    · decide
    · rcases List.mem_append.1 h1 with h2 | h2
      · simp at h2
        rcases h2 with rfl | rfl | rfl | rfl | rfl | rfl <;> decide
      · have := word_bytes h b h2
        unfold okB at this
        simp only [Bool.or_eq_true, decide_eq_true_eq] at this
        omega
end Go.Proofs.YtlbmjfjmbgbpeaaDoor
