/- The attributes of FnCodecs' codecs, and what the readers make of them: plain laws. -/
import Derived.Test.YtkaelnfhohggeaaDoorAttrStr
import Derived.Test.YtkaelnfhohggeaaDoorTextS
import Derived.Test.YtkaelnfhohggeaaDoorDecimal
import Derived.Test.YtkaelnfhohggeaaDoorWord
namespace Go.Proofs.YtkaelnfhohggeaaDoor
open Go.RowKit

theorem bytes_ext {a b : ByteArray} (h : a.data.toList = b.data.toList) : a = b := by apply ByteArray.ext; exact Array.toList_inj.1 h
theorem index_at (c : UInt8) : ∀ (l t : List UInt8), (∀ b ∈ l, b ≠ c) → Lib.index (l ++ c :: t) [c] = (l.length : Int)
  | [], t, _ => by simp [Lib.index]
  | a :: r, t, h => by
    have ih := index_at c r t (fun b hb => h b (List.mem_cons_of_mem _ hb))
    rw [List.cons_append, index_one_miss _ _ _ (h a (List.mem_cons_self)), ih]
    simp
/-- The digits of a number are digits. -/
theorem decL_digits : ∀ (n : Nat), ∀ b ∈ decL n, 48 ≤ b.toNat ∧ b.toNat ≤ 57 := by
  intro n
  induction n using Nat.strongRecOn with
  | _ n ih =>
    intro b hb
    have one : ∀ m, m < 10 → 48 ≤ (UInt8.ofNat (48 + m)).toNat ∧ (UInt8.ofNat (48 + m)).toNat ≤ 57 := fun m hm => by
      rw [UInt8.toNat_ofNat']; omega
    by_cases h : n < 10
    · rw [decL_small h] at hb
      obtain rfl := List.mem_singleton.1 hb
      exact one n h
    · rw [decL_big h] at hb
      rcases List.mem_append.1 hb with h1 | h1
      · exact ih (n / 10) (by omega) b h1
      · obtain rfl := List.mem_singleton.1 h1
        exact one (n % 10) (by omega)
theorem dec_no {n : Nat} {c : UInt8} (hc : c.toNat < 48 ∨ 57 < c.toNat) : ∀ b ∈ (dec n).data.toList, b ≠ c := fun b hb e => by
  subst e
  have := decL_digits n b hb
  omega
/-- The number of digits of a number of 32 bits. -/
theorem decL_short : ∀ (d n : Nat), n < 10 ^ (d + 1) → (decL n).length ≤ d + 1
  | 0, n, h => by rw [decL_small (by simpa using h)]; simp
  | d + 1, n, h => by
    by_cases h1 : n < 10
    · rw [decL_small h1]; simp
    · rw [decL_big h1, List.length_append]
      have := decL_short d (n / 10) (by rw [Nat.pow_succ] at h; omega)
      simp; omega
theorem dec_short {n : Nat} (h : n ≤ 4294967295) : (dec n).size ≤ 10 := by
  have := decL_short 9 n (by omega)
  rw [Lib.size_eq]; exact this
theorem dec_pos (n : Nat) : 0 < (dec n).size := by
  rw [Lib.size_eq]
  exact List.length_pos_iff.2 (decL_ne n)
theorem back (s : ByteArray) : (⟨s.data.toList.toArray⟩ : ByteArray) = s := by simp

/-- A codec, as the law is given it. -/
structure Cod where
  name : ByteArray
  rate : Nat
  chans : Nat
  pay : Nat
  line : ByteArray
  fb : List KV

abbrev kMap : ByteArray := ⟨#[114, 116, 112, 109, 97, 112]⟩
abbrev kLine : ByteArray := ⟨#[102, 109, 116, 112]⟩
abbrev kFb : ByteArray := ⟨#[114, 116, 99, 112, 45, 102, 98]⟩

def payB (c : Cod) : ByteArray := dec c.pay ++ ⟨#[32]⟩
/-- Name and rate, and the channels if there are any. -/
def encB (c : Cod) : ByteArray := if 0 < c.chans then dec c.chans else ⟨#[]⟩
def mapVal (c : Cod) : ByteArray := if 0 < c.chans then (((payB c ++ c.name) ++ ⟨#[47]⟩) ++ dec c.rate) ++ (⟨#[47]⟩ ++ dec c.chans) else ((payB c ++ c.name) ++ ⟨#[47]⟩) ++ dec c.rate
def lineVal (c : Cod) : ByteArray := payB c ++ c.line
def fbText (f : KV) : ByteArray := if f.2.size = 0 then f.1 else (f.1 ++ ⟨#[32]⟩) ++ f.2
def fbVal (c : Cod) (f : KV) : ByteArray := if f.2.size = 0 then payB c ++ f.1 else (payB c ++ f.1) ++ (⟨#[32]⟩ ++ f.2)
def codAttrs (c : Cod) : List KV := (kMap, mapVal c) :: ((if c.line.size = 0 then [] else [(kLine, lineVal c)]) ++ c.fb.map fun f => (kFb, fbVal c f))

/-- A line's letters. -/
def lineOk (b : UInt8) : Bool := okB b || decide (b.toNat = 61) || decide (b.toNat = 59)
def lineB (s : ByteArray) : Bool := s.data.toList.all lineOk && decide (s.size ≤ 60)
def codB (c : Cod) : Bool := wordB c.name && decide (1 ≤ c.rate) && decide (c.rate ≤ 200000) && decide (c.chans ≤ 8) && decide (96 ≤ c.pay) && decide (c.pay ≤ 127) && decide (c.fb.length ≤ 3) && lineB c.line && c.fb.all fun f => wordB f.1 && (decide (f.2.size = 0) || wordB f.2)

structure CodIs (c : Cod) : Prop where
  name : wordB c.name = true
  rate : 1 ≤ c.rate ∧ c.rate ≤ 200000
  chans : c.chans ≤ 8
  pay : 96 ≤ c.pay ∧ c.pay ≤ 127
  len : c.fb.length ≤ 3
  line : lineB c.line = true
  fb : ∀ f ∈ c.fb, wordB f.1 = true ∧ (f.2.size = 0 ∨ wordB f.2 = true)
theorem codB_is {c : Cod} (h : codB c = true) : CodIs c := by
  simp only [codB, Bool.and_eq_true, decide_eq_true_eq, List.all_eq_true, Bool.or_eq_true] at h
  obtain ⟨⟨⟨⟨⟨⟨⟨⟨h1, h2⟩, h3⟩, h4⟩, h5⟩, h6⟩, h7⟩, h8⟩, h9⟩ := h
  exact ⟨h1, ⟨h2, h3⟩, h4, ⟨h5, h6⟩, h7, h8, h9⟩

/-- What stands behind the payload's number, in the three kinds of attributes. -/
def restMap (c : Cod) : ByteArray := if 0 < c.chans then ((c.name ++ ⟨#[47]⟩) ++ dec c.rate) ++ (⟨#[47]⟩ ++ dec c.chans) else (c.name ++ ⟨#[47]⟩) ++ dec c.rate
def headB (k : ByteArray) (n : Nat) : ByteArray := (k ++ ⟨#[58]⟩) ++ dec n

theorem headB_data (k : ByteArray) (n : Nat) : (headB k n).data.toList = k.data.toList ++ 58 :: (dec n).data.toList := by
  unfold headB; rw [data_append, data_append]; simp
theorem headB_no {k : ByteArray} {n : Nat} {c : UInt8} (h1 : ∀ b ∈ k.data.toList, b ≠ c) (h2 : (58 : UInt8) ≠ c) (h3 : c.toNat < 48 ∨ 57 < c.toNat) : ∀ b ∈ (headB k n).data.toList, b ≠ c := fun b hb => by
  rw [headB_data] at hb
  rcases List.mem_append.1 hb with h | h
  · exact h1 b h
  · rcases List.mem_cons.1 h with rfl | h
    · exact h2
    · exact dec_no h3 b h
theorem head_pieces {k : ByteArray} (n : Nat) (h : ∀ b ∈ k.data.toList, b ≠ 58) : piecesB 58 (headB k n) = [k, dec n] := by
  unfold piecesB
  rw [headB_data, pieces_mid 58 _ _ h, pieces_whole 58 _ (dec_no (by decide))]
  simp only [List.map_cons, List.map_nil, back]

/-- An attribute of a payload: its key with the number, a blank, the rest. -/
theorem attr_split (k : ByteArray) (n : Nat) (r : ByteArray) : attrText k ((dec n ++ ⟨#[32]⟩) ++ r) = (headB k n ++ ⟨#[32]⟩) ++ r := by
  apply bytes_ext
  rw [attrText_data]
  simp only [data_append, headB_data]
  simp
theorem attr_pieces (k : ByteArray) (n : Nat) (r : ByteArray) (hk : ∀ b ∈ k.data.toList, b ≠ 32) (hr : ∀ b ∈ r.data.toList, b ≠ 32) : piecesB 32 (attrText k ((dec n ++ ⟨#[32]⟩) ++ r)) = [headB k n, r] := by
  rw [attr_split]
  unfold piecesB
  rw [data_append, data_append]
  have e : (headB k n).data.toList ++ (⟨#[32]⟩ : ByteArray).data.toList ++ r.data.toList = (headB k n).data.toList ++ 32 :: r.data.toList := by simp
  rw [e, pieces_mid 32 _ _ (headB_no hk (by decide) (by decide)), pieces_whole 32 _ hr]
  simp only [List.map_cons, List.map_nil, back]
theorem attr_index32 (k : ByteArray) (n : Nat) (r : ByteArray) (hk : ∀ b ∈ k.data.toList, b ≠ 32) : Lib.index (attrText k ((dec n ++ ⟨#[32]⟩) ++ r)).data.toList [32] = ((headB k n).size : Int) := by
  rw [attr_split, data_append, data_append]
  have e : (headB k n).data.toList ++ (⟨#[32]⟩ : ByteArray).data.toList ++ r.data.toList = (headB k n).data.toList ++ 32 :: r.data.toList := by simp
  rw [e, index_at 32 _ _ (headB_no hk (by decide) (by decide)), Lib.size_eq]
theorem attr_front (k : ByteArray) (n : Nat) (r : ByteArray) : (attrText k ((dec n ++ ⟨#[32]⟩) ++ r)).extract 0 (headB k n).size = headB k n := by
  rw [attr_split]
  apply bytes_ext
  have e : ((headB k n ++ ⟨#[32]⟩) ++ r).data.toList = (headB k n).data.toList ++ 32 :: r.data.toList := by simp
  rw [ByteArray.data_extract, Array.toList_extract, e, Lib.size_eq]
  simp [List.extract]
theorem attr_back (k : ByteArray) (n : Nat) (r : ByteArray) : (attrText k ((dec n ++ ⟨#[32]⟩) ++ r)).extract ((headB k n).size + 1) (attrText k ((dec n ++ ⟨#[32]⟩) ++ r)).size = r := by
  rw [attr_split]
  apply bytes_ext
  have e : ((headB k n ++ ⟨#[32]⟩) ++ r).data.toList = ((headB k n).data.toList ++ [32]) ++ r.data.toList := by simp
  rw [Lib.extract_to_end, e, List.drop_left' (by rw [Lib.size_eq]; simp)]

theorem mapVal_rest (c : Cod) : mapVal c = (dec c.pay ++ ⟨#[32]⟩) ++ restMap c := by
  unfold mapVal restMap payB
  split <;> (apply bytes_ext; simp only [data_append, List.append_assoc])
theorem fbVal_rest (c : Cod) (f : KV) : fbVal c f = (dec c.pay ++ ⟨#[32]⟩) ++ fbText f := by
  unfold fbVal fbText payB
  split <;> (apply bytes_ext; simp only [data_append, List.append_assoc])
theorem restMap_pieces {c : Cod} (h : CodIs c) : piecesB 47 (restMap c) = if 0 < c.chans then [c.name, dec c.rate, dec c.chans] else [c.name, dec c.rate] := by
  have hn := word_no h.name (c := 47) (by decide)
  unfold restMap piecesB
  split
  · have e : ((c.name ++ ⟨#[47]⟩) ++ dec c.rate ++ (⟨#[47]⟩ ++ dec c.chans)).data.toList = c.name.data.toList ++ 47 :: ((dec c.rate).data.toList ++ 47 :: (dec c.chans).data.toList) := by
      simp only [data_append]; simp
    rw [e, pieces_mid 47 _ _ hn, pieces_mid 47 _ _ (dec_no (by decide)), pieces_whole 47 _ (dec_no (by decide))]
    simp only [List.map_cons, List.map_nil, back]
  · have e : ((c.name ++ ⟨#[47]⟩) ++ dec c.rate).data.toList = c.name.data.toList ++ 47 :: (dec c.rate).data.toList := by
      simp only [data_append]; simp
    rw [e, pieces_mid 47 _ _ hn, pieces_whole 47 _ (dec_no (by decide))]
    simp only [List.map_cons, List.map_nil, back]
theorem restMap_no {c : Cod} (h : CodIs c) : ∀ b ∈ (restMap c).data.toList, b ≠ 32 := by
  have h1 := word_no h.name (c := 32) (by decide)
  have h2 := fun n => dec_no (n := n) (c := 32) (by decide)
  intro b hb
  unfold restMap at hb
  split at hb
  · simp only [data_append, List.mem_append] at hb
    rcases hb with ((hb | hb) | hb) | hb | hb
    · exact h1 b hb
    · simp at hb; subst hb; decide
    · exact h2 _ b hb
    · simp at hb; subst hb; decide
    · exact h2 _ b hb
  · simp only [data_append, List.mem_append] at hb
    rcases hb with (hb | hb) | hb
    · exact h1 b hb
    · simp at hb; subst hb; decide
    · exact h2 _ b hb
theorem fb_pieces {f : KV} (h1 : wordB f.1 = true) (h2 : f.2.size = 0 ∨ wordB f.2 = true) : piecesB 32 (fbText f) = if f.2.size = 0 then [f.1] else [f.1, f.2] := by
  unfold fbText piecesB
  split
  · rw [pieces_whole 32 _ (word_no h1 (by decide))]
    simp only [List.map_cons, List.map_nil, back]
  · rename_i hz
    have h2 := h2.resolve_left hz
    have e : ((f.1 ++ ⟨#[32]⟩) ++ f.2).data.toList = f.1.data.toList ++ 32 :: f.2.data.toList := by simp
    rw [e, pieces_mid 32 _ _ (word_no h1 (by decide)), pieces_whole 32 _ (word_no h2 (by decide))]
    simp only [List.map_cons, List.map_nil, back]

theorem line_size {s : ByteArray} (h : lineB s = true) : s.size ≤ 60 := by
  simp only [lineB, Bool.and_eq_true, decide_eq_true_eq] at h
  exact h.2
theorem fbText_size {f : KV} (h1 : wordB f.1 = true) (h2 : f.2.size = 0 ∨ wordB f.2 = true) : 1 ≤ (fbText f).size ∧ (fbText f).size ≤ 41 := by
  have a := word_size h1
  unfold fbText
  split
  · omega
  · rename_i hz
    have b := word_size (h2.resolve_left hz)
    have e : (⟨#[32]⟩ : ByteArray).size = 1 := rfl
    rw [ByteArray.size_append, ByteArray.size_append, e]; omega
theorem restMap_size {c : Cod} (h : CodIs c) : (restMap c).size ≤ 42 := by
  have a := word_size h.name
  have b := dec_short (n := c.rate) (by have := h.rate; omega)
  have d := dec_short (n := c.chans) (by have := h.chans; omega)
  have e : (⟨#[47]⟩ : ByteArray).size = 1 := rfl
  unfold restMap
  split <;> (simp only [ByteArray.size_append, e]; omega)
theorem codVal_size (n : Nat) (r : ByteArray) (hn : n ≤ 4294967295) (hr : r.size ≤ 100) : 0 < ((dec n ++ ⟨#[32]⟩) ++ r).size ∧ ((dec n ++ ⟨#[32]⟩) ++ r).size ≤ 111 := by
  have a := dec_short hn
  have e : (⟨#[32]⟩ : ByteArray).size = 1 := rfl
  simp only [ByteArray.size_append, e]
  omega
end Go.Proofs.YtkaelnfhohggeaaDoor
