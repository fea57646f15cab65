/- The pieces of a line of parameters: plain laws, no program in sight. -/
import Derived.Test.YtlbmjfjmbgbpeaaDoorLine
import Derived.Test.YtlbmjfjmbgbpeaaDoorText
import Derived.Test.YtlbmjfjmbgbpeaaDoorWord
import Derived.Lib.Space
namespace Go.Proofs.YtlbmjfjmbgbpeaaDoor
open Go.RowKit

/-- A parameter as the line has it. -/
def entryL (p : KV) : List UInt8 := p.1.data.toList ++ 61 :: p.2.data.toList
def gapL (blank : Bool) : List UInt8 := if blank = true then [32] else []
/-- The pieces of a line. -/
def lineParts (blank : Bool) : List KV → List (List UInt8)
  | [] => [[]]
  | p :: r => entryL p :: r.map fun q => gapL blank ++ entryL q

theorem entry_data (p : KV) : ((p.1 ++ ⟨#[61]⟩) ++ p.2 : ByteArray).data.toList = entryL p := by rw [data_append, data_append]; simp [entryL]
theorem entry_no {p : KV} (h1 : ∀ b ∈ p.1.data.toList, b ≠ 59) (h2 : ∀ b ∈ p.2.data.toList, b ≠ 59) : ∀ b ∈ entryL p, b ≠ 59 := by
  intro b hb
  rcases List.mem_append.1 hb with h | h
  · exact h1 b h
  · rcases List.mem_cons.1 h with rfl | h
    · decide
    · exact h2 b h
theorem gap_no (blank : Bool) : ∀ b ∈ gapL blank, b ≠ 59 := by cases blank <;> simp [gapL]

theorem pieces_lineGo (blank : Bool) : ∀ (l : List KV) (k : Nat) (acc : ByteArray) (pre : List (List UInt8)), 0 < k → (∀ p ∈ l, ∀ b ∈ entryL p, b ≠ 59) →
    (∀ t, pieces 59 (acc.data.toList ++ 59 :: t) = pre ++ pieces 59 t) → pieces 59 acc.data.toList = pre → pieces 59 (lineGo blank k acc l).data.toList = pre ++ l.map fun q => gapL blank ++ entryL q
  | [], k, acc, pre, _, _, _, h => by simpa [lineGo] using h
  | p :: r, k, acc, pre, hk, hs, hp, _ => by
    have hp1 := hs p (List.mem_cons_self ..)
    have hno : ∀ b ∈ gapL blank ++ entryL p, b ≠ 59 := fun b hb => by
      rcases List.mem_append.1 hb with h | h
      · exact gap_no blank b h
      · exact hp1 b h
    have e0 : ((if blank = true then (acc ++ ⟨#[59]⟩) ++ ⟨#[32]⟩ else acc ++ ⟨#[59]⟩) ++ ((p.1 ++ ⟨#[61]⟩) ++ p.2) : ByteArray).data.toList = acc.data.toList ++ 59 :: (gapL blank ++ entryL p) := by
      rw [data_append, entry_data]
      cases blank
      · simp [gapL]
      · simp [gapL]
    rw [lineGo, if_pos hk]
    rw [pieces_lineGo blank r (k + 1) _ (pre ++ [gapL blank ++ entryL p]) (by omega) (fun x hx => hs x (List.mem_cons_of_mem _ hx)) (fun t => by
      rw [e0, List.append_assoc, List.cons_append, hp, pieces_mid 59 _ _ hno]; simp) (by rw [e0, hp, pieces_whole 59 _ hno])]
    simp
theorem pieces_lineOf (blank : Bool) {l : List KV} (hs : ∀ p ∈ l, ∀ b ∈ entryL p, b ≠ 59) : pieces 59 (lineOf blank l).data.toList = lineParts blank l := by
  match l with
  | [] => rfl
  | p :: r =>
    have hp1 := hs p (List.mem_cons_self ..)
    have e : (lineOf blank (p :: r)) = lineGo blank 1 ((p.1 ++ ⟨#[61]⟩) ++ p.2) r := by
      rw [lineOf, lineGo, if_neg (by omega)]
      congr 1
    rw [e, pieces_lineGo blank r 1 _ [entryL p] (by omega) (fun x hx => hs x (List.mem_cons_of_mem _ hx)) (fun t => by rw [entry_data, pieces_mid 59 _ _ hp1]; rfl) (by rw [entry_data, pieces_whole 59 _ hp1])]
    rfl

/-- Trimming a piece gives the parameter. -/
theorem dropWhile_head {p : UInt8 → Bool} {b : UInt8} {l : List UInt8} (h : p b = false) : (b :: l).dropWhile p = b :: l := by simp [List.dropWhile, h]
theorem trim_ends {l : List UInt8} (h1 : ∀ b, l.head? = some b → Lib.isSp b = false) (h2 : ∀ b, l.getLast? = some b → Lib.isSp b = false) : Lib.trimSpace l = l := by
  unfold Lib.trimSpace
  have e1 : l.dropWhile Lib.isSp = l := by
    match l with
    | [] => rfl
    | b :: r => exact dropWhile_head (h1 b rfl)
  have e2 : l.reverse.dropWhile Lib.isSp = l.reverse := by
    cases hr : l.reverse with
    | nil => rfl
    | cons b r =>
      refine dropWhile_head (h2 b ?_)
      rw [← List.head?_reverse, hr]; rfl
  rw [e1, e2, List.reverse_reverse]
theorem ok_not_sp {b : UInt8} (h : okB b = true) : Lib.isSp b = false := by
  cases hs : Lib.isSp b with
  | false => rfl
  | true =>
    exfalso
    have hb := b.toNat_lt
    unfold Lib.isSp at hs
    unfold okB at h
    simp only [Bool.or_eq_true, decide_eq_true_eq, beq_iff_eq] at hs h
    clear hb
    rcases hs with ((((rfl | rfl) | rfl) | rfl) | rfl) | rfl <;> revert h <;> decide
theorem trim_gap (blank : Bool) {l : List UInt8} (h : Lib.trimSpace l = l) : Lib.trimSpace (gapL blank ++ l) = l := by
  cases blank with
  | false => exact h
  | true =>
    have : Lib.trimSpace (32 :: l) = Lib.trimSpace l := by
      unfold Lib.trimSpace
      rw [show (32 :: l).dropWhile Lib.isSp = l.dropWhile Lib.isSp by simp [List.dropWhile, show Lib.isSp 32 = true by decide]]
    show Lib.trimSpace (32 :: l) = l
    rw [this, h]
theorem trim_entry {p : KV} (h1 : wordB p.1 = true) (h2 : wordB p.2 = true) : Lib.trimSpace (entryL p) = entryL p := by
  have w1 := word_size h1
  have w2 := word_size h2
  have a1 : ∀ b ∈ p.1.data.toList, okB b = true := fun b hb => by unfold wordB at h1; simp only [Bool.and_eq_true] at h1; exact List.all_eq_true.1 h1.1 b hb
  have a2 : ∀ b ∈ p.2.data.toList, okB b = true := fun b hb => by unfold wordB at h2; simp only [Bool.and_eq_true] at h2; exact List.all_eq_true.1 h2.1 b hb
  refine trim_ends (fun b hb => ?_) (fun b hb => ?_)
  · cases hl : p.1.data.toList with
    | nil => have := Lib.size_eq p.1; rw [hl] at this; change p.1.size = 0 at this; omega
    | cons x r =>
      rw [entryL, hl] at hb
      simp at hb
      subst hb
      exact ok_not_sp (a1 x (by rw [hl]; simp))
  · have hne : p.2.data.toList ≠ [] := fun e => by have := Lib.size_eq p.2; rw [e] at this; change p.2.size = 0 at this; omega
    have : (entryL p).getLast? = p.2.data.toList.getLast? := by
      unfold entryL
      rw [List.getLast?_append, List.getLast?_cons, List.getLast?_eq_some_getLast hne]
      simp
    rw [this] at hb
    exact ok_not_sp (a2 b (List.mem_of_getLast? hb))
end Go.Proofs.YtlbmjfjmbgbpeaaDoor
