/- Parameters agree as the reference says just if the maps of their lines agree: plain laws. -/
import Derived.Test.YtlbmjfjmbgbpeaaGreatDoorValLaw
import Derived.Test.YtlbmjfjmbgbpeaaGreatDoorAgree
import Derived.Test.YtlbmjfjmbgbpeaaGreatDoorParseEmpty
import Derived.Test.YtlbmjfjmbgbpeaaGreatDoorMatchFn
namespace Go.Proofs.YtlbmjfjmbgbpeaaGreatDoor
open Go.RowKit Go.Maps

/-- What the map of a line of parameters reads as. -/
def dOf (H : Type) (l : List KV) : DataW H := if l.length = 0 then emptyAt H 1 else mapAt H l l.length
def nOf (l : List KV) : Nat := if l.length = 0 then 1 else l.length
theorem dOf_nil (H : Type) : dOf H [] = emptyAt H 1 := rfl
theorem dOf_cons (H : Type) {l : List KV} (h : 0 < l.length) : dOf H l = mapAt H l l.length := by unfold dOf; rw [if_neg (by omega)]
theorem parses_of {H : Type} {blank : Bool} {l : List KV} (hp : paramsB l = true) (hz : (lineOf blank l).size ≤ 4294967296) : ParsesTo (lineOf blank l) (nOf l) (dOf H l) := by
  by_cases h : 0 < l.length
  · rw [dOf_cons H h, show nOf l = l.length by unfold nOf; rw [if_neg (by omega)]]
    exact parses_line h (paramsB_length hp) hz (paramsB_words hp)
  · have h0 : l = [] := List.length_eq_zero_iff.1 (by omega)
    subst h0
    exact fun w hs => parseEmpty_any w hs

theorem plain_word {s : ByteArray} (h : wordB s = true) : PlainT s := ⟨by have := (word_size h).2; omega, fun j b hb => word_ascii h b (List.mem_of_getElem? hb)⟩
theorem plain_nil : PlainT ⟨#[]⟩ := ⟨by decide, fun j b hb => by simp at hb⟩
theorem valOf_plain {key : List UInt8} : ∀ {l : List KV}, (∀ p ∈ l, wordB p.1 = true ∧ wordB p.2 = true) → PlainT (valOf key l).1
  | [], _ => plain_nil
  | p :: r, h => by
    unfold valOf
    split
    · exact plain_word (h p (List.mem_cons_self ..)).2
    · exact valOf_plain fun q hq => h q (List.mem_cons_of_mem _ hq)
theorem has_empty {H : Type} {k : List UInt8} (h : has (emptyAt H 1) (.string k) = true) : k = [] := by
  by_cases e : k = []
  · exact e
  · exfalso
    have e2 : (.string k : Lit) ≠ .string [] := fun h => e (by injection h)
    have : has (emptyAt H 1) (.string k) = has (DataW.map [] : DataW H) (.string k) := has_put_other (D := DataW.map []) e2 (.lit (.string []))
    rw [this] at h
    cases h
theorem valAt_empty (H : Type) (k : List UInt8) : valAt (emptyAt H 1) k = ⟨#[]⟩ := by
  by_cases e : k = []
  · subst e
    exact valAt_of (s := ⟨#[]⟩) (atKey_put_same (D := DataW.map []) (k := .string []) ⟨[], rfl⟩ trivial (.lit (.string [])) _)
  · exact valAt_none (by
      cases h : has (emptyAt H 1) (.string k) with
      | false => rfl
      | true => exact absurd (has_empty h) e)
theorem plain_dOf {H : Type} {l : List KV} (hp : paramsB l = true) : PlainM (dOf H l) := by
  intro k
  by_cases h : 0 < l.length
  · rw [dOf_cons H h]
    have := valOf_plain (key := k) (paramsB_words hp)
    rw [valOf_mapAt (H := H) (paramsB_rises hp) k] at this
    exact this
  · have h0 : l = [] := List.length_eq_zero_iff.1 (by omega)
    subst h0
    rw [dOf_nil, valAt_empty]
    exact plain_nil

theorem has_dOf_nil {H : Type} {l : List KV} (hp : paramsB l = true) (h : 0 < l.length) : has (dOf H l) (.string []) = false := by
  rw [dOf_cons H h, has_mapAt l [] l.length (Nat.le_refl _), List.take_length, List.any_eq_false]
  intro p hm e
  have hw := word_size (paramsB_words hp p hm).1
  have e1 : keyL p = [] := by simpa using e
  have e2 : (small p.1).size = 0 := by rw [Lib.size_eq]; unfold keyL at e1; rw [e1]; rfl
  rw [small_size] at e2
  omega
theorem fold_eq_small (s t : ByteArray) : Lib.equalFold s.data.toList t.data.toList = ((small s).toList == (small t).toList) := by
  rw [fold_small, Lib.toList_data, Lib.toList_data, small_data, small_data]

theorem agree_iff {H : Type} {x y : List KV} (hx : paramsB x = true) (hy : paramsB y = true) : AgreeM (dOf H x) (dOf H y) ↔ agreeL y x = true := by
  by_cases h0 : 0 < x.length
  · by_cases h1 : 0 < y.length
    · rw [dOf_cons H h0, dOf_cons H h1]
      have hsx := paramsB_rises hx
      have hsy := paramsB_rises hy
      unfold agreeL
      rw [List.all_eq_true]
      have key : ∀ p ∈ x, valAt (mapAt H x x.length) (keyL p) = p.2 ∧ has (mapAt H x x.length) (.string (keyL p)) = true := fun p hp => by
        obtain ⟨i, hi, rfl⟩ := List.getElem_of_mem hp
        have e := valOf_mapAt (H := H) hsx (keyL x[i])
        rw [valOf_at i hi hsx rfl] at e
        exact ⟨(congrArg Prod.fst e).symm, (congrArg Prod.snd e).symm⟩
      have ag : ∀ p ∈ x, agrees y p = true ↔ (has (mapAt H y y.length) (.string (keyL p)) = true → Lib.equalFold (valAt (mapAt H y y.length) (keyL p)).data.toList (valAt (mapAt H x x.length) (keyL p)).data.toList = true) := fun p hp => by
        unfold agrees
        rw [Lib.toList_data (small p.1), show (small p.1).data.toList = keyL p from rfl, valOf_mapAt (H := H) hsy (keyL p), (key p hp).1, fold_eq_small]
        cases has (mapAt H y y.length) (.string (keyL p)) <;> simp
      constructor
      · intro h p hp
        exact (ag p hp).2 fun hh => h (keyL p) (key p hp).2 hh
      · intro h k h2 h3
        rw [has_mapAt x k x.length (Nat.le_refl _), List.take_length] at h2
        obtain ⟨p, hp, e⟩ := List.any_eq_true.1 h2
        obtain rfl : keyL p = k := by simpa using e
        exact (ag p hp).1 (h p hp) h3
    · have e1 : y = [] := List.length_eq_zero_iff.1 (by omega)
      subst e1
      have e2 : agreeL [] x = true := by unfold agreeL; rw [List.all_eq_true]; intro p _; rfl
      rw [e2]
      refine ⟨fun _ => rfl, fun _ k h2 h3 => ?_⟩
      obtain rfl := has_empty (H := H) h3
      rw [has_dOf_nil hx h0] at h2
      cases h2
  · have e0 : x = [] := List.length_eq_zero_iff.1 (by omega)
    subst e0
    have e2 : agreeL y [] = true := rfl
    rw [e2]
    refine ⟨fun _ => rfl, fun _ k h2 h3 => ?_⟩
    obtain rfl := has_empty (H := H) h2
    by_cases h1 : 0 < y.length
    · rw [has_dOf_nil hy h1] at h3
      cases h3
    · have e1 : y = [] := List.length_eq_zero_iff.1 (by omega)
      subst e1
      rw [dOf_nil, valAt_empty]
      rfl
theorem agreeB_of {H : Type} {x y : List KV} (hx : paramsB x = true) (hy : paramsB y = true) : agreeB (dOf H x) (dOf H y) = agreeL y x := by
  rw [Bool.eq_iff_iff, agreeB_iff]
  exact agree_iff hx hy
end Go.Proofs.YtlbmjfjmbgbpeaaGreatDoor
