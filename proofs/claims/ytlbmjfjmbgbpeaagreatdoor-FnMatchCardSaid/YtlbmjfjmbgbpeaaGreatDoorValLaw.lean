/- The value of a key, as the reference and as the map have it: plain laws. -/
import Derived.Test.YtlbmjfjmbgbpeaaGreatDoorGeneric
import Derived.Test.YtlbmjfjmbgbpeaaGreatDoorMapAt
import Derived.Test.YtlbmjfjmbgbpeaaGreatDoorValue
namespace Go.Proofs.YtlbmjfjmbgbpeaaGreatDoor
open Go.RowKit Go.Maps

theorem valOf_at {key : List UInt8} : ∀ {l : List KV} (i : Nat) (hi : i < l.length), (l.map keyL).Pairwise (· < ·) → keyL l[i] = key → valOf key l = (l[i].2, true)
  | [], i, hi, _, _ => absurd hi (Nat.not_lt_zero _)
  | p :: r, 0, _, _, h => by
    unfold valOf
    rw [if_pos (by rw [Lib.toList_data]; simpa [keyL] using h)]
    rfl
  | p :: r, i + 1, hi, hs, h => by
    have hir : i < r.length := by simpa using hi
    rw [List.map_cons, List.pairwise_cons] at hs
    have hne : ¬ keyL p = key := fun e => by
      have := hs.1 (keyL r[i]) (List.mem_map.2 ⟨r[i], List.getElem_mem hir, rfl⟩)
      have h2 : keyL r[i] = key := h
      rw [h2, e] at this
      exact List.lt_irrefl _ this
    unfold valOf
    rw [if_neg (by rw [Lib.toList_data]; simpa [keyL] using hne)]
    exact valOf_at i hir hs.2 h
theorem valOf_none {key : List UInt8} : ∀ {l : List KV}, (l.any fun p => keyL p == key) = false → valOf key l = (⟨#[]⟩, false)
  | [], _ => rfl
  | p :: r, h => by
    rw [List.any_cons, Bool.or_eq_false_iff] at h
    unfold valOf
    rw [if_neg (by rw [Lib.toList_data]; simpa [keyL] using h.1)]
    exact valOf_none h.2
theorem valAt_none {H : Type} {D : DataW H} {key : List UInt8} (h : has D (.string key) = false) : valAt D key = ⟨#[]⟩ := by
  unfold valAt
  rw [atKey_of_not_has h]
theorem valOf_mapAt {H : Type} {l : List KV} (hs : (l.map keyL).Pairwise (· < ·)) (key : List UInt8) : valOf key l = (valAt (mapAt H l l.length) key, has (mapAt H l l.length) (.string key)) := by
  have hh := has_mapAt (H := H) l key l.length (Nat.le_refl _)
  rw [List.take_length] at hh
  cases ha : l.any fun p => keyL p == key with
  | false =>
    rw [ha] at hh
    rw [valOf_none ha, valAt_none hh, hh]
  | true =>
    rw [ha] at hh
    obtain ⟨p, hp, he⟩ := List.any_eq_true.1 ha
    obtain ⟨i, hi, rfl⟩ := List.getElem_of_mem hp
    have he' : keyL l[i] = key := by simpa using he
    rw [valOf_at i hi hs he', hh]
    have e := at_mapAt (H := H) hs (.lit (.string [])) i hi l.length hi (Nat.le_refl _)
    rw [he'] at e
    rw [valAt_of e]

theorem parses_line {H : Type} {blank : Bool} {l : List KV} (hne : 0 < l.length) (hl : l.length ≤ 8) (hz : (lineOf blank l).size ≤ 4294967296) (hw : ∀ p ∈ l, wordB p.1 = true ∧ wordB p.2 = true) : ParsesTo (lineOf blank l) l.length (mapAt H l l.length) :=
  fun w hs => parse_any l blank w hne hl hz hw hs

theorem opus_other : otherKind ⟨#[97, 117, 100, 105, 111, 47, 111, 112, 117, 115]⟩ = true := by decide +kernel
end Go.Proofs.YtlbmjfjmbgbpeaaGreatDoor
