/- The pairs of a line that was read are its parameters, keys in small letters: a plain law. -/
import Derived.Test.YtlbmjfjmbgbpeaaDoorPairs
import Derived.Test.YtlbmjfjmbgbpeaaDoorMapAt
namespace Go.Proofs.YtlbmjfjmbgbpeaaDoor
open Go.RowKit Go.Maps Go.Sort

section
variable {H : Type}
theorem sort_of_rising {l : List (List UInt8)} (hs : l.Pairwise (· < ·)) : l.mergeSort leB = l := by
  have tr : ∀ a b c : List UInt8, leB a b = true → leB b c = true → leB a c = true := fun a b c h1 h2 => by simp only [leB, decide_eq_true_eq] at *; exact List.le_trans h1 h2
  have tot : ∀ a b : List UInt8, (leB a b || leB b a) = true := fun a b => by simp only [leB, Bool.or_eq_true, decide_eq_true_eq]; exact List.le_total a b
  refine List.Perm.eq_of_pairwise (le := fun a b => leB a b = true) (fun a b _ _ h1 h2 => ?_) (List.pairwise_mergeSort tr tot l) (hs.imp fun h => ?_) (List.mergeSort_perm l leB)
  · simp only [leB, decide_eq_true_eq] at h1 h2
    exact List.le_antisymm h1 h2
  · simp only [leB, decide_eq_true_eq]
    exact List.le_of_lt h

variable {P : Program} {k : TypeId} {R : Value → Option (DataW H × List MemPlace)} {w : World} {b n : Nat}
theorem sortedKeys_mapAt {l : List KV} (K : Keyed P k) (hk : P.underlying k = some .string) (hown : w.ownsMap P k R b n (mapAt H l l.length)) (hs : (l.map keyL).Pairwise (· < ·)) : sortedKeys (mapAt H l l.length) = l.map keyL := by
  obtain ⟨es, hD, hpw, _⟩ := hown.entries K
  obtain ⟨es', hD', hko⟩ := hown.keysOf
  obtain rfl : es = es' := by rw [hD] at hD'; simpa using hD'
  have hp : (l.map keyL).Perm (strKeys (mapAt H l l.length)) := by
    have hm : ∀ x, x ∈ l.map keyL ↔ has (mapAt H l l.length) (.string x) = true := fun x => by
      rw [has_mapAt l x l.length (Nat.le_refl _), List.take_length, List.any_eq_true, List.mem_map]
      constructor
      · rintro ⟨p, hp, rfl⟩; exact ⟨p, hp, by simp⟩
      · rintro ⟨p, hp, h⟩; exact ⟨p, hp, by simpa using h⟩
    rw [hD] at hm ⊢
    exact perm_strKeys hpw (fun p hp => by obtain ⟨v, hv⟩ := hko p hp; obtain ⟨x, _, hx, _⟩ := Maps.keyOf_str hk hv; exact ⟨x, hx⟩) (rises_nodup hs) hm
  unfold sortedKeys
  rw [← mergeSort_of_perm hp, sort_of_rising hs]
theorem pairsOf_mapAt {l : List KV} (K : Keyed P k) (hk : P.underlying k = some .string) (hown : w.ownsMap P k R b n (mapAt H l l.length)) (hs : (l.map keyL).Pairwise (· < ·)) : pairsOf (mapAt H l l.length) = l.map fun p => (small p.1, p.2) := by
  unfold pairsOf keyTexts
  rw [sortedKeys_mapAt K hk hown hs, List.map_map, List.map_map]
  refine List.map_congr_left fun p hp => ?_
  obtain ⟨i, hi, rfl⟩ := List.getElem_of_mem hp
  have e := at_mapAt (H := H) hs (.lit (.string [])) i hi l.length hi (Nat.le_refl _)
  exact Prod.ext (by simp [keyL]) (by simpa [keyL] using valAt_of e)
theorem size_mapAt {l : List KV} (hown : w.ownsMap P k R b l.length (mapAt H l l.length)) : size (mapAt H l l.length) ≤ l.length := hown.size_le
end
end Go.Proofs.YtlbmjfjmbgbpeaaDoor
