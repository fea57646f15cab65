/- What is known of parameters that are compared, and of the map that reads as them: plain laws. -/
import Derived.Test.YtlbmjfjmbgbpeaaGreatDoorStrMap
import Derived.Test.YtlbmjfjmbgbpeaaGreatDoorParse
import Derived.Test.YtlbmjfjmbgbpeaaGreatDoorParams
import Derived.Sort.Walk0
namespace Go.Proofs.YtlbmjfjmbgbpeaaGreatDoor
open Go.RowKit Go.Maps

/-- A parameter's key in small letters. -/
def keyL (p : KV) : List UInt8 := (small p.1).data.toList

theorem growB_words : ∀ {l : List KV} {prev : Option (List UInt8)}, growB prev l = true → ∀ p ∈ l, wordB p.1 = true ∧ wordB p.2 = true
  | [], _, _, p, hp => by cases hp
  | q :: r, prev, h, p, hp => by
    unfold growB at h
    simp only [Bool.and_eq_true] at h
    rcases List.mem_cons.1 hp with rfl | hp
    · exact ⟨h.1, h.2.1⟩
    · exact growB_words h.2.2.2 p hp
theorem growB_rises : ∀ {l : List KV} {prev : Option (List UInt8)}, growB prev l = true → (∀ q, prev = some q → ∀ p ∈ l, q < keyL p) ∧ (l.map keyL).Pairwise (· < ·)
  | [], _, _ => ⟨fun _ _ p hp => (by cases hp), List.Pairwise.nil⟩
  | p :: r, prev, h => by
    unfold growB at h
    simp only [Bool.and_eq_true] at h
    obtain ⟨_, _, hc, hr⟩ := h
    have ih := growB_rises hr
    have ih1 : ∀ q ∈ r, keyL p < keyL q := fun q hq => by
      have := ih.1 _ rfl q hq
      rwa [Lib.toList_data] at this
    refine ⟨fun q hq x hx => ?_, List.Pairwise.cons (fun y hy => ?_) ih.2⟩
    · subst hq
      have h1 : q < keyL p := by
        have h2 : Op.bytesLess q (small p.1).toList = true := hc
        rw [bytesLess_eq, Lib.toList_data] at h2
        exact of_decide_eq_true h2
      rcases List.mem_cons.1 hx with rfl | hx
      · exact h1
      · exact List.lt_trans h1 (ih1 x hx)
    · obtain ⟨q, hq, rfl⟩ := List.mem_map.1 hy
      exact ih1 q hq

theorem paramsB_words {l : List KV} (h : paramsB l = true) : ∀ p ∈ l, wordB p.1 = true ∧ wordB p.2 = true := by
  unfold paramsB at h
  rw [Bool.and_eq_true] at h
  exact growB_words h.1
theorem paramsB_length {l : List KV} (h : paramsB l = true) : l.length ≤ 8 := by
  unfold paramsB at h
  rw [Bool.and_eq_true] at h
  exact of_decide_eq_true h.2
theorem paramsB_rises {l : List KV} (h : paramsB l = true) : (l.map keyL).Pairwise (· < ·) := by
  unfold paramsB at h
  rw [Bool.and_eq_true] at h
  exact (growB_rises h.1).2

section
variable {H : Type}
theorem isMap_mapAt (l : List KV) : ∀ n, n ≤ l.length → IsMap (mapAt H l n)
  | 0, _ => ⟨[], rfl⟩
  | n + 1, h => by rw [mapAt_succ (by omega)]; exact (isMap_mapAt l n (by omega)).put _ _
theorem has_mapAt (l : List KV) (x : List UInt8) : ∀ n, n ≤ l.length → has (mapAt H l n) (.string x) = (l.take n).any fun p => keyL p == x
  | 0, _ => rfl
  | n + 1, h => by
    rw [mapAt_succ (by omega), List.take_succ_eq_append_getElem (by omega), List.any_append]
    by_cases e : keyL l[n] = x
    · subst e
      rw [show (.string (small l[n].1).data.toList : Lit) = .string (keyL l[n]) from rfl, has_put_same (isMap_mapAt l n (by omega)) (by exact trivial)]
      simp
    · rw [has_put_other (fun h => e (by injection h with h; exact h.symm)), has_mapAt l x n (by omega)]
      simp [e]
theorem at_mapAt {l : List KV} (hs : (l.map keyL).Pairwise (· < ·)) (z : DataW H) (i : Nat) (hi : i < l.length) : ∀ n, i < n → n ≤ l.length → (mapAt H l n).atKey (.string (keyL l[i])) z = .lit (.string l[i].2.data.toList)
  | 0, h, _ => absurd h (Nat.not_lt_zero _)
  | n + 1, h, hn => by
    rw [mapAt_succ (by omega)]
    by_cases e : i = n
    · subst e
      exact atKey_put_same (isMap_mapAt l i (by omega)) (by exact trivial) _ _
    · have hlt : keyL l[i] < keyL l[n] := by
        have := List.pairwise_iff_getElem.1 hs i n (by simpa using hi) (by simp; omega) (by omega)
        simpa using this
      rw [atKey_put_other (fun h => by injection h with h; exact absurd (h ▸ hlt) (List.lt_irrefl _)), at_mapAt hs z i hi n (by omega) (by omega)]

theorem rises_nodup {l : List KV} (hs : (l.map keyL).Pairwise (· < ·)) : (l.map keyL).Nodup :=
  hs.imp fun h e => absurd (e ▸ h) (List.lt_irrefl _)
end
end Go.Proofs.YtlbmjfjmbgbpeaaGreatDoor
