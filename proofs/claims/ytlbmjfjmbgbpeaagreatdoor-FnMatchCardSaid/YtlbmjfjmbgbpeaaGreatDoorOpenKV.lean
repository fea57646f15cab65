/- How arguments that are lists of pairs of texts read: one lemma for all laws that take one. -/
import Derived.Test.YtlbmjfjmbgbpeaaGreatDoorBase
import Derived.ProofKit
import Derived.OpenShut
import Derived.Deep.SlicePairs
import Derived.SizedLaws
namespace Go.Proofs.YtlbmjfjmbgbpeaaGreatDoor
open Go.ChangeShapes Go.WideShapes Go.ChangeAt Go.RowKit

theorem open_kvs {H : Type} {enc : TypeId × Value → H} {W : World} {a0 : Option Addr} {len0 cap0 : Nat} {d : DataW H} {p : List MemPlace} (h : DataW.Trod enc Tryz.prog W 0 (fun _ => true) true 22 (.slice a0 len0 cap0) d p) :
    ∃ l : List KV, len0 = l.length ∧ l.length ≤ cap0 ∧ KVs (fun _ => True) W a0 l ∧ (∀ s ∈ l, s.1.size ≤ 9223372036854775807 ∧ s.2.size ≤ 9223372036854775807) ∧ (l = [] ∨ ∃ xs ys : List (DataW H), d = .slice xs ys ∧ l.length ≤ xs.length + ys.length) := by
  obtain ⟨fuel, hf⟩ := h
  rcases Go.Deep.open_slice_pairs Tryz.underlying22 Tryz.underlying40 (by kernel_rfl) rfl rfl (by kernel_rfl) (by kernel_rfl) hf with ⟨hcs, _⟩ | ⟨a, len, cap, m, n, V0, V1, D0, D1, P0, P1, hcs, _, hl, hm, hmm, hx, hc⟩
  · simp [Value.cells] at hcs
    obtain ⟨rfl, rfl, rfl⟩ := hcs
    exact ⟨[], rfl, Nat.le_refl _, KVs.nil _ _ _, by simp, .inl rfl⟩
  · simp [Value.cells] at hcs
    obtain ⟨rfl, rfl, rfl⟩ := hcs
    have hm' : m = cap0 := by simpa using hmm
    have str : ∀ i, i < len0 → ∃ q : KV, V0 i = .string q.1 ∧ V1 i = .string q.2 ∧ q.1.size ≤ maxLen ∧ q.2.size ≤ maxLen := fun i hi => by
      obtain ⟨_, _, t0, t1⟩ := hc i (by omega)
      obtain ⟨s0, e0, _, w0⟩ := DataW.trod_string Tryz.underlying9 t0
      obtain ⟨s1, e1, _, w1⟩ := DataW.trod_string Tryz.underlying9 t1
      exact ⟨(s0, s1), by simpa using e0, by simpa using e1, w0, w1⟩
    obtain ⟨f, hf'⟩ := Go.Deep.choose_lt str
    refine ⟨(List.range len0).map f, by simp, by simpa using hl, fun k q hq => ?_, fun s hs => ?_, .inr ⟨_, _, congrArg Prod.fst hx, by simp⟩⟩
    · have hk : k < len0 := by have := (List.getElem?_eq_some_iff.1 hq).1; simpa using this
      obtain rfl : f k = q := by simpa [hk] using hq
      obtain ⟨c0, c1, _, _⟩ := hc k (by omega)
      obtain ⟨b, off, spot⟩ := a
      have hspot : spot = none := by
        have h0 := (hc 0 (by omega)).1
        simpa [Addr.add] using World.cell?_spot h0
      subst hspot
      rw [Addr.add_lit, (hf' k hk).1] at c0
      rw [Addr.add_lit, (hf' k hk).2.1] at c1
      exact ⟨b, off, rfl, trivial, c0, by simpa [Nat.add_assoc] using c1⟩
    · obtain ⟨i, hi, rfl⟩ := List.mem_map.1 hs
      have h3 := hf' i (List.mem_range.1 hi)
      exact ⟨h3.2.2.1, h3.2.2.2⟩
end Go.Proofs.YtlbmjfjmbgbpeaaGreatDoor
