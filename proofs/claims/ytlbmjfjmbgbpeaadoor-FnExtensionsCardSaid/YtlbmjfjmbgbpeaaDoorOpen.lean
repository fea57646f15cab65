/- How arguments that are lists of texts read: one lemma for all laws of this seat that take one. -/
import Derived.Test.YtlbmjfjmbgbpeaaDoorBase
import Derived.ProofKit
import Derived.OpenShut
import Derived.SliceStrings
import Derived.SizedLaws
namespace Go.Proofs.YtlbmjfjmbgbpeaaDoor
open Go.ChangeShapes Go.WideShapes Go.ChangeAt Go.RowKit

theorem own : ownKnob Tryd.prog.godebug = none := by kernel_rfl
theorem laidOut : laidOutB Tryd.prog = true := by kernel_rfl

theorem open_list {H : Type} {enc : TypeId × Value → H} {W : World} {a0 : Option Addr} {len0 cap0 : Nat} {d : DataW H} {p : List MemPlace} (h : DataW.Trod enc Tryd.prog W 0 (fun _ => true) true 34 (.slice a0 len0 cap0) d p) :
    ∃ l : List ByteArray, len0 = l.length ∧ l.length ≤ cap0 ∧ Strs (fun _ => True) W a0 l ∧ (∀ s ∈ l, s.size ≤ 9223372036854775807) ∧ (l = [] ∨ ∃ xs ys : List (DataW H), d = .slice xs ys ∧ l.length ≤ xs.length + ys.length) := by
  obtain ⟨fuel, hf⟩ := h
  rcases open_strings Tryd.underlying34 Tryd.underlying9 (by kernel_rfl) hf with ⟨hcs, _⟩ | ⟨a, len, cap, ss, hcs, _, hl, hm, hz, hx, hcell, hsz⟩
  · simp [Value.cells] at hcs
    obtain ⟨rfl, rfl, rfl⟩ := hcs
    exact ⟨[], rfl, Nat.le_refl _, Strs.nil _ _ _, by simp, .inl rfl⟩
  · simp [Value.cells] at hcs
    obtain ⟨rfl, rfl, rfl⟩ := hcs
    have hss : ss.length = cap0 := by simpa using hz
    have hlen : (ss.take len0).length = len0 := by rw [List.length_take]; omega
    refine ⟨ss.take len0, hlen.symm, by omega, fun k s hs => ?_, fun s hs => hsz s (List.mem_of_mem_take hs), .inr ⟨_, _, congrArg Prod.fst hx, ?_⟩⟩
    · have hk : k < len0 := by have := (List.getElem?_eq_some_iff.1 hs).1; omega
      have hkc : k < ss.length := by omega
      obtain ⟨b, off, spot⟩ := a
      have hc := hcell k hkc
      have hspot : spot = none := by simpa [Addr.add] using World.cell?_spot (hcell 0 (by omega))
      subst hspot
      rw [Addr.add_lit] at hc
      rw [List.getElem?_take_of_lt hk, List.getElem?_eq_getElem hkc] at hs
      obtain rfl := Option.some.inj hs
      exact ⟨b, off, rfl, trivial, by simpa [List.getD, List.getElem?_eq_getElem hkc] using hc⟩
    · simp [strs]
end Go.Proofs.YtlbmjfjmbgbpeaaDoor
