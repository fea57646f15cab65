/- An argument []uint32, opened. -/
import Derived.Test.YtkaelnfhohggeaaGreatDoorBase
import Derived.ProofKit
import Derived.OpenShut
import Derived.ChangeSlices
import Derived.SizedLaws
namespace Go.Proofs.YtkaelnfhohggeaaGreatDoor
open Go.ChangeShapes Go.WideShapes Go.ChangeAt Go.ChangeMaps Go.RowKit

/-- The slice at A reads as these numbers. -/
def U32s (w : World) (A : Option Addr) (zs : List Int) : Prop := ∀ k z, zs[k]? = some z → ∃ b o, A = some ⟨b, o, none⟩ ∧ w.cell? ⟨b, o + k, none⟩ = some (.int .u32 z) ∧ 0 ≤ z ∧ z ≤ 4294967295

theorem wf_bounds {z : Int} (h : (Lit.int .u32 z).wf = true) : 0 ≤ z ∧ z ≤ 4294967295 := by
  have h1 : IntKind.u32.min = 0 := by decide
  have h2 : IntKind.u32.max = 4294967295 := by decide
  simpa [Lit.wf, h1, h2] using h

theorem open_u32s {H : Type} {enc : TypeId × Value → H} {W : World} {a0 : Option Addr} {len0 cap0 : Nat} {d : DataW H} {p : List MemPlace} (h : DataW.Trod enc Tryz.prog W 0 (fun _ => true) true 22 (.slice a0 len0 cap0) d p) :
    ∃ zs : List Int, len0 = zs.length ∧ U32s W a0 zs := by
  obtain ⟨fuel, hf⟩ := h
  rcases open_ints Tryz.underlying22 Tryz.underlying24 (by kernel_rfl) hf with ⟨hcs, _⟩ | ⟨a, len, cap, zs, hcs, _, hl, hm, hz, hx, hcell, hwf⟩
  · simp [Value.cells] at hcs
    obtain ⟨rfl, rfl, rfl⟩ := hcs
    exact ⟨[], rfl, fun k z hk => by simp at hk⟩
  · simp [Value.cells] at hcs
    obtain ⟨rfl, rfl, rfl⟩ := hcs
    have hss : zs.length = cap0 := by simpa using hz
    have hlen : (zs.take len0).length = len0 := by rw [List.length_take]; omega
    refine ⟨zs.take len0, hlen.symm, fun k z hk => ?_⟩
    have hk' : k < len0 := by have := (List.getElem?_eq_some_iff.1 hk).1; omega
    have hkc : k < zs.length := by omega
    obtain ⟨b, off, spot⟩ := a
    have hc := hcell k hkc
    have hspot : spot = none := by simpa [Addr.add] using World.cell?_spot (hcell 0 (by omega))
    subst hspot
    rw [Addr.add_lit] at hc
    rw [List.getElem?_take_of_lt hk', List.getElem?_eq_getElem hkc] at hk
    obtain rfl := Option.some.inj hk
    exact ⟨b, off, rfl, by simpa [List.getD, List.getElem?_eq_getElem hkc] using hc, wf_bounds (hwf _ (List.getElem_mem hkc))⟩
end Go.Proofs.YtkaelnfhohggeaaGreatDoor
