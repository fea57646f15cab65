/- What a row's list of laid variables gives of an error variable: its cell holds an interface value. -/
import Derived.Test.YtkaelnfhohggeaaDoorBase
import Derived.Test.YtkaelnfhohggeaaDoorRows
import Derived.MakeChecks
import Derived.ChangeArms
namespace Go.Proofs.YtkaelnfhohggeaaDoor
open Go.RowKit

theorem laid_mem {P : Program} {W : World} : ∀ {l : List (String × DataW Unit)} {ps : List MemPlace}, DataW.LaidVars P W l ps → ∀ n d, (n, d) ∈ l →
    ∃ g t cs fuel p, P.globalNamed n = some g ∧ (P.globals[g]?).map (·.type) = some t ∧ W.var? P n = some cs ∧ DataW.trod (fun _ => ()) P W 0 (fun _ => true) false fuel t cs.toList = some (d, p)
  | [], _, _, n, d, h => by cases h
  | (n0, d0) :: r, ps, ⟨g, t, cs, fuel, p, q, h1, h2, h3, h4, h5, _⟩, n, d, h => by
    rcases List.mem_cons.1 h with h | h
    · cases h; exact ⟨g, t, cs, fuel, p, h1, h2, h3, h4⟩
    · exact laid_mem h5 n d h

theorem trod_error {P : Program} {W : World} {sp : Nat → Bool} {t : TypeId} {ms : Array (String × TypeId)} {fuel : Nat} {cs : List Value} {x : DataW Unit × List MemPlace} (ht : P.underlying t = some (.interface ms))
    (h : DataW.trod (fun _ => ()) P W 0 sp false fuel t cs = some x) : ∃ v, cs = [v] ∧ (v = .nilIface ∨ ∃ te pe, v = .iface te pe) := by
  cases fuel with
  | zero => simp [DataW.trod] at h
  | succ n =>
    unfold DataW.trod at h
    rw [ht] at h
    split at h <;> simp_all

theorem err_of_laid {P : Program} {W : World} {name : String} {d : DataW Unit} {laid : List (String × DataW Unit)} {g : Nat} {t : TypeId} {ms : Array (String × TypeId)}
    (hg : P.globalNamed name = some g) (hty : (P.globals[g]?).map (·.type) = some t) (ht : P.underlying t = some (.interface ms)) (hm : (name, d) ∈ laid) (h : laidMet P laid W) :
    ∃ ev, W.cell? ⟨g, 0, none⟩ = some ev ∧ (ev = .nilIface ∨ ∃ te pe, ev = .iface te pe) := by
  obtain ⟨ps, hv, _⟩ := h
  obtain ⟨g', t', cs, fuel, p, hg', ht', hvar, hd⟩ := laid_mem hv _ _ hm
  obtain rfl := Option.some.inj (hg.symm.trans hg')
  obtain rfl := Option.some.inj (hty.symm.trans ht')
  obtain ⟨v, hcs, hform⟩ := trod_error ht hd
  refine ⟨v, ?_, hform⟩
  obtain rfl : cs = #[v] := by cases cs; simp_all
  unfold World.var? at hvar
  rw [hg, Option.bind_some] at hvar
  unfold World.cell?
  split at hvar
  · rename_i hh
    cases hvar
    rw [hh]
    rfl
  · cases hvar
end Go.Proofs.YtkaelnfhohggeaaDoor
