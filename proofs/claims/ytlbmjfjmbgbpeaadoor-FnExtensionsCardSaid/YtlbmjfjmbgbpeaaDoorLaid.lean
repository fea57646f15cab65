/- What a row's list of laid variables gives: any table of it, and that the white-space table is the library's. -/
import Derived.Test.YtlbmjfjmbgbpeaaDoorFlags
import Derived.Test.YtlbmjfjmbgbpeaaDoorRows
import Derived.Lib.LaidTab
import Derived.MakeChecks
namespace Go.Proofs.YtlbmjfjmbgbpeaaDoor
open Go.RowKit

theorem laid_mem {P : Program} {W : World} : ∀ {l : List (String × DataW Unit)} {ps : List MemPlace}, DataW.LaidVars P W l ps → ∀ n d, (n, d) ∈ l →
    ∃ g t cs fuel p, P.globalNamed n = some g ∧ (P.globals[g]?).map (·.type) = some t ∧ W.var? P n = some cs ∧ DataW.trod (fun _ => ()) P W 0 (fun _ => true) false fuel t cs.toList = some (d, p)
  | [], _, _, n, d, h => by cases h
  | (n0, d0) :: r, ps, ⟨g, t, cs, fuel, p, q, h1, h2, h3, h4, h5, _⟩, n, d, h => by
    rcases List.mem_cons.1 h with h | h
    · cases h; exact ⟨g, t, cs, fuel, p, h1, h2, h3, h4⟩
    · exact laid_mem h5 n d h
theorem tab_of_laid {P : Program} {W : World} {name : String} {k : IntKind} {zs : List Int} {laid : List (String × DataW Unit)} {g : Nat} {t e : TypeId} {n : Nat}
    (hg : P.globalNamed name = some g) (hty : (P.globals[g]?).map (·.type) = some t) (ht : P.underlying t = some (.array n e)) (he : P.underlying e = some (.int k)) (hce : P.cellsOf e = 1) (hct : P.cellsOf t = n)
    (hm : (name, Lib.tabData k zs) ∈ laid) (h : laidMet P laid W) : Lib.TabIs P W name k zs := by
  obtain ⟨ps, hv, _⟩ := h
  obtain ⟨g', t', cs, fuel, p, hg', ht', hvar, hd⟩ := laid_mem hv _ _ hm
  obtain rfl := Option.some.inj (hg.symm.trans hg')
  obtain rfl := Option.some.inj (hty.symm.trans ht')
  unfold Lib.TabIs
  rw [hvar, ← Lib.cells_of_tab ht he hce hct hd]
theorem spaces_of_laid {W : World} {laid : List (String × DataW Unit)} (hm : ("strings.asciiSpace", Rows.laid_strings_asciiSpace) ∈ laid) (h : laidMet Tryd.prog laid W) : Spaces W := by
  have e : (Rows.laid_strings_asciiSpace : DataW Unit) = Lib.tabData .u8 Lib.asciiSpaceTab := by kernel_rfl
  rw [e] at hm
  exact tab_of_laid (g := 0) (t := 181) (e := 5) (n := 256) (by kernel_rfl) (by kernel_rfl) Tryd.underlying181 Tryd.underlying5 (by kernel_rfl) (by kernel_rfl) hm h
end Go.Proofs.YtlbmjfjmbgbpeaaDoor
