/- Maps from texts to texts: their laws at a look-up, for the walk. -/
import Derived.Test.YtlbmjfjmbgbpeaaDoorBase
import Derived.Maps.RangeWalk
import Derived.Maps.OwnSet
import Derived.Maps.StringElems
namespace Go.Proofs.YtlbmjfjmbgbpeaaDoor
open Go.RowKit Go.Maps

theorem Tryd.keyedS : Keyed Tryd.prog 9 := string_keyed Tryd.underlying9
theorem Tryd.zeroS (w : World) : (zeroValue 9).run Tryd.prog w = .ok (.string ByteArray.empty) w := by kernel_rfl

/-- The value at a key, as a text. -/
def valAt {H : Type} (D : DataW H) (k : List UInt8) : ByteArray := match D.atKey (.string k) (.lit (.string [])) with | .lit (.string b) => ⟨b.toArray⟩ | _ => ⟨#[]⟩
theorem valAt_of {H : Type} {D : DataW H} {k : List UInt8} {s : ByteArray} (h : D.atKey (.string k) (.lit (.string [])) = .lit (.string s.data.toList)) : valAt D k = s := by
  unfold valAt; rw [h]

/-- A look-up of a text in a map of texts. -/
theorem wpList_lookup_own_str {H : Type} {P : Program} (w : World) {ops : Array Oper} {rest : List Oper} {o : Oper} {a : Act} {Q : Exit → Act → World → Prop}
    (hg : o.guard = none) (m x : Operand) (t : TypeId) (hop : o.op = Op.lookup t m x false)
    (k e : TypeId) (K : Keyed P k) (ht : P.underlying t = some (.map k e)) (he : P.underlying e = some .string) (hz : (zeroValue e).run P w = .ok (.string ByteArray.empty) w) (b n : Nat) (D : DataW H)
    (hm : a.eval m = .map (some b)) (hown : w.ownsMap P k (plainElem P e) b n D) (key : Value) (kl : Lit) (hx : a.eval x = key) (hkey : keyOf P k key = some kl)
    (hK : ∀ s : ByteArray, D.atKey kl (.lit (.string [])) = .lit (.string s.data.toList) → s.size ≤ maxLen → wpList P ops Q rest (a.put o.dst (.string s)) w) :
    wpList P ops Q (o :: rest) a w := by
  refine wpList_plain hg fun K' hK' => ?_
  obtain ⟨v, ps, hrun, hv⟩ := hown.lookup K ht hz (plainElem_string (s := ByteArray.empty) he (Nat.zero_le _)) hkey
  obtain ⟨s, rfl, hs, hw⟩ := plainElem_string_inv he hv
  simp only [Prod.mk.injEq] at hs
  unfold Oper.wp
  simp [execOp, hop, hm, hx, hrun, Result.andThen]
  exact hK' _ _ (hK s hs.1 hw)

/-- A look-up of a text, with 'ok', in a map of texts. -/
theorem wpList_lookup_own_ok_str {H : Type} {P : Program} (w : World) {ops : Array Oper} {rest : List Oper} {o : Oper} {a : Act} {Q : Exit → Act → World → Prop}
    (hg : o.guard = none) (m x : Operand) (t : TypeId) (hop : o.op = Op.lookup t m x true)
    (k e : TypeId) (K : Keyed P k) (ht : P.underlying t = some (.map k e)) (he : P.underlying e = some .string) (hz : (zeroValue e).run P w = .ok (.string ByteArray.empty) w) (b n : Nat) (D : DataW H)
    (hm : a.eval m = .map (some b)) (hown : w.ownsMap P k (plainElem P e) b n D) (key : Value) (kl : Lit) (hx : a.eval x = key) (hkey : keyOf P k key = some kl)
    (hK : ∀ s : ByteArray, D.atKey kl (.lit (.string [])) = .lit (.string s.data.toList) → s.size ≤ maxLen → wpList P ops Q rest (a.put o.dst (.tuple #[.string s, .bool (Maps.has D kl)])) w) :
    wpList P ops Q (o :: rest) a w := by
  refine wpList_plain hg fun K' hK' => ?_
  obtain ⟨v, ps, hrun, hv⟩ := hown.look_ok K ht hz (plainElem_string (s := ByteArray.empty) he (Nat.zero_le _)) hkey
  obtain ⟨s, rfl, hs, hw⟩ := plainElem_string_inv he hv
  simp only [Prod.mk.injEq] at hs
  unfold Oper.wp
  simp [execOp, hop, hm, hx, hrun, Result.andThen]
  exact hK' _ _ (hK s hs.1 hw)
end Go.Proofs.YtlbmjfjmbgbpeaaDoor
