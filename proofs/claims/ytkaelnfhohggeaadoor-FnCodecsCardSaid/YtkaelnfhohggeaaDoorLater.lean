/- A region that draws its order and whose callees make memory of their own: one walk of the text's order serves every order, in whatever later world. -/
import Derived.Test.YtkaelnfhohggeaaDoorBase
import Derived.Deep.DeepMust
import Derived.BigQuiet
import Derived.Deep.RegionWith
namespace Go.Proofs.YtkaelnfhohggeaaDoor
open Go.RowKit

/-- A world in which all that w has reads as before. -/
structure Later (w : World) where
  W : World
  h : Below w.heap.size w W
instance (w : World) : Nonempty (Later w) := ⟨⟨w, Below.refl _ _⟩⟩
theorem below_drewN {B : Nat} {a w : World} (h : Below B a w) (q : Nat) : Below B a (w.drewN q) := ⟨h.os, h.tape, h.output, h.size, h.block⟩
theorem below_drawn {B : Nat} {a w : World} (h : Below B a w) (q : Nat) : Below B a { w with drawn := q } := ⟨h.os, h.tape, h.output, h.size, h.block⟩
/-- A region whose operations are written out, in the class of the later worlds. -/
theorem wp_region_later {P : Program} {id : Nat} {Q : Exit → Act → World → Prop} {a : Act} {w : World} {l : List Oper} (hm : P.follows .mixedOrders = true) (hB : Region.lexB .any l.toArray = true)
    (h : wpQuiet P l.toArray (fun w' => ∃ x : Later w, w' = x.W) (fun a' => ∀ w', (∃ x : Later w, w' = x.W) → Q .normal a' w') l a) : (Code.region id l.toArray true).wp P Q a w :=
  wp_region_quiet (C := fun w' => ∃ x : Later w, w' = x.W) hm hB ⟨⟨_, below_drawn (Below.refl _ _) _⟩, rfl⟩ (by simpa using h)
/-- A callee that makes new blocks alone, in a later world. -/
theorem Calls.later {P : Program} {f : FuncId} {args : Array Value} {w : World} {x : Later w} {v : Value}
    (h : Calls P f args x.W fun e w' => e = .returned v ∧ Below x.W.heap.size x.W w') : Calls P f args x.W fun e w'' => e = .returned v ∧ ∃ y : Later w, w'' = y.W :=
  h.mono fun _ w' ⟨he, hb⟩ => ⟨he, ⟨w', below_step x.h x.h.size hb⟩, rfl⟩
theorem Later.cell {w : World} (x : Later w) {p : Addr} {v : Value} (h : w.cell? p = some v) : x.W.cell? p = some v := kp_of_below x.h _ _ h
end Go.Proofs.YtkaelnfhohggeaaDoor
