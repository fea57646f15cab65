/- The inner loop of trackDetailsFromSDP, cut out of the program's form: its body, and what a frame is. -/
import Derived.Test.YtkaelnfhohggeaaGreatDoorTrackLaw
import Derived.Test.YtkaelnfhohggeaaGreatDoorSortNone
import Derived.Test.YtkaelnfhohggeaaGreatDoorShelf
namespace Go.Proofs.YtkaelnfhohggeaaGreatDoor
open Go.RowKit Go.WideMaps Go.Maps

/-- What lies within the first loop. -/
def firstLoop : Code → Option Code
  | .loop c => some c
  | .seq a b => match firstLoop a with
    | some c => some c
    | none => firstLoop b
  | .block _ c => firstLoop c
  | .scope c => firstLoop c
  | .cond _ a b => match firstLoop a with
    | some c => some c
    | none => firstLoop b
  | _ => none
noncomputable def trackBody : Code := (((Tryz.f20.body).bind firstLoop).bind firstLoop).getD .skip

/-- The slots of the frame that have a meaning. -/
structure FrameIs (a : Act) (x2 x4 x5 x6 x7 x8 x9 x11 x12 x53 x54 x55 x86 x87 x88 : Value) : Prop where
  defers : a.defers = []
  size : a.tmps.size = 407
  h2 : a.tmps.getD 2 undef = x2
  h4 : a.tmps.getD 4 undef = x4
  h5 : a.tmps.getD 5 undef = x5
  h6 : a.tmps.getD 6 undef = x6
  h7 : a.tmps.getD 7 undef = x7
  h8 : a.tmps.getD 8 undef = x8
  h9 : a.tmps.getD 9 undef = x9
  h11 : a.tmps.getD 11 undef = x11
  h12 : a.tmps.getD 12 undef = x12
  h53 : a.tmps.getD 53 undef = x53
  h54 : a.tmps.getD 54 undef = x54
  h55 : a.tmps.getD 55 undef = x55
  h86 : a.tmps.getD 86 undef = x86
  h87 : a.tmps.getD 87 undef = x87
  h88 : a.tmps.getD 88 undef = x88

theorem list_getD {α : Type} (z : α) : ∀ (n : Nat) (l : List α), l.length = n → l = (List.range n).map fun j => l.getD j z := fun n l h => by
  subst h
  apply List.ext_getElem
  · simp
  · intro i h1 h2
    simp [List.getD_eq_getElem?_getD, List.getElem?_eq_getElem h1]

end Go.Proofs.YtkaelnfhohggeaaGreatDoor
