/- The library's table of white space, as all walks of this seat take it. -/
import Derived.Test.YtlbmjfjmbgbpeaaDoorBase
import Derived.Test.YtlbmjfjmbgbpeaaDoorShelf
import Derived.Lib.SmallJoins
import Derived.Lib.ConvBytes
namespace Go.Proofs.YtlbmjfjmbgbpeaaDoor
open Go.RowKit

def Spaces (w : World) : Prop := Lib.TabIs Tryd.prog w "strings.asciiSpace" .u8 Lib.asciiSpaceTab
theorem Spaces.below {w w' : World} (h : Spaces w) (hb : Below w.heap.size w w') : Spaces w' := Joins.tab_stays (by kernel_rfl : Tryd.prog.globalNamed "strings.asciiSpace" = some 0) h hb (Nat.le_refl _)
theorem below_bytes (w : World) (t : TypeId) (s : ByteArray) : Below w.heap.size w (Lib.bytesWorld w t s) := ⟨rfl, rfl, rfl, by rw [Lib.bytesWorld_size]; omega, fun j hj => Lib.bytesWorld_at_old w t s j hj⟩
end Go.Proofs.YtlbmjfjmbgbpeaaDoor
