/-
  No cell of these rows narrows 'for every input' (looked for: loops, veiled, ifaces, maps, wideKeys, modest, calm, conditions, laid).
  DERIVED. THE GIVEN ROWS OF THIS SEAT. 4 by the template 'for every input the law returns true; each argument reads behind the call as it read before'; 0 by the template 'total and deterministic' (their statements: YtlbmjfjmbgbpeaaTotals.lean).
  GIVEN WITH THE SEED: the statements are not yours to turn. If you find one false, say at which input.
  Laid BY PROGRAM, IN A SANDBOX (cutbox-rows.mjs): the forced cells as the released guide's own fill.sh prints them over the translation a6d9fd53272880a0… (all of the seat's roots in one cut). By AI agents, Wed Nov 11 2026. No macro, syntax, notation, axiom, sorry.
-/
import Derived.Test.YtlbmjfjmbgbpeaaChecked
import GoSem.Claim
import GoSem.ClaimJoined
import GoSem.ClaimMapViews
import Derived.JoinedTies
import Derived.KernelRfl
namespace Go.Proofs.Ytlbmjfjmbgbpeaa
/- THE CELL 'sum', in the pinned program and in every row, IS THE sha256 OF THE DUMP (.gsa) THAT YtlbmjfjmbgbpeaaProg.lean LOADS. Nothing in Lean hashes anything: it is a label: what it is worth is what the hold of that sum in a sandbox is worth. -/
noncomputable def Try.pinned : Pinned := { name := "ytlbmjfjmbgbpeaa", sum := "a6d9fd53272880a0ece28fdbfeefcb5fb3c38cd645b4fdc37f681c3e6f8fbdbf", checked := Try.checked }
namespace Rows
def none {H : Type} : Left H := { results := [], args := [] }

/-- 'laws.FnDirection': WHATEVER THE INPUT: true; the input reads as it did. -/
def fnDirectionSpec : ChangeSpec := { name := "fnDirection", fn := fun _ => fun
  | [d] => { results := [.lit (.bool true)], args := [d] }
  | _ => none }
def fnDirectionRow : OpenClaim := { program := "ytlbmjfjmbgbpeaa", sum := "a6d9fd53272880a0ece28fdbfeefcb5fb3c38cd645b4fdc37f681c3e6f8fbdbf", func := "webrtctexts/laws.FnDirection", spec := "fnDirection", unfollowed := true, recurses := true, apart := false }
def FnDirectionSaid : Prop := fnDirectionRow.holds Try.pinned (OpenSpec.ofChange fnDirectionSpec)

/-- ITS FALSE NEIGHBOUR: 'it returns false'. Refute it at one input. -/
def fnDirectionWrong : ChangeSpec := { name := "fnDirection", fn := fun _ => fun
  | [d] => { results := [.lit (.bool false)], args := [d] }
  | _ => none }
def FnDirectionWrongFalsely : Prop := fnDirectionRow.holds Try.pinned (OpenSpec.ofChange fnDirectionWrong)

/-- 'laws.FnRids': WHATEVER THE INPUT: true; the input reads as it did. -/
def fnRidsSpec : ChangeSpec := { name := "fnRids", fn := fun _ => fun
  | [d] => { results := [.lit (.bool true)], args := [d] }
  | _ => none }
def fnRidsRow : OpenClaim := { program := "ytlbmjfjmbgbpeaa", sum := "a6d9fd53272880a0ece28fdbfeefcb5fb3c38cd645b4fdc37f681c3e6f8fbdbf", func := "webrtctexts/laws.FnRids", spec := "fnRids", unfollowed := true, recurses := true, apart := false }
def FnRidsSaid : Prop := fnRidsRow.holds Try.pinned (OpenSpec.ofChange fnRidsSpec)

/-- ITS FALSE NEIGHBOUR: 'it returns false'. Refute it at one input. -/
def fnRidsWrong : ChangeSpec := { name := "fnRids", fn := fun _ => fun
  | [d] => { results := [.lit (.bool false)], args := [d] }
  | _ => none }
def FnRidsWrongFalsely : Prop := fnRidsRow.holds Try.pinned (OpenSpec.ofChange fnRidsWrong)

/-- 'laws.FnMid': WHATEVER THE INPUT: true; the input reads as it did. -/
def fnMidSpec : ChangeSpec := { name := "fnMid", fn := fun _ => fun
  | [d1, d2] => { results := [.lit (.bool true)], args := [d1, d2] }
  | _ => none }
def fnMidRow : OpenClaim := { program := "ytlbmjfjmbgbpeaa", sum := "a6d9fd53272880a0ece28fdbfeefcb5fb3c38cd645b4fdc37f681c3e6f8fbdbf", func := "webrtctexts/laws.FnMid", spec := "fnMid", unfollowed := true, recurses := true, apart := false }
def FnMidSaid : Prop := fnMidRow.holds Try.pinned (OpenSpec.ofChange fnMidSpec)

/-- ITS FALSE NEIGHBOUR: 'it returns false'. Refute it at one input. -/
def fnMidWrong : ChangeSpec := { name := "fnMid", fn := fun _ => fun
  | [d1, d2] => { results := [.lit (.bool false)], args := [d1, d2] }
  | _ => none }
def FnMidWrongFalsely : Prop := fnMidRow.holds Try.pinned (OpenSpec.ofChange fnMidWrong)

/-- 'laws.FnFingerprint': WHATEVER THE INPUT: true; the input reads as it did. -/
def fnFingerprintSpec : ChangeSpec := { name := "fnFingerprint", fn := fun _ => fun
  | [d1, d2] => { results := [.lit (.bool true)], args := [d1, d2] }
  | _ => none }
def fnFingerprintRow : OpenClaim := { program := "ytlbmjfjmbgbpeaa", sum := "a6d9fd53272880a0ece28fdbfeefcb5fb3c38cd645b4fdc37f681c3e6f8fbdbf", func := "webrtctexts/laws.FnFingerprint", spec := "fnFingerprint", unfollowed := true, recurses := true, apart := false }
def FnFingerprintSaid : Prop := fnFingerprintRow.holds Try.pinned (OpenSpec.ofChange fnFingerprintSpec)

/-- ITS FALSE NEIGHBOUR: 'it returns false'. Refute it at one input. -/
def fnFingerprintWrong : ChangeSpec := { name := "fnFingerprint", fn := fun _ => fun
  | [d1, d2] => { results := [.lit (.bool false)], args := [d1, d2] }
  | _ => none }
def FnFingerprintWrongFalsely : Prop := fnFingerprintRow.holds Try.pinned (OpenSpec.ofChange fnFingerprintWrong)

/- THE SECOND FORM. 'bulk': how many values and letters a reading holds, each counted each time it is reached (what is shared counts as often as it is met; a slice's spare places count too). A statement '..UptoSaid' is the law's where the arguments, and the package variables that the reading takes, are together of bulk at most 1048576: NARROWER than '..Said'. Prove '..Said' where nothing that the law and all that it calls make is longer than what came in: it says more and counts as full. Else prove '..UptoSaid'. A law counts once. -/
mutual
def uptoBulk {H : Type} : DataW H → Nat
  | .lit (.string bytes) => bytes.length + 1
  | .lit _ => 1
  | .nil => 1
  | .ptr d => uptoBulk d + 1
  | .slice elems spare => uptoBulkAll elems + uptoBulkAll spare + 1
  | .agg parts => uptoBulkAll parts + 1
  | .iface _ d => uptoBulk d + 1
  | .map entries => uptoBulkEntries entries + 1
  | .held _ => 1
def uptoBulkAll {H : Type} : List (DataW H) → Nat
  | [] => 0
  | d :: r => uptoBulk d + uptoBulkAll r
def uptoBulkEntries {H : Type} : List (Lit × DataW H) → Nat
  | [] => 0
  | x :: r => uptoBulkEntry x + uptoBulkEntries r
def uptoBulkEntry {H : Type} : Lit × DataW H → Nat
  | (.string bytes, d) => bytes.length + uptoBulk d + 1
  | (_, d) => uptoBulk d + 1
 end
def uptoSmall : (H : Type) → List (DataW H) → Bool := fun _ ds => decide (uptoBulkAll ds ≤ 1048576)
def OpenSpec.upto (s : _root_.Go.ChangeSpec) : _root_.Go.OpenSpec := { _root_.Go.OpenSpec.ofChange s with cond := some uptoSmall }

/-- 'laws.FnDirection', WHERE WHAT IT READS IS OF BULK AT MOST 1048576: true; the input reads as it did. -/
def fnDirectionUptoRow : OpenClaim := { program := "ytlbmjfjmbgbpeaa", sum := "a6d9fd53272880a0ece28fdbfeefcb5fb3c38cd645b4fdc37f681c3e6f8fbdbf", func := "webrtctexts/laws.FnDirection", spec := "fnDirection", unfollowed := true, recurses := true, apart := false, narrowed := true }
def FnDirectionUptoSaid : Prop := fnDirectionUptoRow.holds Try.pinned (OpenSpec.upto fnDirectionSpec)

/-- 'laws.FnRids', WHERE WHAT IT READS IS OF BULK AT MOST 1048576: true; the input reads as it did. -/
def fnRidsUptoRow : OpenClaim := { program := "ytlbmjfjmbgbpeaa", sum := "a6d9fd53272880a0ece28fdbfeefcb5fb3c38cd645b4fdc37f681c3e6f8fbdbf", func := "webrtctexts/laws.FnRids", spec := "fnRids", unfollowed := true, recurses := true, apart := false, narrowed := true }
def FnRidsUptoSaid : Prop := fnRidsUptoRow.holds Try.pinned (OpenSpec.upto fnRidsSpec)

/-- 'laws.FnMid', WHERE WHAT IT READS IS OF BULK AT MOST 1048576: true; the input reads as it did. -/
def fnMidUptoRow : OpenClaim := { program := "ytlbmjfjmbgbpeaa", sum := "a6d9fd53272880a0ece28fdbfeefcb5fb3c38cd645b4fdc37f681c3e6f8fbdbf", func := "webrtctexts/laws.FnMid", spec := "fnMid", unfollowed := true, recurses := true, apart := false, narrowed := true }
def FnMidUptoSaid : Prop := fnMidUptoRow.holds Try.pinned (OpenSpec.upto fnMidSpec)

/-- 'laws.FnFingerprint', WHERE WHAT IT READS IS OF BULK AT MOST 1048576: true; the input reads as it did. -/
def fnFingerprintUptoRow : OpenClaim := { program := "ytlbmjfjmbgbpeaa", sum := "a6d9fd53272880a0ece28fdbfeefcb5fb3c38cd645b4fdc37f681c3e6f8fbdbf", func := "webrtctexts/laws.FnFingerprint", spec := "fnFingerprint", unfollowed := true, recurses := true, apart := false, narrowed := true }
def FnFingerprintUptoSaid : Prop := fnFingerprintUptoRow.holds Try.pinned (OpenSpec.upto fnFingerprintSpec)

end Rows
end Go.Proofs.Ytlbmjfjmbgbpeaa
