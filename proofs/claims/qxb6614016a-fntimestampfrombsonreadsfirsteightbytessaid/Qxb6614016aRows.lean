/-
  No cell of these rows narrows 'for every input' (looked for: loops, veiled, ifaces, maps, wideKeys, modest, calm, conditions, laid).
  DERIVED. THE GIVEN ROWS OF THIS SEAT. 3 by the template 'for every input the law returns true; each argument reads behind the call as it read before'; 0 by the template 'total and deterministic' (their statements: Qxb6614016aTotals.lean).
  GIVEN WITH THE SEED: the statements are not yours to turn. If you find one false, say at which input.
  Laid BY PROGRAM, IN A SANDBOX (cutbox-rows.mjs): the forced cells as the released guide's own fill.sh prints them over the translation 165eabd8dc0efed6… (all of the seat's roots in one cut). By AI agents, Wed Nov 11 2026. No macro, syntax, notation, axiom, sorry.
-/
import Derived.Test.Qxb6614016aChecked
import GoSem.Claim
import GoSem.ClaimJoined
import GoSem.ClaimMapViews
import Derived.JoinedTies
import Derived.KernelRfl
namespace Go.Proofs.Qxb6614016a
/- THE CELL 'sum', in the pinned program and in every row, IS THE sha256 OF THE DUMP (.gsa) THAT Qxb6614016aProg.lean LOADS. Nothing in Lean hashes anything: it is a label: what it is worth is what the hold of that sum in a sandbox is worth. -/
noncomputable def Try.pinned : Pinned := { name := "qxb6614016a", sum := "165eabd8dc0efed6cbae918fee456b2c809fd2fa25d8ab4e672b53a929ea79a5", checked := Try.checked }
namespace Rows
def none {H : Type} : Left H := { results := [], args := [] }

/-- 'zzlaws_root_b1.FnBitsRoundTrips': WHATEVER THE INPUT: true; the input reads as it did. -/
def fnBitsRoundTripsSpec : ChangeSpec := { name := "fnBitsRoundTrips", fn := fun _ => fun
  | [d1, d2] => { results := [.lit (.bool true)], args := [d1, d2] }
  | _ => none }
def fnBitsRoundTripsRow : OpenClaim := { program := "qxb6614016a", sum := "165eabd8dc0efed6cbae918fee456b2c809fd2fa25d8ab4e672b53a929ea79a5", func := "example.com/signet-clock/signet-clock/zzlaws_root_b1.FnBitsRoundTrips", spec := "fnBitsRoundTrips", apart := false }
def FnBitsRoundTripsSaid : Prop := fnBitsRoundTripsRow.holds Try.pinned (OpenSpec.ofChange fnBitsRoundTripsSpec)

/-- ITS FALSE NEIGHBOUR: 'it returns false'. Refute it at one input. -/
def fnBitsRoundTripsWrong : ChangeSpec := { name := "fnBitsRoundTrips", fn := fun _ => fun
  | [d1, d2] => { results := [.lit (.bool false)], args := [d1, d2] }
  | _ => none }
def FnBitsRoundTripsWrongFalsely : Prop := fnBitsRoundTripsRow.holds Try.pinned (OpenSpec.ofChange fnBitsRoundTripsWrong)

/-- 'zzlaws_root_b1.FnBitsOrdersAsTimes': WHATEVER THE INPUT: true; the input reads as it did. -/
def fnBitsOrdersAsTimesSpec : ChangeSpec := { name := "fnBitsOrdersAsTimes", fn := fun _ => fun
  | [d1, d2] => { results := [.lit (.bool true)], args := [d1, d2] }
  | _ => none }
def fnBitsOrdersAsTimesRow : OpenClaim := { program := "qxb6614016a", sum := "165eabd8dc0efed6cbae918fee456b2c809fd2fa25d8ab4e672b53a929ea79a5", func := "example.com/signet-clock/signet-clock/zzlaws_root_b1.FnBitsOrdersAsTimes", spec := "fnBitsOrdersAsTimes", apart := false }
def FnBitsOrdersAsTimesSaid : Prop := fnBitsOrdersAsTimesRow.holds Try.pinned (OpenSpec.ofChange fnBitsOrdersAsTimesSpec)

/-- ITS FALSE NEIGHBOUR: 'it returns false'. Refute it at one input. -/
def fnBitsOrdersAsTimesWrong : ChangeSpec := { name := "fnBitsOrdersAsTimes", fn := fun _ => fun
  | [d1, d2] => { results := [.lit (.bool false)], args := [d1, d2] }
  | _ => none }
def FnBitsOrdersAsTimesWrongFalsely : Prop := fnBitsOrdersAsTimesRow.holds Try.pinned (OpenSpec.ofChange fnBitsOrdersAsTimesWrong)

/-- 'zzlaws_root_b1.FnTimestampFromBSONReadsFirstEightBytes': WHATEVER THE INPUT: true; the input reads as it did. -/
def fnTimestampFromBSONReadsFirstEightBytesSpec : ChangeSpec := { name := "fnTimestampFromBSONReadsFirstEightBytes", fn := fun _ => fun
  | [d] => { results := [.lit (.bool true)], args := [d] }
  | _ => none }
def fnTimestampFromBSONReadsFirstEightBytesRow : OpenClaim := { program := "qxb6614016a", sum := "165eabd8dc0efed6cbae918fee456b2c809fd2fa25d8ab4e672b53a929ea79a5", func := "example.com/signet-clock/signet-clock/zzlaws_root_b1.FnTimestampFromBSONReadsFirstEightBytes", spec := "fnTimestampFromBSONReadsFirstEightBytes", named := ["encoding/binary.LittleEndian"], apart := false }
def FnTimestampFromBSONReadsFirstEightBytesSaid : Prop := fnTimestampFromBSONReadsFirstEightBytesRow.holds Try.pinned (OpenSpec.ofChange fnTimestampFromBSONReadsFirstEightBytesSpec)

/-- ITS FALSE NEIGHBOUR: 'it returns false'. Refute it at one input. -/
def fnTimestampFromBSONReadsFirstEightBytesWrong : ChangeSpec := { name := "fnTimestampFromBSONReadsFirstEightBytes", fn := fun _ => fun
  | [d] => { results := [.lit (.bool false)], args := [d] }
  | _ => none }
def FnTimestampFromBSONReadsFirstEightBytesWrongFalsely : Prop := fnTimestampFromBSONReadsFirstEightBytesRow.holds Try.pinned (OpenSpec.ofChange fnTimestampFromBSONReadsFirstEightBytesWrong)

end Rows
end Go.Proofs.Qxb6614016a
