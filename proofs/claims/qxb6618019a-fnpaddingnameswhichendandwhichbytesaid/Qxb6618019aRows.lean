/-
  No cell of these rows narrows 'for every input' (looked for: loops, veiled, ifaces, maps, wideKeys, modest, calm, conditions, laid).
  DERIVED. THE GIVEN ROWS OF THIS SEAT. 3 by the template 'for every input the law returns true; each argument reads behind the call as it read before'; 0 by the template 'total and deterministic' (their statements: Qxb6618019aTotals.lean).
  GIVEN WITH THE SEED: the statements are not yours to turn. If you find one false, say at which input.
  Laid BY PROGRAM, IN A SANDBOX (cutbox-rows.mjs): the forced cells as the released guide's own fill.sh prints them over the translation 90f237a1ce2ea170… (all of the seat's roots in one cut). By AI agents, Wed Nov 11 2026. No macro, syntax, notation, axiom, sorry.
-/
import Derived.Test.Qxb6618019aChecked
import GoSem.Claim
import GoSem.ClaimJoined
import GoSem.ClaimMapViews
import Derived.JoinedTies
import Derived.KernelRfl
namespace Go.Proofs.Qxb6618019a
/- THE CELL 'sum', in the pinned program and in every row, IS THE sha256 OF THE DUMP (.gsa) THAT Qxb6618019aProg.lean LOADS. Nothing in Lean hashes anything: it is a label: what it is worth is what the hold of that sum in a sandbox is worth. -/
noncomputable def Try.pinned : Pinned := { name := "qxb6618019a", sum := "90f237a1ce2ea170ba8840c61a3cfcf4725e8a932ba29b4574a028f2bf269738", checked := Try.checked }
namespace Rows
def none {H : Type} : Left H := { results := [], args := [] }

/-- 'zzlaws_pkg_table_b1.FnPaddingAtAnyCut': WHATEVER THE INPUT: true; the input reads as it did. -/
def fnPaddingAtAnyCutSpec : ChangeSpec := { name := "fnPaddingAtAnyCut", fn := fun _ => fun
  | [d1, d2] => { results := [.lit (.bool true)], args := [d1, d2] }
  | _ => none }
def fnPaddingAtAnyCutRow : OpenClaim := { program := "qxb6618019a", sum := "90f237a1ce2ea170ba8840c61a3cfcf4725e8a932ba29b4574a028f2bf269738", func := "example.com/zhaomu/zhaomu/zzlaws_pkg_table_b1.FnPaddingAtAnyCut", spec := "fnPaddingAtAnyCut", apart := false }
def FnPaddingAtAnyCutSaid : Prop := fnPaddingAtAnyCutRow.holds Try.pinned (OpenSpec.ofChange fnPaddingAtAnyCutSpec)

/-- ITS FALSE NEIGHBOUR: 'it returns false'. Refute it at one input. -/
def fnPaddingAtAnyCutWrong : ChangeSpec := { name := "fnPaddingAtAnyCut", fn := fun _ => fun
  | [d1, d2] => { results := [.lit (.bool false)], args := [d1, d2] }
  | _ => none }
def FnPaddingAtAnyCutWrongFalsely : Prop := fnPaddingAtAnyCutRow.holds Try.pinned (OpenSpec.ofChange fnPaddingAtAnyCutWrong)

/-- 'zzlaws_pkg_table_b1.FnPaddingNamesWhichEndAndWhichByte': WHATEVER THE INPUT: true; the input reads as it did. -/
def fnPaddingNamesWhichEndAndWhichByteSpec : ChangeSpec := { name := "fnPaddingNamesWhichEndAndWhichByte", fn := fun _ => fun
  | [d] => { results := [.lit (.bool true)], args := [d] }
  | _ => none }
def fnPaddingNamesWhichEndAndWhichByteRow : OpenClaim := { program := "qxb6618019a", sum := "90f237a1ce2ea170ba8840c61a3cfcf4725e8a932ba29b4574a028f2bf269738", func := "example.com/zhaomu/zhaomu/zzlaws_pkg_table_b1.FnPaddingNamesWhichEndAndWhichByte", spec := "fnPaddingNamesWhichEndAndWhichByte", apart := false }
def FnPaddingNamesWhichEndAndWhichByteSaid : Prop := fnPaddingNamesWhichEndAndWhichByteRow.holds Try.pinned (OpenSpec.ofChange fnPaddingNamesWhichEndAndWhichByteSpec)

/-- ITS FALSE NEIGHBOUR: 'it returns false'. Refute it at one input. -/
def fnPaddingNamesWhichEndAndWhichByteWrong : ChangeSpec := { name := "fnPaddingNamesWhichEndAndWhichByte", fn := fun _ => fun
  | [d] => { results := [.lit (.bool false)], args := [d] }
  | _ => none }
def FnPaddingNamesWhichEndAndWhichByteWrongFalsely : Prop := fnPaddingNamesWhichEndAndWhichByteRow.holds Try.pinned (OpenSpec.ofChange fnPaddingNamesWhichEndAndWhichByteWrong)

/-- 'zzlaws_pkg_table_b1.FnMoreRoomCoversTheRestAndGrowsWithTheFile': WHATEVER THE INPUT: true; the input reads as it did. -/
def fnMoreRoomCoversTheRestAndGrowsWithTheFileSpec : ChangeSpec := { name := "fnMoreRoomCoversTheRestAndGrowsWithTheFile", fn := fun _ => fun
  | [d1, d2, d3, d4] => { results := [.lit (.bool true)], args := [d1, d2, d3, d4] }
  | _ => none }
def fnMoreRoomCoversTheRestAndGrowsWithTheFileRow : OpenClaim := { program := "qxb6618019a", sum := "90f237a1ce2ea170ba8840c61a3cfcf4725e8a932ba29b4574a028f2bf269738", func := "example.com/zhaomu/zhaomu/zzlaws_pkg_table_b1.FnMoreRoomCoversTheRestAndGrowsWithTheFile", spec := "fnMoreRoomCoversTheRestAndGrowsWithTheFile", apart := false }
def FnMoreRoomCoversTheRestAndGrowsWithTheFileSaid : Prop := fnMoreRoomCoversTheRestAndGrowsWithTheFileRow.holds Try.pinned (OpenSpec.ofChange fnMoreRoomCoversTheRestAndGrowsWithTheFileSpec)

/-- ITS FALSE NEIGHBOUR: 'it returns false'. Refute it at one input. -/
def fnMoreRoomCoversTheRestAndGrowsWithTheFileWrong : ChangeSpec := { name := "fnMoreRoomCoversTheRestAndGrowsWithTheFile", fn := fun _ => fun
  | [d1, d2, d3, d4] => { results := [.lit (.bool false)], args := [d1, d2, d3, d4] }
  | _ => none }
def FnMoreRoomCoversTheRestAndGrowsWithTheFileWrongFalsely : Prop := fnMoreRoomCoversTheRestAndGrowsWithTheFileRow.holds Try.pinned (OpenSpec.ofChange fnMoreRoomCoversTheRestAndGrowsWithTheFileWrong)

end Rows
end Go.Proofs.Qxb6618019a
