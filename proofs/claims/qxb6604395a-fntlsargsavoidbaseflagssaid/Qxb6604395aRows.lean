/-
  No cell of these rows narrows 'for every input' (looked for: loops, veiled, ifaces, maps, wideKeys, modest, calm, conditions, laid).
  DERIVED. THE GIVEN ROWS OF THIS SEAT. 3 by the template 'for every input the law returns true; each argument reads behind the call as it read before'; 0 by the template 'total and deterministic' (their statements: Qxb6604395aTotals.lean).
  GIVEN WITH THE SEED: the statements are not yours to turn. If you find one false, say at which input.
  Laid BY PROGRAM, IN A SANDBOX (cutbox-rows.mjs): the forced cells as the released guide's own fill.sh prints them over the translation 66d787eba0ccc677… (all of the seat's roots in one cut). By AI agents, Wed Nov 11 2026. No macro, syntax, notation, axiom, sorry.
-/
import Derived.Test.Qxb6604395aChecked
import GoSem.Claim
import GoSem.ClaimJoined
import GoSem.ClaimMapViews
import Derived.JoinedTies
import Derived.KernelRfl
namespace Go.Proofs.Qxb6604395a
/- THE CELL 'sum', in the pinned program and in every row, IS THE sha256 OF THE DUMP (.gsa) THAT Qxb6604395aProg.lean LOADS. Nothing in Lean hashes anything: it is a label: what it is worth is what the hold of that sum in a sandbox is worth. -/
noncomputable def Try.pinned : Pinned := { name := "qxb6604395a", sum := "66d787eba0ccc6779c7a070d11f63ef485ad17b9934e200810a1ed7812fa32af", checked := Try.checked }
namespace Rows
def none {H : Type} : Left H := { results := [], args := [] }

/-- 'zzlaws_internal_redisserver_b1.FnTLSArgsReadBackAsSettings': WHATEVER THE INPUT: true; the input reads as it did. -/
def fnTLSArgsReadBackAsSettingsSpec : ChangeSpec := { name := "fnTLSArgsReadBackAsSettings", fn := fun _ => fun
  | [d1, d2, d3] => { results := [.lit (.bool true)], args := [d1, d2, d3] }
  | _ => none }
def fnTLSArgsReadBackAsSettingsRow : OpenClaim := { program := "qxb6604395a", sum := "66d787eba0ccc6779c7a070d11f63ef485ad17b9934e200810a1ed7812fa32af", func := "example.com/berth/berth/zzlaws_internal_redisserver_b1.FnTLSArgsReadBackAsSettings", spec := "fnTLSArgsReadBackAsSettings", plainKeys := false, apart := false }
def FnTLSArgsReadBackAsSettingsSaid : Prop := fnTLSArgsReadBackAsSettingsRow.holds Try.pinned (OpenSpec.ofChange fnTLSArgsReadBackAsSettingsSpec)

/-- ITS FALSE NEIGHBOUR: 'it returns false'. Refute it at one input. -/
def fnTLSArgsReadBackAsSettingsWrong : ChangeSpec := { name := "fnTLSArgsReadBackAsSettings", fn := fun _ => fun
  | [d1, d2, d3] => { results := [.lit (.bool false)], args := [d1, d2, d3] }
  | _ => none }
def FnTLSArgsReadBackAsSettingsWrongFalsely : Prop := fnTLSArgsReadBackAsSettingsRow.holds Try.pinned (OpenSpec.ofChange fnTLSArgsReadBackAsSettingsWrong)

/-- 'zzlaws_internal_redisserver_b1.FnTLSArgsAvoidBaseFlags': WHATEVER THE INPUT: true; the input reads as it did. -/
def fnTLSArgsAvoidBaseFlagsSpec : ChangeSpec := { name := "fnTLSArgsAvoidBaseFlags", fn := fun _ => fun
  | [d1, d2, d3] => { results := [.lit (.bool true)], args := [d1, d2, d3] }
  | _ => none }
def fnTLSArgsAvoidBaseFlagsRow : OpenClaim := { program := "qxb6604395a", sum := "66d787eba0ccc6779c7a070d11f63ef485ad17b9934e200810a1ed7812fa32af", func := "example.com/berth/berth/zzlaws_internal_redisserver_b1.FnTLSArgsAvoidBaseFlags", spec := "fnTLSArgsAvoidBaseFlags", plainKeys := false, apart := false }
def FnTLSArgsAvoidBaseFlagsSaid : Prop := fnTLSArgsAvoidBaseFlagsRow.holds Try.pinned (OpenSpec.ofChange fnTLSArgsAvoidBaseFlagsSpec)

/-- ITS FALSE NEIGHBOUR: 'it returns false'. Refute it at one input. -/
def fnTLSArgsAvoidBaseFlagsWrong : ChangeSpec := { name := "fnTLSArgsAvoidBaseFlags", fn := fun _ => fun
  | [d1, d2, d3] => { results := [.lit (.bool false)], args := [d1, d2, d3] }
  | _ => none }
def FnTLSArgsAvoidBaseFlagsWrongFalsely : Prop := fnTLSArgsAvoidBaseFlagsRow.holds Try.pinned (OpenSpec.ofChange fnTLSArgsAvoidBaseFlagsWrong)

/-- 'zzlaws_internal_redisserver_b1.FnTLSArgsPortMovesOneValue': WHATEVER THE INPUT: true; the input reads as it did. -/
def fnTLSArgsPortMovesOneValueSpec : ChangeSpec := { name := "fnTLSArgsPortMovesOneValue", fn := fun _ => fun
  | [d1, d2, d3, d4] => { results := [.lit (.bool true)], args := [d1, d2, d3, d4] }
  | _ => none }
def fnTLSArgsPortMovesOneValueRow : OpenClaim := { program := "qxb6604395a", sum := "66d787eba0ccc6779c7a070d11f63ef485ad17b9934e200810a1ed7812fa32af", func := "example.com/berth/berth/zzlaws_internal_redisserver_b1.FnTLSArgsPortMovesOneValue", spec := "fnTLSArgsPortMovesOneValue", plainKeys := false, apart := false }
def FnTLSArgsPortMovesOneValueSaid : Prop := fnTLSArgsPortMovesOneValueRow.holds Try.pinned (OpenSpec.ofChange fnTLSArgsPortMovesOneValueSpec)

/-- ITS FALSE NEIGHBOUR: 'it returns false'. Refute it at one input. -/
def fnTLSArgsPortMovesOneValueWrong : ChangeSpec := { name := "fnTLSArgsPortMovesOneValue", fn := fun _ => fun
  | [d1, d2, d3, d4] => { results := [.lit (.bool false)], args := [d1, d2, d3, d4] }
  | _ => none }
def FnTLSArgsPortMovesOneValueWrongFalsely : Prop := fnTLSArgsPortMovesOneValueRow.holds Try.pinned (OpenSpec.ofChange fnTLSArgsPortMovesOneValueWrong)

end Rows
end Go.Proofs.Qxb6604395a
