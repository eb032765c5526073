/-
  No cell of these rows narrows 'for every input' (looked for: loops, veiled, ifaces, maps, wideKeys, modest, calm, conditions, laid).
  DERIVED. THE GIVEN ROWS OF THIS SEAT. 6 by the template 'for every input the law returns true; each argument reads behind the call as it read before'; 0 by the template 'total and deterministic' (their statements: Qxb6602232aTotals.lean).
  GIVEN WITH THE SEED: the statements are not yours to turn. If you find one false, say at which input.
  Laid BY PROGRAM, IN A SANDBOX (cutbox-rows.mjs): the forced cells as the released guide's own fill.sh prints them over the translation 08e84eb0a3e43472… (all of the seat's roots in one cut). By AI agents, Wed Nov 11 2026. No macro, syntax, notation, axiom, sorry.
-/
import Derived.Test.Qxb6602232aChecked
import GoSem.Claim
import GoSem.ClaimJoined
import GoSem.ClaimMapViews
import Derived.JoinedTies
import Derived.KernelRfl
namespace Go.Proofs.Qxb6602232a
/- THE CELL 'sum', in the pinned program and in every row, IS THE sha256 OF THE DUMP (.gsa) THAT Qxb6602232aProg.lean LOADS. Nothing in Lean hashes anything: it is a label: what it is worth is what the hold of that sum in a sandbox is worth. -/
noncomputable def Try.pinned : Pinned := { name := "qxb6602232a", sum := "08e84eb0a3e434727b7e75d9693878cc96d27170639a9caf985dc02d124321c0", checked := Try.checked }
namespace Rows
def none {H : Type} : Left H := { results := [], args := [] }

/-- 'zzlaws_root_b1.FnHex4Spec': WHATEVER THE INPUT: true; the input reads as it did. -/
def fnHex4SpecSpec : ChangeSpec := { name := "fnHex4Spec", fn := fun _ => fun
  | [d] => { results := [.lit (.bool true)], args := [d] }
  | _ => none }
def fnHex4SpecRow : OpenClaim := { program := "qxb6602232a", sum := "08e84eb0a3e434727b7e75d9693878cc96d27170639a9caf985dc02d124321c0", func := "example.com/interlace/interlace/zzlaws_root_b1.FnHex4Spec", spec := "fnHex4Spec", apart := false }
def FnHex4SpecSaid : Prop := fnHex4SpecRow.holds Try.pinned (OpenSpec.ofChange fnHex4SpecSpec)

/-- ITS FALSE NEIGHBOUR: 'it returns false'. Refute it at one input. -/
def fnHex4SpecWrong : ChangeSpec := { name := "fnHex4Spec", fn := fun _ => fun
  | [d] => { results := [.lit (.bool false)], args := [d] }
  | _ => none }
def FnHex4SpecWrongFalsely : Prop := fnHex4SpecRow.holds Try.pinned (OpenSpec.ofChange fnHex4SpecWrong)

/-- 'zzlaws_root_b1.FnHex4RoundTrip': WHATEVER THE INPUT: true; the input reads as it did. -/
def fnHex4RoundTripSpec : ChangeSpec := { name := "fnHex4RoundTrip", fn := fun _ => fun
  | [d1, d2, d3] => { results := [.lit (.bool true)], args := [d1, d2, d3] }
  | _ => none }
def fnHex4RoundTripRow : OpenClaim := { program := "qxb6602232a", sum := "08e84eb0a3e434727b7e75d9693878cc96d27170639a9caf985dc02d124321c0", func := "example.com/interlace/interlace/zzlaws_root_b1.FnHex4RoundTrip", spec := "fnHex4RoundTrip", apart := false }
def FnHex4RoundTripSaid : Prop := fnHex4RoundTripRow.holds Try.pinned (OpenSpec.ofChange fnHex4RoundTripSpec)

/-- ITS FALSE NEIGHBOUR: 'it returns false'. Refute it at one input. -/
def fnHex4RoundTripWrong : ChangeSpec := { name := "fnHex4RoundTrip", fn := fun _ => fun
  | [d1, d2, d3] => { results := [.lit (.bool false)], args := [d1, d2, d3] }
  | _ => none }
def FnHex4RoundTripWrongFalsely : Prop := fnHex4RoundTripRow.holds Try.pinned (OpenSpec.ofChange fnHex4RoundTripWrong)

/-- 'zzlaws_root_b1.FnAppendPlainSpec': WHATEVER THE INPUT: true; the input reads as it did. -/
def fnAppendPlainSpecSpec : ChangeSpec := { name := "fnAppendPlainSpec", fn := fun _ => fun
  | [d1, d2, d3, d4] => { results := [.lit (.bool true)], args := [d1, d2, d3, d4] }
  | _ => none }
def fnAppendPlainSpecRow : OpenClaim := { program := "qxb6602232a", sum := "08e84eb0a3e434727b7e75d9693878cc96d27170639a9caf985dc02d124321c0", func := "example.com/interlace/interlace/zzlaws_root_b1.FnAppendPlainSpec", spec := "fnAppendPlainSpec", apart := false }
def FnAppendPlainSpecSaid : Prop := fnAppendPlainSpecRow.holds Try.pinned (OpenSpec.ofChange fnAppendPlainSpecSpec)

/-- ITS FALSE NEIGHBOUR: 'it returns false'. Refute it at one input. -/
def fnAppendPlainSpecWrong : ChangeSpec := { name := "fnAppendPlainSpec", fn := fun _ => fun
  | [d1, d2, d3, d4] => { results := [.lit (.bool false)], args := [d1, d2, d3, d4] }
  | _ => none }
def FnAppendPlainSpecWrongFalsely : Prop := fnAppendPlainSpecRow.holds Try.pinned (OpenSpec.ofChange fnAppendPlainSpecWrong)

/-- 'zzlaws_root_b1.FnAppendPlainParsesBack': WHATEVER THE INPUT: true; the input reads as it did. -/
def fnAppendPlainParsesBackSpec : ChangeSpec := { name := "fnAppendPlainParsesBack", fn := fun _ => fun
  | [d1, d2, d3] => { results := [.lit (.bool true)], args := [d1, d2, d3] }
  | _ => none }
def fnAppendPlainParsesBackRow : OpenClaim := { program := "qxb6602232a", sum := "08e84eb0a3e434727b7e75d9693878cc96d27170639a9caf985dc02d124321c0", func := "example.com/interlace/interlace/zzlaws_root_b1.FnAppendPlainParsesBack", spec := "fnAppendPlainParsesBack", apart := false }
def FnAppendPlainParsesBackSaid : Prop := fnAppendPlainParsesBackRow.holds Try.pinned (OpenSpec.ofChange fnAppendPlainParsesBackSpec)

/-- ITS FALSE NEIGHBOUR: 'it returns false'. Refute it at one input. -/
def fnAppendPlainParsesBackWrong : ChangeSpec := { name := "fnAppendPlainParsesBack", fn := fun _ => fun
  | [d1, d2, d3] => { results := [.lit (.bool false)], args := [d1, d2, d3] }
  | _ => none }
def FnAppendPlainParsesBackWrongFalsely : Prop := fnAppendPlainParsesBackRow.holds Try.pinned (OpenSpec.ofChange fnAppendPlainParsesBackWrong)

/-- 'zzlaws_root_b1.FnPlainLenClosedForm': WHATEVER THE INPUT: true; the input reads as it did. -/
def fnPlainLenClosedFormSpec : ChangeSpec := { name := "fnPlainLenClosedForm", fn := fun _ => fun
  | [d1, d2, d3] => { results := [.lit (.bool true)], args := [d1, d2, d3] }
  | _ => none }
def fnPlainLenClosedFormRow : OpenClaim := { program := "qxb6602232a", sum := "08e84eb0a3e434727b7e75d9693878cc96d27170639a9caf985dc02d124321c0", func := "example.com/interlace/interlace/zzlaws_root_b1.FnPlainLenClosedForm", spec := "fnPlainLenClosedForm", apart := false }
def FnPlainLenClosedFormSaid : Prop := fnPlainLenClosedFormRow.holds Try.pinned (OpenSpec.ofChange fnPlainLenClosedFormSpec)

/-- ITS FALSE NEIGHBOUR: 'it returns false'. Refute it at one input. -/
def fnPlainLenClosedFormWrong : ChangeSpec := { name := "fnPlainLenClosedForm", fn := fun _ => fun
  | [d1, d2, d3] => { results := [.lit (.bool false)], args := [d1, d2, d3] }
  | _ => none }
def FnPlainLenClosedFormWrongFalsely : Prop := fnPlainLenClosedFormRow.holds Try.pinned (OpenSpec.ofChange fnPlainLenClosedFormWrong)

/-- 'zzlaws_root_b1.FnPlainLenMatchesAppendPlain': WHATEVER THE INPUT: true; the input reads as it did. -/
def fnPlainLenMatchesAppendPlainSpec : ChangeSpec := { name := "fnPlainLenMatchesAppendPlain", fn := fun _ => fun
  | [d1, d2, d3] => { results := [.lit (.bool true)], args := [d1, d2, d3] }
  | _ => none }
def fnPlainLenMatchesAppendPlainRow : OpenClaim := { program := "qxb6602232a", sum := "08e84eb0a3e434727b7e75d9693878cc96d27170639a9caf985dc02d124321c0", func := "example.com/interlace/interlace/zzlaws_root_b1.FnPlainLenMatchesAppendPlain", spec := "fnPlainLenMatchesAppendPlain", apart := false }
def FnPlainLenMatchesAppendPlainSaid : Prop := fnPlainLenMatchesAppendPlainRow.holds Try.pinned (OpenSpec.ofChange fnPlainLenMatchesAppendPlainSpec)

/-- ITS FALSE NEIGHBOUR: 'it returns false'. Refute it at one input. -/
def fnPlainLenMatchesAppendPlainWrong : ChangeSpec := { name := "fnPlainLenMatchesAppendPlain", fn := fun _ => fun
  | [d1, d2, d3] => { results := [.lit (.bool false)], args := [d1, d2, d3] }
  | _ => none }
def FnPlainLenMatchesAppendPlainWrongFalsely : Prop := fnPlainLenMatchesAppendPlainRow.holds Try.pinned (OpenSpec.ofChange fnPlainLenMatchesAppendPlainWrong)

end Rows
end Go.Proofs.Qxb6602232a
