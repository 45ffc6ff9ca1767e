/-
  No cell of these rows narrows 'for every input' (looked for: loops, veiled, ifaces, maps, wideKeys, modest, calm, conditions, laid).
  DERIVED. THE GIVEN ROWS OF THIS SEAT. 3 by the template 'for every input the law returns true; each argument reads behind the call as it read before'; 0 by the template 'total and deterministic' (their statements: Qxb6600747aTotals.lean).
  GIVEN WITH THE SEED: the statements are not yours to turn. If you find one false, say at which input.
  Laid BY PROGRAM, IN A SANDBOX (cutbox-rows.mjs): the forced cells as the released guide's own fill.sh prints them over the translation e5d77321ae8b83b9… (all of the seat's roots in one cut). By AI agents, Wed Nov 11 2026. No macro, syntax, notation, axiom, sorry.
-/
import Derived.Test.Qxb6600747aChecked
import GoSem.Claim
import GoSem.ClaimJoined
import GoSem.ClaimMapViews
import Derived.JoinedTies
import Derived.KernelRfl
namespace Go.Proofs.Qxb6600747a
/- THE CELL 'sum', in the pinned program and in every row, IS THE sha256 OF THE DUMP (.gsa) THAT Qxb6600747aProg.lean LOADS. Nothing in Lean hashes anything: it is a label: what it is worth is what the hold of that sum in a sandbox is worth. -/
noncomputable def Try.pinned : Pinned := { name := "qxb6600747a", sum := "e5d77321ae8b83b9fe211e6078ec65443cbfbb1870edfd97425865d747ccd083", checked := Try.checked }
namespace Rows
def none {H : Type} : Left H := { results := [], args := [] }

/-- 'zzlaws_root_b1.FnEscapeSPCDecodesExactly': WHATEVER THE INPUT: true; the input reads as it did. -/
def fnEscapeSPCDecodesExactlySpec : ChangeSpec := { name := "fnEscapeSPCDecodesExactly", fn := fun _ => fun
  | [d] => { results := [.lit (.bool true)], args := [d] }
  | _ => none }
def fnEscapeSPCDecodesExactlyRow : OpenClaim := { program := "qxb6600747a", sum := "e5d77321ae8b83b9fe211e6078ec65443cbfbb1870edfd97425865d747ccd083", func := "example.com/numberseal/numberseal/zzlaws_root_b1.FnEscapeSPCDecodesExactly", spec := "fnEscapeSPCDecodesExactly", inPlace := ["internal/abi.NoEscape", "internal/bytealg.MakeNoZero"], apart := false }
def FnEscapeSPCDecodesExactlySaid : Prop := fnEscapeSPCDecodesExactlyRow.holds Try.pinned (OpenSpec.ofChange fnEscapeSPCDecodesExactlySpec)

/-- ITS FALSE NEIGHBOUR: 'it returns false'. Refute it at one input. -/
def fnEscapeSPCDecodesExactlyWrong : ChangeSpec := { name := "fnEscapeSPCDecodesExactly", fn := fun _ => fun
  | [d] => { results := [.lit (.bool false)], args := [d] }
  | _ => none }
def FnEscapeSPCDecodesExactlyWrongFalsely : Prop := fnEscapeSPCDecodesExactlyRow.holds Try.pinned (OpenSpec.ofChange fnEscapeSPCDecodesExactlyWrong)

/-- 'zzlaws_root_b1.FnEscapeSPCConcatenates': WHATEVER THE INPUT: true; the input reads as it did. -/
def fnEscapeSPCConcatenatesSpec : ChangeSpec := { name := "fnEscapeSPCConcatenates", fn := fun _ => fun
  | [d1, d2] => { results := [.lit (.bool true)], args := [d1, d2] }
  | _ => none }
def fnEscapeSPCConcatenatesRow : OpenClaim := { program := "qxb6600747a", sum := "e5d77321ae8b83b9fe211e6078ec65443cbfbb1870edfd97425865d747ccd083", func := "example.com/numberseal/numberseal/zzlaws_root_b1.FnEscapeSPCConcatenates", spec := "fnEscapeSPCConcatenates", inPlace := ["internal/abi.NoEscape", "internal/bytealg.MakeNoZero"], apart := false }
def FnEscapeSPCConcatenatesSaid : Prop := fnEscapeSPCConcatenatesRow.holds Try.pinned (OpenSpec.ofChange fnEscapeSPCConcatenatesSpec)

/-- ITS FALSE NEIGHBOUR: 'it returns false'. Refute it at one input. -/
def fnEscapeSPCConcatenatesWrong : ChangeSpec := { name := "fnEscapeSPCConcatenates", fn := fun _ => fun
  | [d1, d2] => { results := [.lit (.bool false)], args := [d1, d2] }
  | _ => none }
def FnEscapeSPCConcatenatesWrongFalsely : Prop := fnEscapeSPCConcatenatesRow.holds Try.pinned (OpenSpec.ofChange fnEscapeSPCConcatenatesWrong)

/-- 'zzlaws_root_b1.FnEscapeSPCInjective': WHATEVER THE INPUT: true; the input reads as it did. -/
def fnEscapeSPCInjectiveSpec : ChangeSpec := { name := "fnEscapeSPCInjective", fn := fun _ => fun
  | [d1, d2] => { results := [.lit (.bool true)], args := [d1, d2] }
  | _ => none }
def fnEscapeSPCInjectiveRow : OpenClaim := { program := "qxb6600747a", sum := "e5d77321ae8b83b9fe211e6078ec65443cbfbb1870edfd97425865d747ccd083", func := "example.com/numberseal/numberseal/zzlaws_root_b1.FnEscapeSPCInjective", spec := "fnEscapeSPCInjective", inPlace := ["internal/abi.NoEscape", "internal/bytealg.MakeNoZero"], apart := false }
def FnEscapeSPCInjectiveSaid : Prop := fnEscapeSPCInjectiveRow.holds Try.pinned (OpenSpec.ofChange fnEscapeSPCInjectiveSpec)

/-- ITS FALSE NEIGHBOUR: 'it returns false'. Refute it at one input. -/
def fnEscapeSPCInjectiveWrong : ChangeSpec := { name := "fnEscapeSPCInjective", fn := fun _ => fun
  | [d1, d2] => { results := [.lit (.bool false)], args := [d1, d2] }
  | _ => none }
def FnEscapeSPCInjectiveWrongFalsely : Prop := fnEscapeSPCInjectiveRow.holds Try.pinned (OpenSpec.ofChange fnEscapeSPCInjectiveWrong)

end Rows
end Go.Proofs.Qxb6600747a
