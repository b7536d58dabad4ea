/-
  No cell of these rows narrows 'for every input' (looked for: loops, veiled, ifaces, maps, wideKeys, modest, calm, conditions, laid).
  DERIVED. THE GIVEN ROWS OF THIS SEAT. 3 by the template 'for every input the law returns true; each argument reads behind the call as it read before'; 0 by the template 'total and deterministic' (their statements: Qxb6605722aTotals.lean).
  GIVEN WITH THE SEED: the statements are not yours to turn. If you find one false, say at which input.
  Laid BY PROGRAM, IN A SANDBOX (cutbox-rows.mjs): the forced cells as the released guide's own fill.sh prints them over the translation 129c2dd1a3ba8b2b… (all of the seat's roots in one cut). By AI agents, Wed Nov 11 2026. No macro, syntax, notation, axiom, sorry.
-/
import Derived.Test.Qxb6605722aChecked
import GoSem.Claim
import GoSem.ClaimJoined
import GoSem.ClaimMapViews
import Derived.JoinedTies
import Derived.KernelRfl
namespace Go.Proofs.Qxb6605722a
/- THE CELL 'sum', in the pinned program and in every row, IS THE sha256 OF THE DUMP (.gsa) THAT Qxb6605722aProg.lean LOADS. Nothing in Lean hashes anything: it is a label: what it is worth is what the hold of that sum in a sandbox is worth. -/
noncomputable def Try.pinned : Pinned := { name := "qxb6605722a", sum := "129c2dd1a3ba8b2b2eee057a69e759bd691721afcd8623d1cb2d7c05b8a9108b", checked := Try.checked }
namespace Rows
def none {H : Type} : Left H := { results := [], args := [] }

/-- 'zzlaws_api_b1.FnIsNameCharIsASCIIIdentifierByte': WHATEVER THE INPUT: true; the input reads as it did. -/
def fnIsNameCharIsASCIIIdentifierByteSpec : ChangeSpec := { name := "fnIsNameCharIsASCIIIdentifierByte", fn := fun _ => fun
  | [d] => { results := [.lit (.bool true)], args := [d] }
  | _ => none }
def fnIsNameCharIsASCIIIdentifierByteRow : OpenClaim := { program := "qxb6605722a", sum := "129c2dd1a3ba8b2b2eee057a69e759bd691721afcd8623d1cb2d7c05b8a9108b", func := "example.com/holdfast/holdfast/zzlaws_api_b1.FnIsNameCharIsASCIIIdentifierByte", spec := "fnIsNameCharIsASCIIIdentifierByte", apart := false }
def FnIsNameCharIsASCIIIdentifierByteSaid : Prop := fnIsNameCharIsASCIIIdentifierByteRow.holds Try.pinned (OpenSpec.ofChange fnIsNameCharIsASCIIIdentifierByteSpec)

/-- ITS FALSE NEIGHBOUR: 'it returns false'. Refute it at one input. -/
def fnIsNameCharIsASCIIIdentifierByteWrong : ChangeSpec := { name := "fnIsNameCharIsASCIIIdentifierByte", fn := fun _ => fun
  | [d] => { results := [.lit (.bool false)], args := [d] }
  | _ => none }
def FnIsNameCharIsASCIIIdentifierByteWrongFalsely : Prop := fnIsNameCharIsASCIIIdentifierByteRow.holds Try.pinned (OpenSpec.ofChange fnIsNameCharIsASCIIIdentifierByteWrong)

/-- 'zzlaws_api_b1.FnIsNameCharWindowCount': WHATEVER THE INPUT: true; the input reads as it did. -/
def fnIsNameCharWindowCountSpec : ChangeSpec := { name := "fnIsNameCharWindowCount", fn := fun _ => fun
  | [d] => { results := [.lit (.bool true)], args := [d] }
  | _ => none }
def fnIsNameCharWindowCountRow : OpenClaim := { program := "qxb6605722a", sum := "129c2dd1a3ba8b2b2eee057a69e759bd691721afcd8623d1cb2d7c05b8a9108b", func := "example.com/holdfast/holdfast/zzlaws_api_b1.FnIsNameCharWindowCount", spec := "fnIsNameCharWindowCount", apart := false }
def FnIsNameCharWindowCountSaid : Prop := fnIsNameCharWindowCountRow.holds Try.pinned (OpenSpec.ofChange fnIsNameCharWindowCountSpec)

/-- ITS FALSE NEIGHBOUR: 'it returns false'. Refute it at one input. -/
def fnIsNameCharWindowCountWrong : ChangeSpec := { name := "fnIsNameCharWindowCount", fn := fun _ => fun
  | [d] => { results := [.lit (.bool false)], args := [d] }
  | _ => none }
def FnIsNameCharWindowCountWrongFalsely : Prop := fnIsNameCharWindowCountRow.holds Try.pinned (OpenSpec.ofChange fnIsNameCharWindowCountWrong)

/-- 'zzlaws_api_b1.FnFingerprintIsSHA256OfRaw': WHATEVER THE INPUT: true; the input reads as it did. -/
def fnFingerprintIsSHA256OfRawSpec : ChangeSpec := { name := "fnFingerprintIsSHA256OfRaw", fn := fun _ => fun
  | [d] => { results := [.lit (.bool true)], args := [d] }
  | _ => none }
def fnFingerprintIsSHA256OfRawRow : OpenClaim := { program := "qxb6605722a", sum := "129c2dd1a3ba8b2b2eee057a69e759bd691721afcd8623d1cb2d7c05b8a9108b", func := "example.com/holdfast/holdfast/zzlaws_api_b1.FnFingerprintIsSHA256OfRaw", spec := "fnFingerprintIsSHA256OfRaw", unfollowed := true, recurses := true, apart := false }
def FnFingerprintIsSHA256OfRawSaid : Prop := fnFingerprintIsSHA256OfRawRow.holds Try.pinned (OpenSpec.ofChange fnFingerprintIsSHA256OfRawSpec)

/-- ITS FALSE NEIGHBOUR: 'it returns false'. Refute it at one input. -/
def fnFingerprintIsSHA256OfRawWrong : ChangeSpec := { name := "fnFingerprintIsSHA256OfRaw", fn := fun _ => fun
  | [d] => { results := [.lit (.bool false)], args := [d] }
  | _ => none }
def FnFingerprintIsSHA256OfRawWrongFalsely : Prop := fnFingerprintIsSHA256OfRawRow.holds Try.pinned (OpenSpec.ofChange fnFingerprintIsSHA256OfRawWrong)

end Rows
end Go.Proofs.Qxb6605722a
