/-
  No cell of these rows narrows 'for every input' (looked for: loops, veiled, ifaces, maps, wideKeys, modest, calm, conditions, laid).
  DERIVED. THE GIVEN ROWS OF THIS SEAT. 4 by the template 'for every input the law returns true; each argument reads behind the call as it read before'; 0 by the template 'total and deterministic' (their statements: Qxb6605290aTotals.lean).
  GIVEN WITH THE SEED: the statements are not yours to turn. If you find one false, say at which input.
  Laid BY PROGRAM, IN A SANDBOX (cutbox-rows.mjs): the forced cells as the released guide's own fill.sh prints them over the translation 9e8531738671e73f… (all of the seat's roots in one cut). By AI agents, Wed Nov 11 2026. No macro, syntax, notation, axiom, sorry.
-/
import Derived.Test.Qxb6605290aChecked
import GoSem.Claim
import GoSem.ClaimJoined
import GoSem.ClaimMapViews
import Derived.JoinedTies
import Derived.KernelRfl
namespace Go.Proofs.Qxb6605290a
/- THE CELL 'sum', in the pinned program and in every row, IS THE sha256 OF THE DUMP (.gsa) THAT Qxb6605290aProg.lean LOADS. Nothing in Lean hashes anything: it is a label: what it is worth is what the hold of that sum in a sandbox is worth. -/
noncomputable def Try.pinned : Pinned := { name := "qxb6605290a", sum := "9e8531738671e73f943023332d0f92c26cb6064d0ff5b6b0143cd8dfad7c6d41", checked := Try.checked }
namespace Rows
def none {H : Type} : Left H := { results := [], args := [] }

/-- 'zzlaws_internal_sqlparse_b1.FnEscapeBreaksMatchesBackslashParity': WHATEVER THE INPUT: true; the input reads as it did. -/
def fnEscapeBreaksMatchesBackslashParitySpec : ChangeSpec := { name := "fnEscapeBreaksMatchesBackslashParity", fn := fun _ => fun
  | [d] => { results := [.lit (.bool true)], args := [d] }
  | _ => none }
def fnEscapeBreaksMatchesBackslashParityRow : OpenClaim := { program := "qxb6605290a", sum := "9e8531738671e73f943023332d0f92c26cb6064d0ff5b6b0143cd8dfad7c6d41", func := "example.com/nextkey/nextkey/zzlaws_internal_sqlparse_b1.FnEscapeBreaksMatchesBackslashParity", spec := "fnEscapeBreaksMatchesBackslashParity", inPlace := ["internal/bytealg.IndexByteString", "internal/bytealg.IndexString", "internal/abi.NoEscape", "internal/bytealg.MakeNoZero"], named := ["internal/bytealg.MaxLen"], apart := false }
def FnEscapeBreaksMatchesBackslashParitySaid : Prop := fnEscapeBreaksMatchesBackslashParityRow.holds Try.pinned (OpenSpec.ofChange fnEscapeBreaksMatchesBackslashParitySpec)

/-- ITS FALSE NEIGHBOUR: 'it returns false'. Refute it at one input. -/
def fnEscapeBreaksMatchesBackslashParityWrong : ChangeSpec := { name := "fnEscapeBreaksMatchesBackslashParity", fn := fun _ => fun
  | [d] => { results := [.lit (.bool false)], args := [d] }
  | _ => none }
def FnEscapeBreaksMatchesBackslashParityWrongFalsely : Prop := fnEscapeBreaksMatchesBackslashParityRow.holds Try.pinned (OpenSpec.ofChange fnEscapeBreaksMatchesBackslashParityWrong)

/-- 'zzlaws_internal_sqlparse_b1.FnEscapeBreaksReadsBack': WHATEVER THE INPUT: true; the input reads as it did. -/
def fnEscapeBreaksReadsBackSpec : ChangeSpec := { name := "fnEscapeBreaksReadsBack", fn := fun _ => fun
  | [d] => { results := [.lit (.bool true)], args := [d] }
  | _ => none }
def fnEscapeBreaksReadsBackRow : OpenClaim := { program := "qxb6605290a", sum := "9e8531738671e73f943023332d0f92c26cb6064d0ff5b6b0143cd8dfad7c6d41", func := "example.com/nextkey/nextkey/zzlaws_internal_sqlparse_b1.FnEscapeBreaksReadsBack", spec := "fnEscapeBreaksReadsBack", inPlace := ["internal/bytealg.IndexByteString", "internal/bytealg.IndexString", "internal/abi.NoEscape", "internal/bytealg.MakeNoZero"], named := ["internal/bytealg.MaxLen"], apart := false }
def FnEscapeBreaksReadsBackSaid : Prop := fnEscapeBreaksReadsBackRow.holds Try.pinned (OpenSpec.ofChange fnEscapeBreaksReadsBackSpec)

/-- ITS FALSE NEIGHBOUR: 'it returns false'. Refute it at one input. -/
def fnEscapeBreaksReadsBackWrong : ChangeSpec := { name := "fnEscapeBreaksReadsBack", fn := fun _ => fun
  | [d] => { results := [.lit (.bool false)], args := [d] }
  | _ => none }
def FnEscapeBreaksReadsBackWrongFalsely : Prop := fnEscapeBreaksReadsBackRow.holds Try.pinned (OpenSpec.ofChange fnEscapeBreaksReadsBackWrong)

/-- 'zzlaws_internal_sqlparse_b1.FnUnquoteReadsFirstTokenThenRest': WHATEVER THE INPUT: true; the input reads as it did. -/
def fnUnquoteReadsFirstTokenThenRestSpec : ChangeSpec := { name := "fnUnquoteReadsFirstTokenThenRest", fn := fun _ => fun
  | [d1, d2, d3] => { results := [.lit (.bool true)], args := [d1, d2, d3] }
  | _ => none }
def fnUnquoteReadsFirstTokenThenRestRow : OpenClaim := { program := "qxb6605290a", sum := "9e8531738671e73f943023332d0f92c26cb6064d0ff5b6b0143cd8dfad7c6d41", func := "example.com/nextkey/nextkey/zzlaws_internal_sqlparse_b1.FnUnquoteReadsFirstTokenThenRest", spec := "fnUnquoteReadsFirstTokenThenRest", inPlace := ["internal/bytealg.IndexByteString", "internal/abi.NoEscape", "internal/bytealg.MakeNoZero"], apart := false }
def FnUnquoteReadsFirstTokenThenRestSaid : Prop := fnUnquoteReadsFirstTokenThenRestRow.holds Try.pinned (OpenSpec.ofChange fnUnquoteReadsFirstTokenThenRestSpec)

/-- ITS FALSE NEIGHBOUR: 'it returns false'. Refute it at one input. -/
def fnUnquoteReadsFirstTokenThenRestWrong : ChangeSpec := { name := "fnUnquoteReadsFirstTokenThenRest", fn := fun _ => fun
  | [d1, d2, d3] => { results := [.lit (.bool false)], args := [d1, d2, d3] }
  | _ => none }
def FnUnquoteReadsFirstTokenThenRestWrongFalsely : Prop := fnUnquoteReadsFirstTokenThenRestRow.holds Try.pinned (OpenSpec.ofChange fnUnquoteReadsFirstTokenThenRestWrong)

/-- 'zzlaws_internal_sqlparse_b1.FnUnquoteInvertsWriter': WHATEVER THE INPUT: true; the input reads as it did. -/
def fnUnquoteInvertsWriterSpec : ChangeSpec := { name := "fnUnquoteInvertsWriter", fn := fun _ => fun
  | [d1, d2] => { results := [.lit (.bool true)], args := [d1, d2] }
  | _ => none }
def fnUnquoteInvertsWriterRow : OpenClaim := { program := "qxb6605290a", sum := "9e8531738671e73f943023332d0f92c26cb6064d0ff5b6b0143cd8dfad7c6d41", func := "example.com/nextkey/nextkey/zzlaws_internal_sqlparse_b1.FnUnquoteInvertsWriter", spec := "fnUnquoteInvertsWriter", inPlace := ["internal/bytealg.IndexByteString", "internal/abi.NoEscape", "internal/bytealg.MakeNoZero"], apart := false }
def FnUnquoteInvertsWriterSaid : Prop := fnUnquoteInvertsWriterRow.holds Try.pinned (OpenSpec.ofChange fnUnquoteInvertsWriterSpec)

/-- ITS FALSE NEIGHBOUR: 'it returns false'. Refute it at one input. -/
def fnUnquoteInvertsWriterWrong : ChangeSpec := { name := "fnUnquoteInvertsWriter", fn := fun _ => fun
  | [d1, d2] => { results := [.lit (.bool false)], args := [d1, d2] }
  | _ => none }
def FnUnquoteInvertsWriterWrongFalsely : Prop := fnUnquoteInvertsWriterRow.holds Try.pinned (OpenSpec.ofChange fnUnquoteInvertsWriterWrong)

end Rows
end Go.Proofs.Qxb6605290a
