/-
  No cell of these rows narrows 'for every input' (looked for: loops, veiled, ifaces, maps, wideKeys, modest, calm, conditions, laid).
  DERIVED. THE GIVEN ROWS OF THIS SEAT. 5 by the template 'for every input the law returns true; each argument reads behind the call as it read before'; 0 by the template 'total and deterministic' (their statements: Qxb6603264aTotals.lean).
  GIVEN WITH THE SEED: the statements are not yours to turn. If you find one false, say at which input.
  Laid BY PROGRAM, IN A SANDBOX (cutbox-rows.mjs): the forced cells as the released guide's own fill.sh prints them over the translation 4b302aab93c0e538… (all of the seat's roots in one cut). By AI agents, Wed Nov 11 2026. No macro, syntax, notation, axiom, sorry.
-/
import Derived.Test.Qxb6603264aChecked
import GoSem.Claim
import GoSem.ClaimJoined
import GoSem.ClaimMapViews
import Derived.JoinedTies
import Derived.KernelRfl
namespace Go.Proofs.Qxb6603264a
/- THE CELL 'sum', in the pinned program and in every row, IS THE sha256 OF THE DUMP (.gsa) THAT Qxb6603264aProg.lean LOADS. Nothing in Lean hashes anything: it is a label: what it is worth is what the hold of that sum in a sandbox is worth. -/
noncomputable def Try.pinned : Pinned := { name := "qxb6603264a", sum := "4b302aab93c0e5383ecc30d513fb982d231fee8f0fc01a8cf2914645b9f54ba7", checked := Try.checked }
namespace Rows
def none {H : Type} : Left H := { results := [], args := [] }

/-- 'zzlaws_internal_textfile_b1.FnLineEndsMatchesByteModel': WHATEVER THE INPUT: true; the input reads as it did. -/
def fnLineEndsMatchesByteModelSpec : ChangeSpec := { name := "fnLineEndsMatchesByteModel", fn := fun _ => fun
  | [d1, d2] => { results := [.lit (.bool true)], args := [d1, d2] }
  | _ => none }
def fnLineEndsMatchesByteModelRow : OpenClaim := { program := "qxb6603264a", sum := "4b302aab93c0e5383ecc30d513fb982d231fee8f0fc01a8cf2914645b9f54ba7", func := "example.com/vestline/vestline/zzlaws_internal_textfile_b1.FnLineEndsMatchesByteModel", spec := "fnLineEndsMatchesByteModel", inPlace := ["internal/bytealg.IndexByte"], apart := false }
def FnLineEndsMatchesByteModelSaid : Prop := fnLineEndsMatchesByteModelRow.holds Try.pinned (OpenSpec.ofChange fnLineEndsMatchesByteModelSpec)

/-- ITS FALSE NEIGHBOUR: 'it returns false'. Refute it at one input. -/
def fnLineEndsMatchesByteModelWrong : ChangeSpec := { name := "fnLineEndsMatchesByteModel", fn := fun _ => fun
  | [d1, d2] => { results := [.lit (.bool false)], args := [d1, d2] }
  | _ => none }
def FnLineEndsMatchesByteModelWrongFalsely : Prop := fnLineEndsMatchesByteModelRow.holds Try.pinned (OpenSpec.ofChange fnLineEndsMatchesByteModelWrong)

/-- 'zzlaws_internal_textfile_b1.FnLineEndsInPlace': WHATEVER THE INPUT: true; the input reads as it did. -/
def fnLineEndsInPlaceSpec : ChangeSpec := { name := "fnLineEndsInPlace", fn := fun _ => fun
  | [d1, d2] => { results := [.lit (.bool true)], args := [d1, d2] }
  | _ => none }
def fnLineEndsInPlaceRow : OpenClaim := { program := "qxb6603264a", sum := "4b302aab93c0e5383ecc30d513fb982d231fee8f0fc01a8cf2914645b9f54ba7", func := "example.com/vestline/vestline/zzlaws_internal_textfile_b1.FnLineEndsInPlace", spec := "fnLineEndsInPlace", inPlace := ["internal/bytealg.IndexByte"], apart := false }
def FnLineEndsInPlaceSaid : Prop := fnLineEndsInPlaceRow.holds Try.pinned (OpenSpec.ofChange fnLineEndsInPlaceSpec)

/-- ITS FALSE NEIGHBOUR: 'it returns false'. Refute it at one input. -/
def fnLineEndsInPlaceWrong : ChangeSpec := { name := "fnLineEndsInPlace", fn := fun _ => fun
  | [d1, d2] => { results := [.lit (.bool false)], args := [d1, d2] }
  | _ => none }
def FnLineEndsInPlaceWrongFalsely : Prop := fnLineEndsInPlaceRow.holds Try.pinned (OpenSpec.ofChange fnLineEndsInPlaceWrong)

/-- 'zzlaws_internal_textfile_b1.FnLineEndsChunked': WHATEVER THE INPUT: true; the input reads as it did. -/
def fnLineEndsChunkedSpec : ChangeSpec := { name := "fnLineEndsChunked", fn := fun _ => fun
  | [d1, d2, d3] => { results := [.lit (.bool true)], args := [d1, d2, d3] }
  | _ => none }
def fnLineEndsChunkedRow : OpenClaim := { program := "qxb6603264a", sum := "4b302aab93c0e5383ecc30d513fb982d231fee8f0fc01a8cf2914645b9f54ba7", func := "example.com/vestline/vestline/zzlaws_internal_textfile_b1.FnLineEndsChunked", spec := "fnLineEndsChunked", inPlace := ["internal/bytealg.IndexByte"], apart := false }
def FnLineEndsChunkedSaid : Prop := fnLineEndsChunkedRow.holds Try.pinned (OpenSpec.ofChange fnLineEndsChunkedSpec)

/-- ITS FALSE NEIGHBOUR: 'it returns false'. Refute it at one input. -/
def fnLineEndsChunkedWrong : ChangeSpec := { name := "fnLineEndsChunked", fn := fun _ => fun
  | [d1, d2, d3] => { results := [.lit (.bool false)], args := [d1, d2, d3] }
  | _ => none }
def FnLineEndsChunkedWrongFalsely : Prop := fnLineEndsChunkedRow.holds Try.pinned (OpenSpec.ofChange fnLineEndsChunkedWrong)

/-- 'zzlaws_internal_textfile_b1.FnGb18030SizeMatchesGrammar': WHATEVER THE INPUT: true; the input reads as it did. -/
def fnGb18030SizeMatchesGrammarSpec : ChangeSpec := { name := "fnGb18030SizeMatchesGrammar", fn := fun _ => fun
  | [d] => { results := [.lit (.bool true)], args := [d] }
  | _ => none }
def fnGb18030SizeMatchesGrammarRow : OpenClaim := { program := "qxb6603264a", sum := "4b302aab93c0e5383ecc30d513fb982d231fee8f0fc01a8cf2914645b9f54ba7", func := "example.com/vestline/vestline/zzlaws_internal_textfile_b1.FnGb18030SizeMatchesGrammar", spec := "fnGb18030SizeMatchesGrammar", unfollowed := true, recurses := true, apart := false }
def FnGb18030SizeMatchesGrammarSaid : Prop := fnGb18030SizeMatchesGrammarRow.holds Try.pinned (OpenSpec.ofChange fnGb18030SizeMatchesGrammarSpec)

/-- ITS FALSE NEIGHBOUR: 'it returns false'. Refute it at one input. -/
def fnGb18030SizeMatchesGrammarWrong : ChangeSpec := { name := "fnGb18030SizeMatchesGrammar", fn := fun _ => fun
  | [d] => { results := [.lit (.bool false)], args := [d] }
  | _ => none }
def FnGb18030SizeMatchesGrammarWrongFalsely : Prop := fnGb18030SizeMatchesGrammarRow.holds Try.pinned (OpenSpec.ofChange fnGb18030SizeMatchesGrammarWrong)

/-- 'zzlaws_internal_textfile_b1.FnGb18030SizePrefixStable': WHATEVER THE INPUT: true; the input reads as it did. -/
def fnGb18030SizePrefixStableSpec : ChangeSpec := { name := "fnGb18030SizePrefixStable", fn := fun _ => fun
  | [d1, d2] => { results := [.lit (.bool true)], args := [d1, d2] }
  | _ => none }
def fnGb18030SizePrefixStableRow : OpenClaim := { program := "qxb6603264a", sum := "4b302aab93c0e5383ecc30d513fb982d231fee8f0fc01a8cf2914645b9f54ba7", func := "example.com/vestline/vestline/zzlaws_internal_textfile_b1.FnGb18030SizePrefixStable", spec := "fnGb18030SizePrefixStable", unfollowed := true, recurses := true, apart := false }
def FnGb18030SizePrefixStableSaid : Prop := fnGb18030SizePrefixStableRow.holds Try.pinned (OpenSpec.ofChange fnGb18030SizePrefixStableSpec)

/-- ITS FALSE NEIGHBOUR: 'it returns false'. Refute it at one input. -/
def fnGb18030SizePrefixStableWrong : ChangeSpec := { name := "fnGb18030SizePrefixStable", fn := fun _ => fun
  | [d1, d2] => { results := [.lit (.bool false)], args := [d1, d2] }
  | _ => none }
def FnGb18030SizePrefixStableWrongFalsely : Prop := fnGb18030SizePrefixStableRow.holds Try.pinned (OpenSpec.ofChange fnGb18030SizePrefixStableWrong)

end Rows
end Go.Proofs.Qxb6603264a
