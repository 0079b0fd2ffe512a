/-
  No cell of these rows narrows 'for every input' (looked for: loops, veiled, ifaces, maps, wideKeys, modest, calm, conditions, laid).
  DERIVED. THE GIVEN ROWS OF THIS SEAT. 5 by the template 'for every input the law returns true; each argument reads behind the call as it read before'; 0 by the template 'total and deterministic' (their statements: Qxb6618180aTotals.lean).
  GIVEN WITH THE SEED: the statements are not yours to turn. If you find one false, say at which input.
  Laid BY PROGRAM, IN A SANDBOX (cutbox-rows.mjs): the forced cells as the released guide's own fill.sh prints them over the translation 73f1d4222afb8467… (all of the seat's roots in one cut). By AI agents, Wed Nov 11 2026. No macro, syntax, notation, axiom, sorry.
-/
import Derived.Test.Qxb6618180aChecked
import GoSem.Claim
import GoSem.ClaimJoined
import GoSem.ClaimMapViews
import Derived.JoinedTies
import Derived.KernelRfl
namespace Go.Proofs.Qxb6618180a
/- THE CELL 'sum', in the pinned program and in every row, IS THE sha256 OF THE DUMP (.gsa) THAT Qxb6618180aProg.lean LOADS. Nothing in Lean hashes anything: it is a label: what it is worth is what the hold of that sum in a sandbox is worth. -/
noncomputable def Try.pinned : Pinned := { name := "qxb6618180a", sum := "73f1d4222afb8467be5310e68494fd04ec5b27e23da893102e4341640af51d51", checked := Try.checked }
namespace Rows
def none {H : Type} : Left H := { results := [], args := [] }

/-- 'zzlaws_internal_eval_b1.FnWriteQuotedUnquotesBackExactly': WHATEVER THE INPUT: true; the input reads as it did. -/
def fnWriteQuotedUnquotesBackExactlySpec : ChangeSpec := { name := "fnWriteQuotedUnquotesBackExactly", fn := fun _ => fun
  | [d1, d2] => { results := [.lit (.bool true)], args := [d1, d2] }
  | _ => none }
def fnWriteQuotedUnquotesBackExactlyRow : OpenClaim := { program := "qxb6618180a", sum := "73f1d4222afb8467be5310e68494fd04ec5b27e23da893102e4341640af51d51", func := "example.com/weland/weland/zzlaws_internal_eval_b1.FnWriteQuotedUnquotesBackExactly", spec := "fnWriteQuotedUnquotesBackExactly", inPlace := ["internal/abi.NoEscape"], apart := false }
def FnWriteQuotedUnquotesBackExactlySaid : Prop := fnWriteQuotedUnquotesBackExactlyRow.holds Try.pinned (OpenSpec.ofChange fnWriteQuotedUnquotesBackExactlySpec)

/-- ITS FALSE NEIGHBOUR: 'it returns false'. Refute it at one input. -/
def fnWriteQuotedUnquotesBackExactlyWrong : ChangeSpec := { name := "fnWriteQuotedUnquotesBackExactly", fn := fun _ => fun
  | [d1, d2] => { results := [.lit (.bool false)], args := [d1, d2] }
  | _ => none }
def FnWriteQuotedUnquotesBackExactlyWrongFalsely : Prop := fnWriteQuotedUnquotesBackExactlyRow.holds Try.pinned (OpenSpec.ofChange fnWriteQuotedUnquotesBackExactlyWrong)

/-- 'zzlaws_internal_eval_b1.FnWriteQuotedSplitsAtAnyCut': WHATEVER THE INPUT: true; the input reads as it did. -/
def fnWriteQuotedSplitsAtAnyCutSpec : ChangeSpec := { name := "fnWriteQuotedSplitsAtAnyCut", fn := fun _ => fun
  | [d1, d2] => { results := [.lit (.bool true)], args := [d1, d2] }
  | _ => none }
def fnWriteQuotedSplitsAtAnyCutRow : OpenClaim := { program := "qxb6618180a", sum := "73f1d4222afb8467be5310e68494fd04ec5b27e23da893102e4341640af51d51", func := "example.com/weland/weland/zzlaws_internal_eval_b1.FnWriteQuotedSplitsAtAnyCut", spec := "fnWriteQuotedSplitsAtAnyCut", inPlace := ["internal/abi.NoEscape"], apart := false }
def FnWriteQuotedSplitsAtAnyCutSaid : Prop := fnWriteQuotedSplitsAtAnyCutRow.holds Try.pinned (OpenSpec.ofChange fnWriteQuotedSplitsAtAnyCutSpec)

/-- ITS FALSE NEIGHBOUR: 'it returns false'. Refute it at one input. -/
def fnWriteQuotedSplitsAtAnyCutWrong : ChangeSpec := { name := "fnWriteQuotedSplitsAtAnyCut", fn := fun _ => fun
  | [d1, d2] => { results := [.lit (.bool false)], args := [d1, d2] }
  | _ => none }
def FnWriteQuotedSplitsAtAnyCutWrongFalsely : Prop := fnWriteQuotedSplitsAtAnyCutRow.holds Try.pinned (OpenSpec.ofChange fnWriteQuotedSplitsAtAnyCutWrong)

/-- 'zzlaws_internal_eval_b1.FnParseBase32MatchesBitModel': WHATEVER THE INPUT: true; the input reads as it did. -/
def fnParseBase32MatchesBitModelSpec : ChangeSpec := { name := "fnParseBase32MatchesBitModel", fn := fun _ => fun
  | [d1, d2] => { results := [.lit (.bool true)], args := [d1, d2] }
  | _ => none }
def fnParseBase32MatchesBitModelRow : OpenClaim := { program := "qxb6618180a", sum := "73f1d4222afb8467be5310e68494fd04ec5b27e23da893102e4341640af51d51", func := "example.com/weland/weland/zzlaws_internal_eval_b1.FnParseBase32MatchesBitModel", spec := "fnParseBase32MatchesBitModel", inPlace := ["internal/bytealg.IndexByteString"], apart := false }
def FnParseBase32MatchesBitModelSaid : Prop := fnParseBase32MatchesBitModelRow.holds Try.pinned (OpenSpec.ofChange fnParseBase32MatchesBitModelSpec)

/-- ITS FALSE NEIGHBOUR: 'it returns false'. Refute it at one input. -/
def fnParseBase32MatchesBitModelWrong : ChangeSpec := { name := "fnParseBase32MatchesBitModel", fn := fun _ => fun
  | [d1, d2] => { results := [.lit (.bool false)], args := [d1, d2] }
  | _ => none }
def FnParseBase32MatchesBitModelWrongFalsely : Prop := fnParseBase32MatchesBitModelRow.holds Try.pinned (OpenSpec.ofChange fnParseBase32MatchesBitModelWrong)

/-- 'zzlaws_internal_eval_b1.FnParseBase32LastDigitIsLowFiveBits': WHATEVER THE INPUT: true; the input reads as it did. -/
def fnParseBase32LastDigitIsLowFiveBitsSpec : ChangeSpec := { name := "fnParseBase32LastDigitIsLowFiveBits", fn := fun _ => fun
  | [d1, d2, d3] => { results := [.lit (.bool true)], args := [d1, d2, d3] }
  | _ => none }
def fnParseBase32LastDigitIsLowFiveBitsRow : OpenClaim := { program := "qxb6618180a", sum := "73f1d4222afb8467be5310e68494fd04ec5b27e23da893102e4341640af51d51", func := "example.com/weland/weland/zzlaws_internal_eval_b1.FnParseBase32LastDigitIsLowFiveBits", spec := "fnParseBase32LastDigitIsLowFiveBits", inPlace := ["internal/bytealg.IndexByteString"], apart := false }
def FnParseBase32LastDigitIsLowFiveBitsSaid : Prop := fnParseBase32LastDigitIsLowFiveBitsRow.holds Try.pinned (OpenSpec.ofChange fnParseBase32LastDigitIsLowFiveBitsSpec)

/-- ITS FALSE NEIGHBOUR: 'it returns false'. Refute it at one input. -/
def fnParseBase32LastDigitIsLowFiveBitsWrong : ChangeSpec := { name := "fnParseBase32LastDigitIsLowFiveBits", fn := fun _ => fun
  | [d1, d2, d3] => { results := [.lit (.bool false)], args := [d1, d2, d3] }
  | _ => none }
def FnParseBase32LastDigitIsLowFiveBitsWrongFalsely : Prop := fnParseBase32LastDigitIsLowFiveBitsRow.holds Try.pinned (OpenSpec.ofChange fnParseBase32LastDigitIsLowFiveBitsWrong)

/-- 'zzlaws_internal_eval_b1.FnIntKeysAddMatchesSetModel': WHATEVER THE INPUT: true; the input reads as it did. -/
def fnIntKeysAddMatchesSetModelSpec : ChangeSpec := { name := "fnIntKeysAddMatchesSetModel", fn := fun _ => fun
  | [d1, d2] => { results := [.lit (.bool true)], args := [d1, d2] }
  | _ => none }
def fnIntKeysAddMatchesSetModelRow : OpenClaim := { program := "qxb6618180a", sum := "73f1d4222afb8467be5310e68494fd04ec5b27e23da893102e4341640af51d51", func := "example.com/weland/weland/zzlaws_internal_eval_b1.FnIntKeysAddMatchesSetModel", spec := "fnIntKeysAddMatchesSetModel", apart := false }
def FnIntKeysAddMatchesSetModelSaid : Prop := fnIntKeysAddMatchesSetModelRow.holds Try.pinned (OpenSpec.ofChange fnIntKeysAddMatchesSetModelSpec)

/-- ITS FALSE NEIGHBOUR: 'it returns false'. Refute it at one input. -/
def fnIntKeysAddMatchesSetModelWrong : ChangeSpec := { name := "fnIntKeysAddMatchesSetModel", fn := fun _ => fun
  | [d1, d2] => { results := [.lit (.bool false)], args := [d1, d2] }
  | _ => none }
def FnIntKeysAddMatchesSetModelWrongFalsely : Prop := fnIntKeysAddMatchesSetModelRow.holds Try.pinned (OpenSpec.ofChange fnIntKeysAddMatchesSetModelWrong)

end Rows
end Go.Proofs.Qxb6618180a
