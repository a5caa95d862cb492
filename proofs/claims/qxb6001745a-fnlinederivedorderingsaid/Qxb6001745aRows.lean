/-
  No cell of these rows narrows 'for every input' (looked for: loops, veiled, ifaces, maps, wideKeys, modest, calm, conditions, laid).
  DERIVED. THE GIVEN ROWS OF THIS SEAT. 8 by the template 'for every input the law returns true; each argument reads behind the call as it read before'; 0 by the template 'total and deterministic' (their statements: Qxb6001745aTotals.lean).
  GIVEN WITH THE SEED: the statements are not yours to turn. If you find one false, say at which input.
  Laid BY PROGRAM, IN A SANDBOX (cutbox-rows.mjs): the forced cells as the released guide's own fill.sh prints them over the translation 1d8e09291b901070… (all of the seat's roots in one cut). By AI agents, Wed Nov 11 2026. No macro, syntax, notation, axiom, sorry.
-/
import Derived.Test.Qxb6001745aChecked
import GoSem.Claim
import GoSem.ClaimJoined
import GoSem.ClaimMapViews
import Derived.JoinedTies
import Derived.KernelRfl
namespace Go.Proofs.Qxb6001745a
/- THE CELL 'sum', in the pinned program and in every row, IS THE sha256 OF THE DUMP (.gsa) THAT Qxb6001745aProg.lean LOADS. Nothing in Lean hashes anything: it is a label: what it is worth is what the hold of that sum in a sandbox is worth. -/
noncomputable def Try.pinned : Pinned := { name := "qxb6001745a", sum := "1d8e09291b901070c79ea20acf8bae0b743d13fb4772b209fbdd21fe0638feca", checked := Try.checked }
namespace Rows
def none {H : Type} : Left H := { results := [], args := [] }

/-- 'zzlaws_root_b1.FnIndexOfMatchesFoldModel': WHATEVER THE INPUT: true; the input reads as it did. -/
def fnIndexOfMatchesFoldModelSpec : ChangeSpec := { name := "fnIndexOfMatchesFoldModel", fn := fun _ => fun
  | [d1, d2, d3] => { results := [.lit (.bool true)], args := [d1, d2, d3] }
  | _ => none }
def fnIndexOfMatchesFoldModelRow : OpenClaim := { program := "qxb6001745a", sum := "1d8e09291b901070c79ea20acf8bae0b743d13fb4772b209fbdd21fe0638feca", func := "example.com/leaf/leaf/zzlaws_root_b1.FnIndexOfMatchesFoldModel", spec := "fnIndexOfMatchesFoldModel", apart := false }
def FnIndexOfMatchesFoldModelSaid : Prop := fnIndexOfMatchesFoldModelRow.holds Try.pinned (OpenSpec.ofChange fnIndexOfMatchesFoldModelSpec)

/-- ITS FALSE NEIGHBOUR: 'it returns false'. Refute it at one input. -/
def fnIndexOfMatchesFoldModelWrong : ChangeSpec := { name := "fnIndexOfMatchesFoldModel", fn := fun _ => fun
  | [d1, d2, d3] => { results := [.lit (.bool false)], args := [d1, d2, d3] }
  | _ => none }
def FnIndexOfMatchesFoldModelWrongFalsely : Prop := fnIndexOfMatchesFoldModelRow.holds Try.pinned (OpenSpec.ofChange fnIndexOfMatchesFoldModelWrong)

/-- 'zzlaws_root_b1.FnIndexOfSplitsOverConcatenation': WHATEVER THE INPUT: true; the input reads as it did. -/
def fnIndexOfSplitsOverConcatenationSpec : ChangeSpec := { name := "fnIndexOfSplitsOverConcatenation", fn := fun _ => fun
  | [d1, d2, d3, d4] => { results := [.lit (.bool true)], args := [d1, d2, d3, d4] }
  | _ => none }
def fnIndexOfSplitsOverConcatenationRow : OpenClaim := { program := "qxb6001745a", sum := "1d8e09291b901070c79ea20acf8bae0b743d13fb4772b209fbdd21fe0638feca", func := "example.com/leaf/leaf/zzlaws_root_b1.FnIndexOfSplitsOverConcatenation", spec := "fnIndexOfSplitsOverConcatenation", apart := false }
def FnIndexOfSplitsOverConcatenationSaid : Prop := fnIndexOfSplitsOverConcatenationRow.holds Try.pinned (OpenSpec.ofChange fnIndexOfSplitsOverConcatenationSpec)

/-- ITS FALSE NEIGHBOUR: 'it returns false'. Refute it at one input. -/
def fnIndexOfSplitsOverConcatenationWrong : ChangeSpec := { name := "fnIndexOfSplitsOverConcatenation", fn := fun _ => fun
  | [d1, d2, d3, d4] => { results := [.lit (.bool false)], args := [d1, d2, d3, d4] }
  | _ => none }
def FnIndexOfSplitsOverConcatenationWrongFalsely : Prop := fnIndexOfSplitsOverConcatenationRow.holds Try.pinned (OpenSpec.ofChange fnIndexOfSplitsOverConcatenationWrong)

/-- 'zzlaws_root_b1.FnIndexOfCaseFoldOrdering': WHATEVER THE INPUT: true; the input reads as it did. -/
def fnIndexOfCaseFoldOrderingSpec : ChangeSpec := { name := "fnIndexOfCaseFoldOrdering", fn := fun _ => fun
  | [d1, d2] => { results := [.lit (.bool true)], args := [d1, d2] }
  | _ => none }
def fnIndexOfCaseFoldOrderingRow : OpenClaim := { program := "qxb6001745a", sum := "1d8e09291b901070c79ea20acf8bae0b743d13fb4772b209fbdd21fe0638feca", func := "example.com/leaf/leaf/zzlaws_root_b1.FnIndexOfCaseFoldOrdering", spec := "fnIndexOfCaseFoldOrdering", apart := false }
def FnIndexOfCaseFoldOrderingSaid : Prop := fnIndexOfCaseFoldOrderingRow.holds Try.pinned (OpenSpec.ofChange fnIndexOfCaseFoldOrderingSpec)

/-- ITS FALSE NEIGHBOUR: 'it returns false'. Refute it at one input. -/
def fnIndexOfCaseFoldOrderingWrong : ChangeSpec := { name := "fnIndexOfCaseFoldOrdering", fn := fun _ => fun
  | [d1, d2] => { results := [.lit (.bool false)], args := [d1, d2] }
  | _ => none }
def FnIndexOfCaseFoldOrderingWrongFalsely : Prop := fnIndexOfCaseFoldOrderingRow.holds Try.pinned (OpenSpec.ofChange fnIndexOfCaseFoldOrderingWrong)

/-- 'zzlaws_root_b1.FnLastMirrorsIndexOfReversed': WHATEVER THE INPUT: true; the input reads as it did. -/
def fnLastMirrorsIndexOfReversedSpec : ChangeSpec := { name := "fnLastMirrorsIndexOfReversed", fn := fun _ => fun
  | [d1, d2, d3] => { results := [.lit (.bool true)], args := [d1, d2, d3] }
  | _ => none }
def fnLastMirrorsIndexOfReversedRow : OpenClaim := { program := "qxb6001745a", sum := "1d8e09291b901070c79ea20acf8bae0b743d13fb4772b209fbdd21fe0638feca", func := "example.com/leaf/leaf/zzlaws_root_b1.FnLastMirrorsIndexOfReversed", spec := "fnLastMirrorsIndexOfReversed", apart := false }
def FnLastMirrorsIndexOfReversedSaid : Prop := fnLastMirrorsIndexOfReversedRow.holds Try.pinned (OpenSpec.ofChange fnLastMirrorsIndexOfReversedSpec)

/-- ITS FALSE NEIGHBOUR: 'it returns false'. Refute it at one input. -/
def fnLastMirrorsIndexOfReversedWrong : ChangeSpec := { name := "fnLastMirrorsIndexOfReversed", fn := fun _ => fun
  | [d1, d2, d3] => { results := [.lit (.bool false)], args := [d1, d2, d3] }
  | _ => none }
def FnLastMirrorsIndexOfReversedWrongFalsely : Prop := fnLastMirrorsIndexOfReversedRow.holds Try.pinned (OpenSpec.ofChange fnLastMirrorsIndexOfReversedWrong)

/-- 'zzlaws_root_b1.FnLastNoEarlierThanFirst': WHATEVER THE INPUT: true; the input reads as it did. -/
def fnLastNoEarlierThanFirstSpec : ChangeSpec := { name := "fnLastNoEarlierThanFirst", fn := fun _ => fun
  | [d1, d2, d3] => { results := [.lit (.bool true)], args := [d1, d2, d3] }
  | _ => none }
def fnLastNoEarlierThanFirstRow : OpenClaim := { program := "qxb6001745a", sum := "1d8e09291b901070c79ea20acf8bae0b743d13fb4772b209fbdd21fe0638feca", func := "example.com/leaf/leaf/zzlaws_root_b1.FnLastNoEarlierThanFirst", spec := "fnLastNoEarlierThanFirst", apart := false }
def FnLastNoEarlierThanFirstSaid : Prop := fnLastNoEarlierThanFirstRow.holds Try.pinned (OpenSpec.ofChange fnLastNoEarlierThanFirstSpec)

/-- ITS FALSE NEIGHBOUR: 'it returns false'. Refute it at one input. -/
def fnLastNoEarlierThanFirstWrong : ChangeSpec := { name := "fnLastNoEarlierThanFirst", fn := fun _ => fun
  | [d1, d2, d3] => { results := [.lit (.bool false)], args := [d1, d2, d3] }
  | _ => none }
def FnLastNoEarlierThanFirstWrongFalsely : Prop := fnLastNoEarlierThanFirstRow.holds Try.pinned (OpenSpec.ofChange fnLastNoEarlierThanFirstWrong)

/-- 'zzlaws_root_b1.FnLineRoundTripsSetLines': WHATEVER THE INPUT: true; the input reads as it did. -/
def fnLineRoundTripsSetLinesSpec : ChangeSpec := { name := "fnLineRoundTripsSetLines", fn := fun _ => fun
  | [d1, d2, d3] => { results := [.lit (.bool true)], args := [d1, d2, d3] }
  | _ => none }
def fnLineRoundTripsSetLinesRow : OpenClaim := { program := "qxb6001745a", sum := "1d8e09291b901070c79ea20acf8bae0b743d13fb4772b209fbdd21fe0638feca", func := "example.com/leaf/leaf/zzlaws_root_b1.FnLineRoundTripsSetLines", spec := "fnLineRoundTripsSetLines", inPlace := ["internal/bytealg.CountString", "internal/bytealg.IndexByteString", "internal/bytealg.IndexString"], named := ["internal/bytealg.MaxLen"], apart := false }
def FnLineRoundTripsSetLinesSaid : Prop := fnLineRoundTripsSetLinesRow.holds Try.pinned (OpenSpec.ofChange fnLineRoundTripsSetLinesSpec)

/-- ITS FALSE NEIGHBOUR: 'it returns false'. Refute it at one input. -/
def fnLineRoundTripsSetLinesWrong : ChangeSpec := { name := "fnLineRoundTripsSetLines", fn := fun _ => fun
  | [d1, d2, d3] => { results := [.lit (.bool false)], args := [d1, d2, d3] }
  | _ => none }
def FnLineRoundTripsSetLinesWrongFalsely : Prop := fnLineRoundTripsSetLinesRow.holds Try.pinned (OpenSpec.ofChange fnLineRoundTripsSetLinesWrong)

/-- 'zzlaws_root_b1.FnLineUnknownIsZero': WHATEVER THE INPUT: true; the input reads as it did. -/
def fnLineUnknownIsZeroSpec : ChangeSpec := { name := "fnLineUnknownIsZero", fn := fun _ => fun
  | [d1, d2, d3] => { results := [.lit (.bool true)], args := [d1, d2, d3] }
  | _ => none }
def fnLineUnknownIsZeroRow : OpenClaim := { program := "qxb6001745a", sum := "1d8e09291b901070c79ea20acf8bae0b743d13fb4772b209fbdd21fe0638feca", func := "example.com/leaf/leaf/zzlaws_root_b1.FnLineUnknownIsZero", spec := "fnLineUnknownIsZero", inPlace := ["internal/bytealg.CountString", "internal/bytealg.IndexByteString", "internal/bytealg.IndexString"], named := ["internal/bytealg.MaxLen"], apart := false }
def FnLineUnknownIsZeroSaid : Prop := fnLineUnknownIsZeroRow.holds Try.pinned (OpenSpec.ofChange fnLineUnknownIsZeroSpec)

/-- ITS FALSE NEIGHBOUR: 'it returns false'. Refute it at one input. -/
def fnLineUnknownIsZeroWrong : ChangeSpec := { name := "fnLineUnknownIsZero", fn := fun _ => fun
  | [d1, d2, d3] => { results := [.lit (.bool false)], args := [d1, d2, d3] }
  | _ => none }
def FnLineUnknownIsZeroWrongFalsely : Prop := fnLineUnknownIsZeroRow.holds Try.pinned (OpenSpec.ofChange fnLineUnknownIsZeroWrong)

/-- 'zzlaws_root_b1.FnLineDerivedOrdering': WHATEVER THE INPUT: true; the input reads as it did. -/
def fnLineDerivedOrderingSpec : ChangeSpec := { name := "fnLineDerivedOrdering", fn := fun _ => fun
  | [d1, d2, d3] => { results := [.lit (.bool true)], args := [d1, d2, d3] }
  | _ => none }
def fnLineDerivedOrderingRow : OpenClaim := { program := "qxb6001745a", sum := "1d8e09291b901070c79ea20acf8bae0b743d13fb4772b209fbdd21fe0638feca", func := "example.com/leaf/leaf/zzlaws_root_b1.FnLineDerivedOrdering", spec := "fnLineDerivedOrdering", inPlace := ["internal/bytealg.CountString", "internal/bytealg.IndexByteString", "internal/bytealg.IndexString"], named := ["internal/bytealg.MaxLen"], apart := false }
def FnLineDerivedOrderingSaid : Prop := fnLineDerivedOrderingRow.holds Try.pinned (OpenSpec.ofChange fnLineDerivedOrderingSpec)

/-- ITS FALSE NEIGHBOUR: 'it returns false'. Refute it at one input. -/
def fnLineDerivedOrderingWrong : ChangeSpec := { name := "fnLineDerivedOrdering", fn := fun _ => fun
  | [d1, d2, d3] => { results := [.lit (.bool false)], args := [d1, d2, d3] }
  | _ => none }
def FnLineDerivedOrderingWrongFalsely : Prop := fnLineDerivedOrderingRow.holds Try.pinned (OpenSpec.ofChange fnLineDerivedOrderingWrong)

end Rows
end Go.Proofs.Qxb6001745a
