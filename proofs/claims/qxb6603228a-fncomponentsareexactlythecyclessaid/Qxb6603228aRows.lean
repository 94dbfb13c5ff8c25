/-
  No cell of these rows narrows 'for every input' (looked for: loops, veiled, ifaces, maps, wideKeys, modest, calm, conditions, laid).
  DERIVED. THE GIVEN ROWS OF THIS SEAT. 5 by the template 'for every input the law returns true; each argument reads behind the call as it read before'; 0 by the template 'total and deterministic' (their statements: Qxb6603228aTotals.lean).
  GIVEN WITH THE SEED: the statements are not yours to turn. If you find one false, say at which input.
  Laid BY PROGRAM, IN A SANDBOX (cutbox-rows.mjs): the forced cells as the released guide's own fill.sh prints them over the translation 4dd0403ed7fc7ec8… (all of the seat's roots in one cut). By AI agents, Wed Nov 11 2026. No macro, syntax, notation, axiom, sorry.
-/
import Derived.Test.Qxb6603228aChecked
import GoSem.Claim
import GoSem.ClaimJoined
import GoSem.ClaimMapViews
import Derived.JoinedTies
import Derived.KernelRfl
namespace Go.Proofs.Qxb6603228a
/- THE CELL 'sum', in the pinned program and in every row, IS THE sha256 OF THE DUMP (.gsa) THAT Qxb6603228aProg.lean LOADS. Nothing in Lean hashes anything: it is a label: what it is worth is what the hold of that sum in a sandbox is worth. -/
noncomputable def Try.pinned : Pinned := { name := "qxb6603228a", sum := "4dd0403ed7fc7ec8a03939474d6a84bb3f9f711927100f9a8ce6ca1e8147c8a2", checked := Try.checked }
namespace Rows
def none {H : Type} : Left H := { results := [], args := [] }

/-- 'zzlaws_pkg_history_b1.FnComponentsAreExactlyTheCycles': WHATEVER THE INPUT: true; the input reads as it did. -/
def fnComponentsAreExactlyTheCyclesSpec : ChangeSpec := { name := "fnComponentsAreExactlyTheCycles", fn := fun _ => fun
  | [d] => { results := [.lit (.bool true)], args := [d] }
  | _ => none }
def fnComponentsAreExactlyTheCyclesRow : OpenClaim := { program := "qxb6603228a", sum := "4dd0403ed7fc7ec8a03939474d6a84bb3f9f711927100f9a8ce6ca1e8147c8a2", func := "example.com/pactline/pactline/zzlaws_pkg_history_b1.FnComponentsAreExactlyTheCycles", spec := "fnComponentsAreExactlyTheCycles", unfollowed := true, recurses := true, plainKeys := false, apart := false }
def FnComponentsAreExactlyTheCyclesSaid : Prop := fnComponentsAreExactlyTheCyclesRow.holds Try.pinned (OpenSpec.ofChange fnComponentsAreExactlyTheCyclesSpec)

/-- ITS FALSE NEIGHBOUR: 'it returns false'. Refute it at one input. -/
def fnComponentsAreExactlyTheCyclesWrong : ChangeSpec := { name := "fnComponentsAreExactlyTheCycles", fn := fun _ => fun
  | [d] => { results := [.lit (.bool false)], args := [d] }
  | _ => none }
def FnComponentsAreExactlyTheCyclesWrongFalsely : Prop := fnComponentsAreExactlyTheCyclesRow.holds Try.pinned (OpenSpec.ofChange fnComponentsAreExactlyTheCyclesWrong)

/-- 'zzlaws_pkg_history_b1.FnComponentsComeOutReverseTopologically': WHATEVER THE INPUT: true; the input reads as it did. -/
def fnComponentsComeOutReverseTopologicallySpec : ChangeSpec := { name := "fnComponentsComeOutReverseTopologically", fn := fun _ => fun
  | [d] => { results := [.lit (.bool true)], args := [d] }
  | _ => none }
def fnComponentsComeOutReverseTopologicallyRow : OpenClaim := { program := "qxb6603228a", sum := "4dd0403ed7fc7ec8a03939474d6a84bb3f9f711927100f9a8ce6ca1e8147c8a2", func := "example.com/pactline/pactline/zzlaws_pkg_history_b1.FnComponentsComeOutReverseTopologically", spec := "fnComponentsComeOutReverseTopologically", unfollowed := true, recurses := true, plainKeys := false, apart := false }
def FnComponentsComeOutReverseTopologicallySaid : Prop := fnComponentsComeOutReverseTopologicallyRow.holds Try.pinned (OpenSpec.ofChange fnComponentsComeOutReverseTopologicallySpec)

/-- ITS FALSE NEIGHBOUR: 'it returns false'. Refute it at one input. -/
def fnComponentsComeOutReverseTopologicallyWrong : ChangeSpec := { name := "fnComponentsComeOutReverseTopologically", fn := fun _ => fun
  | [d] => { results := [.lit (.bool false)], args := [d] }
  | _ => none }
def FnComponentsComeOutReverseTopologicallyWrongFalsely : Prop := fnComponentsComeOutReverseTopologicallyRow.holds Try.pinned (OpenSpec.ofChange fnComponentsComeOutReverseTopologicallyWrong)

/-- 'zzlaws_pkg_history_b1.FnWriterOfIsLatestQualifyingWriter': WHATEVER THE INPUT: true; the input reads as it did. -/
def fnWriterOfIsLatestQualifyingWriterSpec : ChangeSpec := { name := "fnWriterOfIsLatestQualifyingWriter", fn := fun _ => fun
  | [d1, d2, d3, d4, d5, d6, d7] => { results := [.lit (.bool true)], args := [d1, d2, d3, d4, d5, d6, d7] }
  | _ => none }
def fnWriterOfIsLatestQualifyingWriterRow : OpenClaim := { program := "qxb6603228a", sum := "4dd0403ed7fc7ec8a03939474d6a84bb3f9f711927100f9a8ce6ca1e8147c8a2", func := "example.com/pactline/pactline/zzlaws_pkg_history_b1.FnWriterOfIsLatestQualifyingWriter", spec := "fnWriterOfIsLatestQualifyingWriter", unfollowed := true, recurses := true, plainKeys := false, apart := false }
def FnWriterOfIsLatestQualifyingWriterSaid : Prop := fnWriterOfIsLatestQualifyingWriterRow.holds Try.pinned (OpenSpec.ofChange fnWriterOfIsLatestQualifyingWriterSpec)

/-- ITS FALSE NEIGHBOUR: 'it returns false'. Refute it at one input. -/
def fnWriterOfIsLatestQualifyingWriterWrong : ChangeSpec := { name := "fnWriterOfIsLatestQualifyingWriter", fn := fun _ => fun
  | [d1, d2, d3, d4, d5, d6, d7] => { results := [.lit (.bool false)], args := [d1, d2, d3, d4, d5, d6, d7] }
  | _ => none }
def FnWriterOfIsLatestQualifyingWriterWrongFalsely : Prop := fnWriterOfIsLatestQualifyingWriterRow.holds Try.pinned (OpenSpec.ofChange fnWriterOfIsLatestQualifyingWriterWrong)

/-- 'zzlaws_pkg_history_b1.FnWriterOfLaterCommitFindsNoEarlierWriter': WHATEVER THE INPUT: true; the input reads as it did. -/
def fnWriterOfLaterCommitFindsNoEarlierWriterSpec : ChangeSpec := { name := "fnWriterOfLaterCommitFindsNoEarlierWriter", fn := fun _ => fun
  | [d1, d2, d3, d4, d5, d6, d7, d8] => { results := [.lit (.bool true)], args := [d1, d2, d3, d4, d5, d6, d7, d8] }
  | _ => none }
def fnWriterOfLaterCommitFindsNoEarlierWriterRow : OpenClaim := { program := "qxb6603228a", sum := "4dd0403ed7fc7ec8a03939474d6a84bb3f9f711927100f9a8ce6ca1e8147c8a2", func := "example.com/pactline/pactline/zzlaws_pkg_history_b1.FnWriterOfLaterCommitFindsNoEarlierWriter", spec := "fnWriterOfLaterCommitFindsNoEarlierWriter", unfollowed := true, recurses := true, plainKeys := false, apart := false }
def FnWriterOfLaterCommitFindsNoEarlierWriterSaid : Prop := fnWriterOfLaterCommitFindsNoEarlierWriterRow.holds Try.pinned (OpenSpec.ofChange fnWriterOfLaterCommitFindsNoEarlierWriterSpec)

/-- ITS FALSE NEIGHBOUR: 'it returns false'. Refute it at one input. -/
def fnWriterOfLaterCommitFindsNoEarlierWriterWrong : ChangeSpec := { name := "fnWriterOfLaterCommitFindsNoEarlierWriter", fn := fun _ => fun
  | [d1, d2, d3, d4, d5, d6, d7, d8] => { results := [.lit (.bool false)], args := [d1, d2, d3, d4, d5, d6, d7, d8] }
  | _ => none }
def FnWriterOfLaterCommitFindsNoEarlierWriterWrongFalsely : Prop := fnWriterOfLaterCommitFindsNoEarlierWriterRow.holds Try.pinned (OpenSpec.ofChange fnWriterOfLaterCommitFindsNoEarlierWriterWrong)

/-- 'zzlaws_pkg_history_b1.FnWriterOfOrderOfLinesDecidesOnlyTies': WHATEVER THE INPUT: true; the input reads as it did. -/
def fnWriterOfOrderOfLinesDecidesOnlyTiesSpec : ChangeSpec := { name := "fnWriterOfOrderOfLinesDecidesOnlyTies", fn := fun _ => fun
  | [d1, d2, d3, d4, d5, d6, d7] => { results := [.lit (.bool true)], args := [d1, d2, d3, d4, d5, d6, d7] }
  | _ => none }
def fnWriterOfOrderOfLinesDecidesOnlyTiesRow : OpenClaim := { program := "qxb6603228a", sum := "4dd0403ed7fc7ec8a03939474d6a84bb3f9f711927100f9a8ce6ca1e8147c8a2", func := "example.com/pactline/pactline/zzlaws_pkg_history_b1.FnWriterOfOrderOfLinesDecidesOnlyTies", spec := "fnWriterOfOrderOfLinesDecidesOnlyTies", unfollowed := true, recurses := true, plainKeys := false, apart := false }
def FnWriterOfOrderOfLinesDecidesOnlyTiesSaid : Prop := fnWriterOfOrderOfLinesDecidesOnlyTiesRow.holds Try.pinned (OpenSpec.ofChange fnWriterOfOrderOfLinesDecidesOnlyTiesSpec)

/-- ITS FALSE NEIGHBOUR: 'it returns false'. Refute it at one input. -/
def fnWriterOfOrderOfLinesDecidesOnlyTiesWrong : ChangeSpec := { name := "fnWriterOfOrderOfLinesDecidesOnlyTies", fn := fun _ => fun
  | [d1, d2, d3, d4, d5, d6, d7] => { results := [.lit (.bool false)], args := [d1, d2, d3, d4, d5, d6, d7] }
  | _ => none }
def FnWriterOfOrderOfLinesDecidesOnlyTiesWrongFalsely : Prop := fnWriterOfOrderOfLinesDecidesOnlyTiesRow.holds Try.pinned (OpenSpec.ofChange fnWriterOfOrderOfLinesDecidesOnlyTiesWrong)

end Rows
end Go.Proofs.Qxb6603228a
