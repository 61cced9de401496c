/-
  NARROWER THAN 'FOR EVERY INPUT', by the rows' own cells (each row's printed sentence says how): FnComponentsMatchBFS: maps, wideKeys · FnComponentsMergeOnePair: maps, wideKeys · FnPassConservesCopiesAndCountsEveryChange: maps · FnPassMovesCopiesOnlyAlongLinks: maps.
  DERIVED. THE GIVEN ROWS OF THIS SEAT. 6 by the template 'for every input the law returns true; each argument reads behind the call as it read before'; 0 by the template 'total and deterministic' (their statements: Qxb6603019aTotals.lean).
  GIVEN WITH THE SEED: the statements are not yours to turn. If you find one false, say at which input.
  Laid BY PROGRAM, IN A SANDBOX (cutbox-rows.mjs): the forced cells as the released guide's own fill.sh prints them over the translation d365141a57390993… (all of the seat's roots in one cut). By AI agents, Wed Nov 11 2026. No macro, syntax, notation, axiom, sorry.
-/
import Derived.Test.Qxb6603019aChecked
import GoSem.Claim
import GoSem.ClaimJoined
import GoSem.ClaimMapViews
import Derived.JoinedTies
import Derived.KernelRfl
namespace Go.Proofs.Qxb6603019a
/- THE CELL 'sum', in the pinned program and in every row, IS THE sha256 OF THE DUMP (.gsa) THAT Qxb6603019aProg.lean LOADS. Nothing in Lean hashes anything: it is a label: what it is worth is what the hold of that sum in a sandbox is worth. -/
noncomputable def Try.pinned : Pinned := { name := "qxb6603019a", sum := "d365141a5739099368d546b3fafc38a8e71fe91430fc9905ebd777bc5db4fd97", checked := Try.checked }
namespace Rows
def none {H : Type} : Left H := { results := [], args := [] }

/-- 'zzlaws_pkg_trace_b1.FnComponentsMatchBFS': WHATEVER THE INPUT: true; the input reads as it did. -/
def fnComponentsMatchBFSSpec : ChangeSpec := { name := "fnComponentsMatchBFS", fn := fun _ => fun
  | [d1, d2, d3] => { results := [.lit (.bool true)], args := [d1, d2, d3] }
  | _ => none }
def fnComponentsMatchBFSRow : OpenClaim := { program := "qxb6603019a", sum := "d365141a5739099368d546b3fafc38a8e71fe91430fc9905ebd777bc5db4fd97", func := "example.com/cairnmesh/cairnmesh/zzlaws_pkg_trace_b1.FnComponentsMatchBFS", spec := "fnComponentsMatchBFS", unfollowed := true, recurses := true, maps := true, wideKeys := true, plainKeys := false, apart := false }
def FnComponentsMatchBFSSaid : Prop := fnComponentsMatchBFSRow.holds Try.pinned (OpenSpec.ofChange fnComponentsMatchBFSSpec)

/-- ITS FALSE NEIGHBOUR: 'it returns false'. Refute it at one input. -/
def fnComponentsMatchBFSWrong : ChangeSpec := { name := "fnComponentsMatchBFS", fn := fun _ => fun
  | [d1, d2, d3] => { results := [.lit (.bool false)], args := [d1, d2, d3] }
  | _ => none }
def FnComponentsMatchBFSWrongFalsely : Prop := fnComponentsMatchBFSRow.holds Try.pinned (OpenSpec.ofChange fnComponentsMatchBFSWrong)

/-- 'zzlaws_pkg_trace_b1.FnComponentsMergeOnePair': WHATEVER THE INPUT: true; the input reads as it did. -/
def fnComponentsMergeOnePairSpec : ChangeSpec := { name := "fnComponentsMergeOnePair", fn := fun _ => fun
  | [d1, d2, d3, d4, d5] => { results := [.lit (.bool true)], args := [d1, d2, d3, d4, d5] }
  | _ => none }
def fnComponentsMergeOnePairRow : OpenClaim := { program := "qxb6603019a", sum := "d365141a5739099368d546b3fafc38a8e71fe91430fc9905ebd777bc5db4fd97", func := "example.com/cairnmesh/cairnmesh/zzlaws_pkg_trace_b1.FnComponentsMergeOnePair", spec := "fnComponentsMergeOnePair", unfollowed := true, recurses := true, maps := true, wideKeys := true, plainKeys := false, apart := false }
def FnComponentsMergeOnePairSaid : Prop := fnComponentsMergeOnePairRow.holds Try.pinned (OpenSpec.ofChange fnComponentsMergeOnePairSpec)

/-- ITS FALSE NEIGHBOUR: 'it returns false'. Refute it at one input. -/
def fnComponentsMergeOnePairWrong : ChangeSpec := { name := "fnComponentsMergeOnePair", fn := fun _ => fun
  | [d1, d2, d3, d4, d5] => { results := [.lit (.bool false)], args := [d1, d2, d3, d4, d5] }
  | _ => none }
def FnComponentsMergeOnePairWrongFalsely : Prop := fnComponentsMergeOnePairRow.holds Try.pinned (OpenSpec.ofChange fnComponentsMergeOnePairWrong)

/-- 'zzlaws_pkg_trace_b1.FnReachesNeverFallWithAnotherSpan': WHATEVER THE INPUT: true; the input reads as it did. -/
def fnReachesNeverFallWithAnotherSpanSpec : ChangeSpec := { name := "fnReachesNeverFallWithAnotherSpan", fn := fun _ => fun
  | [d1, d2, d3, d4] => { results := [.lit (.bool true)], args := [d1, d2, d3, d4] }
  | _ => none }
def fnReachesNeverFallWithAnotherSpanRow : OpenClaim := { program := "qxb6603019a", sum := "d365141a5739099368d546b3fafc38a8e71fe91430fc9905ebd777bc5db4fd97", func := "example.com/cairnmesh/cairnmesh/zzlaws_pkg_trace_b1.FnReachesNeverFallWithAnotherSpan", spec := "fnReachesNeverFallWithAnotherSpan", unfollowed := true, recurses := true, plainKeys := false, apart := false }
def FnReachesNeverFallWithAnotherSpanSaid : Prop := fnReachesNeverFallWithAnotherSpanRow.holds Try.pinned (OpenSpec.ofChange fnReachesNeverFallWithAnotherSpanSpec)

/-- ITS FALSE NEIGHBOUR: 'it returns false'. Refute it at one input. -/
def fnReachesNeverFallWithAnotherSpanWrong : ChangeSpec := { name := "fnReachesNeverFallWithAnotherSpan", fn := fun _ => fun
  | [d1, d2, d3, d4] => { results := [.lit (.bool false)], args := [d1, d2, d3, d4] }
  | _ => none }
def FnReachesNeverFallWithAnotherSpanWrongFalsely : Prop := fnReachesNeverFallWithAnotherSpanRow.holds Try.pinned (OpenSpec.ofChange fnReachesNeverFallWithAnotherSpanWrong)

/-- 'zzlaws_pkg_trace_b1.FnReachesFollowTheirSources': WHATEVER THE INPUT: true; the input reads as it did. -/
def fnReachesFollowTheirSourcesSpec : ChangeSpec := { name := "fnReachesFollowTheirSources", fn := fun _ => fun
  | [d1, d2, d3] => { results := [.lit (.bool true)], args := [d1, d2, d3] }
  | _ => none }
def fnReachesFollowTheirSourcesRow : OpenClaim := { program := "qxb6603019a", sum := "d365141a5739099368d546b3fafc38a8e71fe91430fc9905ebd777bc5db4fd97", func := "example.com/cairnmesh/cairnmesh/zzlaws_pkg_trace_b1.FnReachesFollowTheirSources", spec := "fnReachesFollowTheirSources", unfollowed := true, recurses := true, plainKeys := false, apart := false }
def FnReachesFollowTheirSourcesSaid : Prop := fnReachesFollowTheirSourcesRow.holds Try.pinned (OpenSpec.ofChange fnReachesFollowTheirSourcesSpec)

/-- ITS FALSE NEIGHBOUR: 'it returns false'. Refute it at one input. -/
def fnReachesFollowTheirSourcesWrong : ChangeSpec := { name := "fnReachesFollowTheirSources", fn := fun _ => fun
  | [d1, d2, d3] => { results := [.lit (.bool false)], args := [d1, d2, d3] }
  | _ => none }
def FnReachesFollowTheirSourcesWrongFalsely : Prop := fnReachesFollowTheirSourcesRow.holds Try.pinned (OpenSpec.ofChange fnReachesFollowTheirSourcesWrong)

/-- 'zzlaws_pkg_trace_b1.FnPassConservesCopiesAndCountsEveryChange': WHATEVER THE INPUT: true; the input reads as it did. -/
def fnPassConservesCopiesAndCountsEveryChangeSpec : ChangeSpec := { name := "fnPassConservesCopiesAndCountsEveryChange", fn := fun _ => fun
  | [d1, d2, d3, d4, d5] => { results := [.lit (.bool true)], args := [d1, d2, d3, d4, d5] }
  | _ => none }
def fnPassConservesCopiesAndCountsEveryChangeRow : OpenClaim := { program := "qxb6603019a", sum := "d365141a5739099368d546b3fafc38a8e71fe91430fc9905ebd777bc5db4fd97", func := "example.com/cairnmesh/cairnmesh/zzlaws_pkg_trace_b1.FnPassConservesCopiesAndCountsEveryChange", spec := "fnPassConservesCopiesAndCountsEveryChange", maps := true, plainKeys := false, apart := false }
def FnPassConservesCopiesAndCountsEveryChangeSaid : Prop := fnPassConservesCopiesAndCountsEveryChangeRow.holds Try.pinned (OpenSpec.ofChange fnPassConservesCopiesAndCountsEveryChangeSpec)

/-- ITS FALSE NEIGHBOUR: 'it returns false'. Refute it at one input. -/
def fnPassConservesCopiesAndCountsEveryChangeWrong : ChangeSpec := { name := "fnPassConservesCopiesAndCountsEveryChange", fn := fun _ => fun
  | [d1, d2, d3, d4, d5] => { results := [.lit (.bool false)], args := [d1, d2, d3, d4, d5] }
  | _ => none }
def FnPassConservesCopiesAndCountsEveryChangeWrongFalsely : Prop := fnPassConservesCopiesAndCountsEveryChangeRow.holds Try.pinned (OpenSpec.ofChange fnPassConservesCopiesAndCountsEveryChangeWrong)

/-- 'zzlaws_pkg_trace_b1.FnPassMovesCopiesOnlyAlongLinks': WHATEVER THE INPUT: true; the input reads as it did. -/
def fnPassMovesCopiesOnlyAlongLinksSpec : ChangeSpec := { name := "fnPassMovesCopiesOnlyAlongLinks", fn := fun _ => fun
  | [d1, d2, d3, d4, d5] => { results := [.lit (.bool true)], args := [d1, d2, d3, d4, d5] }
  | _ => none }
def fnPassMovesCopiesOnlyAlongLinksRow : OpenClaim := { program := "qxb6603019a", sum := "d365141a5739099368d546b3fafc38a8e71fe91430fc9905ebd777bc5db4fd97", func := "example.com/cairnmesh/cairnmesh/zzlaws_pkg_trace_b1.FnPassMovesCopiesOnlyAlongLinks", spec := "fnPassMovesCopiesOnlyAlongLinks", maps := true, plainKeys := false, apart := false }
def FnPassMovesCopiesOnlyAlongLinksSaid : Prop := fnPassMovesCopiesOnlyAlongLinksRow.holds Try.pinned (OpenSpec.ofChange fnPassMovesCopiesOnlyAlongLinksSpec)

/-- ITS FALSE NEIGHBOUR: 'it returns false'. Refute it at one input. -/
def fnPassMovesCopiesOnlyAlongLinksWrong : ChangeSpec := { name := "fnPassMovesCopiesOnlyAlongLinks", fn := fun _ => fun
  | [d1, d2, d3, d4, d5] => { results := [.lit (.bool false)], args := [d1, d2, d3, d4, d5] }
  | _ => none }
def FnPassMovesCopiesOnlyAlongLinksWrongFalsely : Prop := fnPassMovesCopiesOnlyAlongLinksRow.holds Try.pinned (OpenSpec.ofChange fnPassMovesCopiesOnlyAlongLinksWrong)

end Rows
end Go.Proofs.Qxb6603019a
