/-
  No cell of these rows narrows 'for every input' (looked for: loops, veiled, ifaces, maps, wideKeys, modest, calm, conditions, laid).
  DERIVED. THE GIVEN ROWS OF THIS SEAT. 9 by the template 'for every input the law returns true; each argument reads behind the call as it read before'; 0 by the template 'total and deterministic' (their statements: YthlhfdidlfdaiaaTotals.lean).
  GIVEN WITH THE SEED: the statements are not yours to turn. If you find one false, say at which input.
  Laid BY PROGRAM, IN A SANDBOX (cutbox-rows.mjs): the forced cells as the released guide's own fill.sh prints them over the translation dc4fac20e277ead4… (all of the seat's roots in one cut). By AI agents, Wed Nov 11 2026. No macro, syntax, notation, axiom, sorry.
-/
import Derived.Test.YthlhfdidlfdaiaaChecked
import GoSem.Claim
import GoSem.ClaimJoined
import GoSem.ClaimMapViews
import Derived.JoinedTies
import Derived.KernelRfl
namespace Go.Proofs.Ythlhfdidlfdaiaa
/- THE CELL 'sum', in the pinned program and in every row, IS THE sha256 OF THE DUMP (.gsa) THAT YthlhfdidlfdaiaaProg.lean LOADS. Nothing in Lean hashes anything: it is a label: what it is worth is what the hold of that sum in a sandbox is worth. -/
noncomputable def Try.pinned : Pinned := { name := "ythlhfdidlfdaiaa", sum := "dc4fac20e277ead4c785b21776a160cb21f517eb9afaf18bf69d457825bad393", checked := Try.checked }
namespace Rows
def none {H : Type} : Left H := { results := [], args := [] }

/-- 'laws.FnErrors': WHATEVER THE INPUT: true; the input reads as it did. -/
def fnErrorsSpec : ChangeSpec := { name := "fnErrors", fn := fun _ => fun
  | [d] => { results := [.lit (.bool true)], args := [d] }
  | _ => none }
def fnErrorsRow : OpenClaim := { program := "ythlhfdidlfdaiaa", sum := "dc4fac20e277ead4c785b21776a160cb21f517eb9afaf18bf69d457825bad393", func := "loop.example/pub-globmeetings/laws.FnErrors", spec := "fnErrors", unfollowed := true, recurses := true, plainKeys := false, apart := false }
def FnErrorsSaid : Prop := fnErrorsRow.holds Try.pinned (OpenSpec.ofChange fnErrorsSpec)

/-- ITS FALSE NEIGHBOUR: 'it returns false'. Refute it at one input. -/
def fnErrorsWrong : ChangeSpec := { name := "fnErrors", fn := fun _ => fun
  | [d] => { results := [.lit (.bool false)], args := [d] }
  | _ => none }
def FnErrorsWrongFalsely : Prop := fnErrorsRow.holds Try.pinned (OpenSpec.ofChange fnErrorsWrong)

/-- 'laws.FnExactLiteral': WHATEVER THE INPUT: true; the input reads as it did. -/
def fnExactLiteralSpec : ChangeSpec := { name := "fnExactLiteral", fn := fun _ => fun
  | [d1, d2] => { results := [.lit (.bool true)], args := [d1, d2] }
  | _ => none }
def fnExactLiteralRow : OpenClaim := { program := "ythlhfdidlfdaiaa", sum := "dc4fac20e277ead4c785b21776a160cb21f517eb9afaf18bf69d457825bad393", func := "loop.example/pub-globmeetings/laws.FnExactLiteral", spec := "fnExactLiteral", unfollowed := true, recurses := true, plainKeys := false, apart := false }
def FnExactLiteralSaid : Prop := fnExactLiteralRow.holds Try.pinned (OpenSpec.ofChange fnExactLiteralSpec)

/-- ITS FALSE NEIGHBOUR: 'it returns false'. Refute it at one input. -/
def fnExactLiteralWrong : ChangeSpec := { name := "fnExactLiteral", fn := fun _ => fun
  | [d1, d2] => { results := [.lit (.bool false)], args := [d1, d2] }
  | _ => none }
def FnExactLiteralWrongFalsely : Prop := fnExactLiteralRow.holds Try.pinned (OpenSpec.ofChange fnExactLiteralWrong)

/-- 'laws.FnExactMeet': WHATEVER THE INPUT: true; the input reads as it did. -/
def fnExactMeetSpec : ChangeSpec := { name := "fnExactMeet", fn := fun _ => fun
  | [d1, d2] => { results := [.lit (.bool true)], args := [d1, d2] }
  | _ => none }
def fnExactMeetRow : OpenClaim := { program := "ythlhfdidlfdaiaa", sum := "dc4fac20e277ead4c785b21776a160cb21f517eb9afaf18bf69d457825bad393", func := "loop.example/pub-globmeetings/laws.FnExactMeet", spec := "fnExactMeet", unfollowed := true, recurses := true, plainKeys := false, apart := false }
def FnExactMeetSaid : Prop := fnExactMeetRow.holds Try.pinned (OpenSpec.ofChange fnExactMeetSpec)

/-- ITS FALSE NEIGHBOUR: 'it returns false'. Refute it at one input. -/
def fnExactMeetWrong : ChangeSpec := { name := "fnExactMeet", fn := fun _ => fun
  | [d1, d2] => { results := [.lit (.bool false)], args := [d1, d2] }
  | _ => none }
def FnExactMeetWrongFalsely : Prop := fnExactMeetRow.holds Try.pinned (OpenSpec.ofChange fnExactMeetWrong)

/-- 'laws.FnExactPlain': WHATEVER THE INPUT: true; the input reads as it did. -/
def fnExactPlainSpec : ChangeSpec := { name := "fnExactPlain", fn := fun _ => fun
  | [d1, d2] => { results := [.lit (.bool true)], args := [d1, d2] }
  | _ => none }
def fnExactPlainRow : OpenClaim := { program := "ythlhfdidlfdaiaa", sum := "dc4fac20e277ead4c785b21776a160cb21f517eb9afaf18bf69d457825bad393", func := "loop.example/pub-globmeetings/laws.FnExactPlain", spec := "fnExactPlain", unfollowed := true, recurses := true, plainKeys := false, apart := false }
def FnExactPlainSaid : Prop := fnExactPlainRow.holds Try.pinned (OpenSpec.ofChange fnExactPlainSpec)

/-- ITS FALSE NEIGHBOUR: 'it returns false'. Refute it at one input. -/
def fnExactPlainWrong : ChangeSpec := { name := "fnExactPlain", fn := fun _ => fun
  | [d1, d2] => { results := [.lit (.bool false)], args := [d1, d2] }
  | _ => none }
def FnExactPlainWrongFalsely : Prop := fnExactPlainRow.holds Try.pinned (OpenSpec.ofChange fnExactPlainWrong)

/-- 'laws.FnExactSigns': WHATEVER THE INPUT: true; the input reads as it did. -/
def fnExactSignsSpec : ChangeSpec := { name := "fnExactSigns", fn := fun _ => fun
  | [d1, d2, d3] => { results := [.lit (.bool true)], args := [d1, d2, d3] }
  | _ => none }
def fnExactSignsRow : OpenClaim := { program := "ythlhfdidlfdaiaa", sum := "dc4fac20e277ead4c785b21776a160cb21f517eb9afaf18bf69d457825bad393", func := "loop.example/pub-globmeetings/laws.FnExactSigns", spec := "fnExactSigns", unfollowed := true, recurses := true, plainKeys := false, apart := false }
def FnExactSignsSaid : Prop := fnExactSignsRow.holds Try.pinned (OpenSpec.ofChange fnExactSignsSpec)

/-- ITS FALSE NEIGHBOUR: 'it returns false'. Refute it at one input. -/
def fnExactSignsWrong : ChangeSpec := { name := "fnExactSigns", fn := fun _ => fun
  | [d1, d2, d3] => { results := [.lit (.bool false)], args := [d1, d2, d3] }
  | _ => none }
def FnExactSignsWrongFalsely : Prop := fnExactSignsRow.holds Try.pinned (OpenSpec.ofChange fnExactSignsWrong)

/-- 'laws.FnSelf': WHATEVER THE INPUT: true; the input reads as it did. -/
def fnSelfSpec : ChangeSpec := { name := "fnSelf", fn := fun _ => fun
  | [d] => { results := [.lit (.bool true)], args := [d] }
  | _ => none }
def fnSelfRow : OpenClaim := { program := "ythlhfdidlfdaiaa", sum := "dc4fac20e277ead4c785b21776a160cb21f517eb9afaf18bf69d457825bad393", func := "loop.example/pub-globmeetings/laws.FnSelf", spec := "fnSelf", unfollowed := true, recurses := true, plainKeys := false, apart := false }
def FnSelfSaid : Prop := fnSelfRow.holds Try.pinned (OpenSpec.ofChange fnSelfSpec)

/-- ITS FALSE NEIGHBOUR: 'it returns false'. Refute it at one input. -/
def fnSelfWrong : ChangeSpec := { name := "fnSelf", fn := fun _ => fun
  | [d] => { results := [.lit (.bool false)], args := [d] }
  | _ => none }
def FnSelfWrongFalsely : Prop := fnSelfRow.holds Try.pinned (OpenSpec.ofChange fnSelfWrong)

/-- 'laws.FnTurned': WHATEVER THE INPUT: true; the input reads as it did. -/
def fnTurnedSpec : ChangeSpec := { name := "fnTurned", fn := fun _ => fun
  | [d1, d2] => { results := [.lit (.bool true)], args := [d1, d2] }
  | _ => none }
def fnTurnedRow : OpenClaim := { program := "ythlhfdidlfdaiaa", sum := "dc4fac20e277ead4c785b21776a160cb21f517eb9afaf18bf69d457825bad393", func := "loop.example/pub-globmeetings/laws.FnTurned", spec := "fnTurned", unfollowed := true, recurses := true, plainKeys := false, apart := false }
def FnTurnedSaid : Prop := fnTurnedRow.holds Try.pinned (OpenSpec.ofChange fnTurnedSpec)

/-- ITS FALSE NEIGHBOUR: 'it returns false'. Refute it at one input. -/
def fnTurnedWrong : ChangeSpec := { name := "fnTurned", fn := fun _ => fun
  | [d1, d2] => { results := [.lit (.bool false)], args := [d1, d2] }
  | _ => none }
def FnTurnedWrongFalsely : Prop := fnTurnedRow.holds Try.pinned (OpenSpec.ofChange fnTurnedWrong)

/-- 'laws.FnExactSets': WHATEVER THE INPUT: true; the input reads as it did. -/
def fnExactSetsSpec : ChangeSpec := { name := "fnExactSets", fn := fun _ => fun
  | [d1, d2] => { results := [.lit (.bool true)], args := [d1, d2] }
  | _ => none }
def fnExactSetsRow : OpenClaim := { program := "ythlhfdidlfdaiaa", sum := "dc4fac20e277ead4c785b21776a160cb21f517eb9afaf18bf69d457825bad393", func := "loop.example/pub-globmeetings/laws.FnExactSets", spec := "fnExactSets", unfollowed := true, recurses := true, plainKeys := false, apart := false }
def FnExactSetsSaid : Prop := fnExactSetsRow.holds Try.pinned (OpenSpec.ofChange fnExactSetsSpec)

/-- ITS FALSE NEIGHBOUR: 'it returns false'. Refute it at one input. -/
def fnExactSetsWrong : ChangeSpec := { name := "fnExactSets", fn := fun _ => fun
  | [d1, d2] => { results := [.lit (.bool false)], args := [d1, d2] }
  | _ => none }
def FnExactSetsWrongFalsely : Prop := fnExactSetsRow.holds Try.pinned (OpenSpec.ofChange fnExactSetsWrong)

/-- 'laws.FnShorter': WHATEVER THE INPUT: true; the input reads as it did. -/
def fnShorterSpec : ChangeSpec := { name := "fnShorter", fn := fun _ => fun
  | [d] => { results := [.lit (.bool true)], args := [d] }
  | _ => none }
def fnShorterRow : OpenClaim := { program := "ythlhfdidlfdaiaa", sum := "dc4fac20e277ead4c785b21776a160cb21f517eb9afaf18bf69d457825bad393", func := "loop.example/pub-globmeetings/laws.FnShorter", spec := "fnShorter", unfollowed := true, recurses := true, plainKeys := false, apart := false }
def FnShorterSaid : Prop := fnShorterRow.holds Try.pinned (OpenSpec.ofChange fnShorterSpec)

/-- ITS FALSE NEIGHBOUR: 'it returns false'. Refute it at one input. -/
def fnShorterWrong : ChangeSpec := { name := "fnShorter", fn := fun _ => fun
  | [d] => { results := [.lit (.bool false)], args := [d] }
  | _ => none }
def FnShorterWrongFalsely : Prop := fnShorterRow.holds Try.pinned (OpenSpec.ofChange fnShorterWrong)

/- THE SECOND FORM. 'bulk': how many values and letters a reading holds, each counted each time it is reached (what is shared counts as often as it is met; a slice's spare places count too). A statement '..UptoSaid' is the law's where the arguments, and the package variables that the reading takes, are together of bulk at most 1048576: NARROWER than '..Said'. Prove '..Said' where nothing that the law and all that it calls make is longer than what came in: it says more and counts as full. Else prove '..UptoSaid'. A law counts once. -/
mutual
def uptoBulk {H : Type} : DataW H → Nat
  | .lit (.string bytes) => bytes.length + 1
  | .lit _ => 1
  | .nil => 1
  | .ptr d => uptoBulk d + 1
  | .slice elems spare => uptoBulkAll elems + uptoBulkAll spare + 1
  | .agg parts => uptoBulkAll parts + 1
  | .iface _ d => uptoBulk d + 1
  | .map entries => uptoBulkEntries entries + 1
  | .held _ => 1
def uptoBulkAll {H : Type} : List (DataW H) → Nat
  | [] => 0
  | d :: r => uptoBulk d + uptoBulkAll r
def uptoBulkEntries {H : Type} : List (Lit × DataW H) → Nat
  | [] => 0
  | x :: r => uptoBulkEntry x + uptoBulkEntries r
def uptoBulkEntry {H : Type} : Lit × DataW H → Nat
  | (.string bytes, d) => bytes.length + uptoBulk d + 1
  | (_, d) => uptoBulk d + 1
 end
def uptoSmall : (H : Type) → List (DataW H) → Bool := fun _ ds => decide (uptoBulkAll ds ≤ 1048576)
def OpenSpec.upto (s : _root_.Go.ChangeSpec) : _root_.Go.OpenSpec := { _root_.Go.OpenSpec.ofChange s with cond := some uptoSmall }

/-- 'laws.FnErrors', WHERE WHAT IT READS IS OF BULK AT MOST 1048576: true; the input reads as it did. -/
def fnErrorsUptoRow : OpenClaim := { program := "ythlhfdidlfdaiaa", sum := "dc4fac20e277ead4c785b21776a160cb21f517eb9afaf18bf69d457825bad393", func := "loop.example/pub-globmeetings/laws.FnErrors", spec := "fnErrors", unfollowed := true, recurses := true, plainKeys := false, apart := false, narrowed := true }
def FnErrorsUptoSaid : Prop := fnErrorsUptoRow.holds Try.pinned (OpenSpec.upto fnErrorsSpec)

/-- 'laws.FnExactLiteral', WHERE WHAT IT READS IS OF BULK AT MOST 1048576: true; the input reads as it did. -/
def fnExactLiteralUptoRow : OpenClaim := { program := "ythlhfdidlfdaiaa", sum := "dc4fac20e277ead4c785b21776a160cb21f517eb9afaf18bf69d457825bad393", func := "loop.example/pub-globmeetings/laws.FnExactLiteral", spec := "fnExactLiteral", unfollowed := true, recurses := true, plainKeys := false, apart := false, narrowed := true }
def FnExactLiteralUptoSaid : Prop := fnExactLiteralUptoRow.holds Try.pinned (OpenSpec.upto fnExactLiteralSpec)

/-- 'laws.FnExactMeet', WHERE WHAT IT READS IS OF BULK AT MOST 1048576: true; the input reads as it did. -/
def fnExactMeetUptoRow : OpenClaim := { program := "ythlhfdidlfdaiaa", sum := "dc4fac20e277ead4c785b21776a160cb21f517eb9afaf18bf69d457825bad393", func := "loop.example/pub-globmeetings/laws.FnExactMeet", spec := "fnExactMeet", unfollowed := true, recurses := true, plainKeys := false, apart := false, narrowed := true }
def FnExactMeetUptoSaid : Prop := fnExactMeetUptoRow.holds Try.pinned (OpenSpec.upto fnExactMeetSpec)

/-- 'laws.FnExactPlain', WHERE WHAT IT READS IS OF BULK AT MOST 1048576: true; the input reads as it did. -/
def fnExactPlainUptoRow : OpenClaim := { program := "ythlhfdidlfdaiaa", sum := "dc4fac20e277ead4c785b21776a160cb21f517eb9afaf18bf69d457825bad393", func := "loop.example/pub-globmeetings/laws.FnExactPlain", spec := "fnExactPlain", unfollowed := true, recurses := true, plainKeys := false, apart := false, narrowed := true }
def FnExactPlainUptoSaid : Prop := fnExactPlainUptoRow.holds Try.pinned (OpenSpec.upto fnExactPlainSpec)

/-- 'laws.FnExactSigns', WHERE WHAT IT READS IS OF BULK AT MOST 1048576: true; the input reads as it did. -/
def fnExactSignsUptoRow : OpenClaim := { program := "ythlhfdidlfdaiaa", sum := "dc4fac20e277ead4c785b21776a160cb21f517eb9afaf18bf69d457825bad393", func := "loop.example/pub-globmeetings/laws.FnExactSigns", spec := "fnExactSigns", unfollowed := true, recurses := true, plainKeys := false, apart := false, narrowed := true }
def FnExactSignsUptoSaid : Prop := fnExactSignsUptoRow.holds Try.pinned (OpenSpec.upto fnExactSignsSpec)

/-- 'laws.FnSelf', WHERE WHAT IT READS IS OF BULK AT MOST 1048576: true; the input reads as it did. -/
def fnSelfUptoRow : OpenClaim := { program := "ythlhfdidlfdaiaa", sum := "dc4fac20e277ead4c785b21776a160cb21f517eb9afaf18bf69d457825bad393", func := "loop.example/pub-globmeetings/laws.FnSelf", spec := "fnSelf", unfollowed := true, recurses := true, plainKeys := false, apart := false, narrowed := true }
def FnSelfUptoSaid : Prop := fnSelfUptoRow.holds Try.pinned (OpenSpec.upto fnSelfSpec)

/-- 'laws.FnTurned', WHERE WHAT IT READS IS OF BULK AT MOST 1048576: true; the input reads as it did. -/
def fnTurnedUptoRow : OpenClaim := { program := "ythlhfdidlfdaiaa", sum := "dc4fac20e277ead4c785b21776a160cb21f517eb9afaf18bf69d457825bad393", func := "loop.example/pub-globmeetings/laws.FnTurned", spec := "fnTurned", unfollowed := true, recurses := true, plainKeys := false, apart := false, narrowed := true }
def FnTurnedUptoSaid : Prop := fnTurnedUptoRow.holds Try.pinned (OpenSpec.upto fnTurnedSpec)

/-- 'laws.FnExactSets', WHERE WHAT IT READS IS OF BULK AT MOST 1048576: true; the input reads as it did. -/
def fnExactSetsUptoRow : OpenClaim := { program := "ythlhfdidlfdaiaa", sum := "dc4fac20e277ead4c785b21776a160cb21f517eb9afaf18bf69d457825bad393", func := "loop.example/pub-globmeetings/laws.FnExactSets", spec := "fnExactSets", unfollowed := true, recurses := true, plainKeys := false, apart := false, narrowed := true }
def FnExactSetsUptoSaid : Prop := fnExactSetsUptoRow.holds Try.pinned (OpenSpec.upto fnExactSetsSpec)

/-- 'laws.FnShorter', WHERE WHAT IT READS IS OF BULK AT MOST 1048576: true; the input reads as it did. -/
def fnShorterUptoRow : OpenClaim := { program := "ythlhfdidlfdaiaa", sum := "dc4fac20e277ead4c785b21776a160cb21f517eb9afaf18bf69d457825bad393", func := "loop.example/pub-globmeetings/laws.FnShorter", spec := "fnShorter", unfollowed := true, recurses := true, plainKeys := false, apart := false, narrowed := true }
def FnShorterUptoSaid : Prop := fnShorterUptoRow.holds Try.pinned (OpenSpec.upto fnShorterSpec)

end Rows
end Go.Proofs.Ythlhfdidlfdaiaa
