/-
  No cell of these rows narrows 'for every input' (looked for: loops, veiled, ifaces, maps, wideKeys, modest, calm, conditions, laid).
  DERIVED. THE GIVEN ROWS OF THIS SEAT. 6 by the template 'for every input the law returns true; each argument reads behind the call as it read before'; 0 by the template 'total and deterministic' (their statements: Qxb6600463aTotals.lean).
  GIVEN WITH THE SEED: the statements are not yours to turn. If you find one false, say at which input.
  Laid BY PROGRAM, IN A SANDBOX (cutbox-rows.mjs): the forced cells as the released guide's own fill.sh prints them over the translation 751f38fe5669dfa6… (all of the seat's roots in one cut). By AI agents, Wed Nov 11 2026. No macro, syntax, notation, axiom, sorry.
-/
import Derived.Test.Qxb6600463aChecked
import GoSem.Claim
import GoSem.ClaimJoined
import GoSem.ClaimMapViews
import Derived.JoinedTies
import Derived.KernelRfl
namespace Go.Proofs.Qxb6600463a
/- THE CELL 'sum', in the pinned program and in every row, IS THE sha256 OF THE DUMP (.gsa) THAT Qxb6600463aProg.lean LOADS. Nothing in Lean hashes anything: it is a label: what it is worth is what the hold of that sum in a sandbox is worth. -/
noncomputable def Try.pinned : Pinned := { name := "qxb6600463a", sum := "751f38fe5669dfa69dd9466f386ac59ae9668d1777b92d869e4827a33fc65b7d", checked := Try.checked }
namespace Rows
def none {H : Type} : Left H := { results := [], args := [] }

/-- 'zzlaws_internal_jsonscan_b1.FnStringEndFindsTheQuotesOwnEnd': WHATEVER THE INPUT: true; the input reads as it did. -/
def fnStringEndFindsTheQuotesOwnEndSpec : ChangeSpec := { name := "fnStringEndFindsTheQuotesOwnEnd", fn := fun _ => fun
  | [d1, d2, d3, d4] => { results := [.lit (.bool true)], args := [d1, d2, d3, d4] }
  | _ => none }
def fnStringEndFindsTheQuotesOwnEndRow : OpenClaim := { program := "qxb6600463a", sum := "751f38fe5669dfa69dd9466f386ac59ae9668d1777b92d869e4827a33fc65b7d", func := "example.com/drawr/drawr/zzlaws_internal_jsonscan_b1.FnStringEndFindsTheQuotesOwnEnd", spec := "fnStringEndFindsTheQuotesOwnEnd", inPlace := ["internal/bytealg.IndexByte"], apart := false }
def FnStringEndFindsTheQuotesOwnEndSaid : Prop := fnStringEndFindsTheQuotesOwnEndRow.holds Try.pinned (OpenSpec.ofChange fnStringEndFindsTheQuotesOwnEndSpec)

/-- ITS FALSE NEIGHBOUR: 'it returns false'. Refute it at one input. -/
def fnStringEndFindsTheQuotesOwnEndWrong : ChangeSpec := { name := "fnStringEndFindsTheQuotesOwnEnd", fn := fun _ => fun
  | [d1, d2, d3, d4] => { results := [.lit (.bool false)], args := [d1, d2, d3, d4] }
  | _ => none }
def FnStringEndFindsTheQuotesOwnEndWrongFalsely : Prop := fnStringEndFindsTheQuotesOwnEndRow.holds Try.pinned (OpenSpec.ofChange fnStringEndFindsTheQuotesOwnEndWrong)

/-- 'zzlaws_internal_jsonscan_b1.FnStringEndAgreesWithGrammar': WHATEVER THE INPUT: true; the input reads as it did. -/
def fnStringEndAgreesWithGrammarSpec : ChangeSpec := { name := "fnStringEndAgreesWithGrammar", fn := fun _ => fun
  | [d] => { results := [.lit (.bool true)], args := [d] }
  | _ => none }
def fnStringEndAgreesWithGrammarRow : OpenClaim := { program := "qxb6600463a", sum := "751f38fe5669dfa69dd9466f386ac59ae9668d1777b92d869e4827a33fc65b7d", func := "example.com/drawr/drawr/zzlaws_internal_jsonscan_b1.FnStringEndAgreesWithGrammar", spec := "fnStringEndAgreesWithGrammar", inPlace := ["internal/bytealg.IndexByte"], recurses := true, apart := false }
def FnStringEndAgreesWithGrammarSaid : Prop := fnStringEndAgreesWithGrammarRow.holds Try.pinned (OpenSpec.ofChange fnStringEndAgreesWithGrammarSpec)

/-- ITS FALSE NEIGHBOUR: 'it returns false'. Refute it at one input. -/
def fnStringEndAgreesWithGrammarWrong : ChangeSpec := { name := "fnStringEndAgreesWithGrammar", fn := fun _ => fun
  | [d] => { results := [.lit (.bool false)], args := [d] }
  | _ => none }
def FnStringEndAgreesWithGrammarWrongFalsely : Prop := fnStringEndAgreesWithGrammarRow.holds Try.pinned (OpenSpec.ofChange fnStringEndAgreesWithGrammarWrong)

/-- 'zzlaws_internal_jsonscan_b1.FnDepthAgreesWithGrammar': WHATEVER THE INPUT: true; the input reads as it did. -/
def fnDepthAgreesWithGrammarSpec : ChangeSpec := { name := "fnDepthAgreesWithGrammar", fn := fun _ => fun
  | [d] => { results := [.lit (.bool true)], args := [d] }
  | _ => none }
def fnDepthAgreesWithGrammarRow : OpenClaim := { program := "qxb6600463a", sum := "751f38fe5669dfa69dd9466f386ac59ae9668d1777b92d869e4827a33fc65b7d", func := "example.com/drawr/drawr/zzlaws_internal_jsonscan_b1.FnDepthAgreesWithGrammar", spec := "fnDepthAgreesWithGrammar", inPlace := ["internal/bytealg.IndexByte"], recurses := true, apart := false }
def FnDepthAgreesWithGrammarSaid : Prop := fnDepthAgreesWithGrammarRow.holds Try.pinned (OpenSpec.ofChange fnDepthAgreesWithGrammarSpec)

/-- ITS FALSE NEIGHBOUR: 'it returns false'. Refute it at one input. -/
def fnDepthAgreesWithGrammarWrong : ChangeSpec := { name := "fnDepthAgreesWithGrammar", fn := fun _ => fun
  | [d] => { results := [.lit (.bool false)], args := [d] }
  | _ => none }
def FnDepthAgreesWithGrammarWrongFalsely : Prop := fnDepthAgreesWithGrammarRow.holds Try.pinned (OpenSpec.ofChange fnDepthAgreesWithGrammarWrong)

/-- 'zzlaws_internal_jsonscan_b1.FnDepthOfArrayAndObject': WHATEVER THE INPUT: true; the input reads as it did. -/
def fnDepthOfArrayAndObjectSpec : ChangeSpec := { name := "fnDepthOfArrayAndObject", fn := fun _ => fun
  | [d1, d2] => { results := [.lit (.bool true)], args := [d1, d2] }
  | _ => none }
def fnDepthOfArrayAndObjectRow : OpenClaim := { program := "qxb6600463a", sum := "751f38fe5669dfa69dd9466f386ac59ae9668d1777b92d869e4827a33fc65b7d", func := "example.com/drawr/drawr/zzlaws_internal_jsonscan_b1.FnDepthOfArrayAndObject", spec := "fnDepthOfArrayAndObject", inPlace := ["internal/bytealg.IndexByte"], recurses := true, apart := false }
def FnDepthOfArrayAndObjectSaid : Prop := fnDepthOfArrayAndObjectRow.holds Try.pinned (OpenSpec.ofChange fnDepthOfArrayAndObjectSpec)

/-- ITS FALSE NEIGHBOUR: 'it returns false'. Refute it at one input. -/
def fnDepthOfArrayAndObjectWrong : ChangeSpec := { name := "fnDepthOfArrayAndObject", fn := fun _ => fun
  | [d1, d2] => { results := [.lit (.bool false)], args := [d1, d2] }
  | _ => none }
def FnDepthOfArrayAndObjectWrongFalsely : Prop := fnDepthOfArrayAndObjectRow.holds Try.pinned (OpenSpec.ofChange fnDepthOfArrayAndObjectWrong)

/-- 'zzlaws_internal_jsonscan_b1.FnSkipValueAgreesWithGrammar': WHATEVER THE INPUT: true; the input reads as it did. -/
def fnSkipValueAgreesWithGrammarSpec : ChangeSpec := { name := "fnSkipValueAgreesWithGrammar", fn := fun _ => fun
  | [d] => { results := [.lit (.bool true)], args := [d] }
  | _ => none }
def fnSkipValueAgreesWithGrammarRow : OpenClaim := { program := "qxb6600463a", sum := "751f38fe5669dfa69dd9466f386ac59ae9668d1777b92d869e4827a33fc65b7d", func := "example.com/drawr/drawr/zzlaws_internal_jsonscan_b1.FnSkipValueAgreesWithGrammar", spec := "fnSkipValueAgreesWithGrammar", inPlace := ["internal/bytealg.IndexByte"], recurses := true, apart := false }
def FnSkipValueAgreesWithGrammarSaid : Prop := fnSkipValueAgreesWithGrammarRow.holds Try.pinned (OpenSpec.ofChange fnSkipValueAgreesWithGrammarSpec)

/-- ITS FALSE NEIGHBOUR: 'it returns false'. Refute it at one input. -/
def fnSkipValueAgreesWithGrammarWrong : ChangeSpec := { name := "fnSkipValueAgreesWithGrammar", fn := fun _ => fun
  | [d] => { results := [.lit (.bool false)], args := [d] }
  | _ => none }
def FnSkipValueAgreesWithGrammarWrongFalsely : Prop := fnSkipValueAgreesWithGrammarRow.holds Try.pinned (OpenSpec.ofChange fnSkipValueAgreesWithGrammarWrong)

/-- 'zzlaws_internal_jsonscan_b1.FnSkipValueStepsOverElements': WHATEVER THE INPUT: true; the input reads as it did. -/
def fnSkipValueStepsOverElementsSpec : ChangeSpec := { name := "fnSkipValueStepsOverElements", fn := fun _ => fun
  | [d1, d2] => { results := [.lit (.bool true)], args := [d1, d2] }
  | _ => none }
def fnSkipValueStepsOverElementsRow : OpenClaim := { program := "qxb6600463a", sum := "751f38fe5669dfa69dd9466f386ac59ae9668d1777b92d869e4827a33fc65b7d", func := "example.com/drawr/drawr/zzlaws_internal_jsonscan_b1.FnSkipValueStepsOverElements", spec := "fnSkipValueStepsOverElements", inPlace := ["internal/bytealg.IndexByte"], recurses := true, apart := false }
def FnSkipValueStepsOverElementsSaid : Prop := fnSkipValueStepsOverElementsRow.holds Try.pinned (OpenSpec.ofChange fnSkipValueStepsOverElementsSpec)

/-- ITS FALSE NEIGHBOUR: 'it returns false'. Refute it at one input. -/
def fnSkipValueStepsOverElementsWrong : ChangeSpec := { name := "fnSkipValueStepsOverElements", fn := fun _ => fun
  | [d1, d2] => { results := [.lit (.bool false)], args := [d1, d2] }
  | _ => none }
def FnSkipValueStepsOverElementsWrongFalsely : Prop := fnSkipValueStepsOverElementsRow.holds Try.pinned (OpenSpec.ofChange fnSkipValueStepsOverElementsWrong)

end Rows
end Go.Proofs.Qxb6600463a
