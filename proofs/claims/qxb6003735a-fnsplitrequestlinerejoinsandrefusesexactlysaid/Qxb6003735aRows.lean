/-
  No cell of these rows narrows 'for every input' (looked for: loops, veiled, ifaces, maps, wideKeys, modest, calm, conditions, laid).
  DERIVED. THE GIVEN ROWS OF THIS SEAT. 4 by the template 'for every input the law returns true; each argument reads behind the call as it read before'; 0 by the template 'total and deterministic' (their statements: Qxb6003735aTotals.lean).
  GIVEN WITH THE SEED: the statements are not yours to turn. If you find one false, say at which input.
  Laid BY PROGRAM, IN A SANDBOX (cutbox-rows.mjs): the forced cells as the released guide's own fill.sh prints them over the translation aa12d7782d4b4927… (all of the seat's roots in one cut). By AI agents, Wed Nov 11 2026. No macro, syntax, notation, axiom, sorry.
-/
import Derived.Test.Qxb6003735aChecked
import GoSem.Claim
import GoSem.ClaimJoined
import GoSem.ClaimMapViews
import Derived.JoinedTies
import Derived.KernelRfl
namespace Go.Proofs.Qxb6003735a
/- THE CELL 'sum', in the pinned program and in every row, IS THE sha256 OF THE DUMP (.gsa) THAT Qxb6003735aProg.lean LOADS. Nothing in Lean hashes anything: it is a label: what it is worth is what the hold of that sum in a sandbox is worth. -/
noncomputable def Try.pinned : Pinned := { name := "qxb6003735a", sum := "aa12d7782d4b49276ed5b68287b3e5ef5c0adaa3317995ee49d9511308b833a0", checked := Try.checked }
namespace Rows
def none {H : Type} : Left H := { results := [], args := [] }

/-- 'zzlaws_internal_http1_g1.FnIsTokenMatchesRFC9110Grammar': WHATEVER THE INPUT: true; the input reads as it did. -/
def fnIsTokenMatchesRFC9110GrammarSpec : ChangeSpec := { name := "fnIsTokenMatchesRFC9110Grammar", fn := fun _ => fun
  | [d] => { results := [.lit (.bool true)], args := [d] }
  | _ => none }
def fnIsTokenMatchesRFC9110GrammarRow : OpenClaim := { program := "qxb6003735a", sum := "aa12d7782d4b49276ed5b68287b3e5ef5c0adaa3317995ee49d9511308b833a0", func := "example.com/tenure/tenure/zzlaws_internal_http1_g1.FnIsTokenMatchesRFC9110Grammar", spec := "fnIsTokenMatchesRFC9110Grammar", inPlace := ["internal/bytealg.IndexByteString", "internal/bytealg.IndexString"], named := ["internal/bytealg.MaxLen"], apart := false }
def FnIsTokenMatchesRFC9110GrammarSaid : Prop := fnIsTokenMatchesRFC9110GrammarRow.holds Try.pinned (OpenSpec.ofChange fnIsTokenMatchesRFC9110GrammarSpec)

/-- ITS FALSE NEIGHBOUR: 'it returns false'. Refute it at one input. -/
def fnIsTokenMatchesRFC9110GrammarWrong : ChangeSpec := { name := "fnIsTokenMatchesRFC9110Grammar", fn := fun _ => fun
  | [d] => { results := [.lit (.bool false)], args := [d] }
  | _ => none }
def FnIsTokenMatchesRFC9110GrammarWrongFalsely : Prop := fnIsTokenMatchesRFC9110GrammarRow.holds Try.pinned (OpenSpec.ofChange fnIsTokenMatchesRFC9110GrammarWrong)

/-- 'zzlaws_internal_http1_g1.FnIsHostMatchesRFC3986Bytes': WHATEVER THE INPUT: true; the input reads as it did. -/
def fnIsHostMatchesRFC3986BytesSpec : ChangeSpec := { name := "fnIsHostMatchesRFC3986Bytes", fn := fun _ => fun
  | [d] => { results := [.lit (.bool true)], args := [d] }
  | _ => none }
def fnIsHostMatchesRFC3986BytesRow : OpenClaim := { program := "qxb6003735a", sum := "aa12d7782d4b49276ed5b68287b3e5ef5c0adaa3317995ee49d9511308b833a0", func := "example.com/tenure/tenure/zzlaws_internal_http1_g1.FnIsHostMatchesRFC3986Bytes", spec := "fnIsHostMatchesRFC3986Bytes", inPlace := ["internal/bytealg.IndexByteString", "internal/bytealg.IndexString"], named := ["internal/bytealg.MaxLen"], apart := false }
def FnIsHostMatchesRFC3986BytesSaid : Prop := fnIsHostMatchesRFC3986BytesRow.holds Try.pinned (OpenSpec.ofChange fnIsHostMatchesRFC3986BytesSpec)

/-- ITS FALSE NEIGHBOUR: 'it returns false'. Refute it at one input. -/
def fnIsHostMatchesRFC3986BytesWrong : ChangeSpec := { name := "fnIsHostMatchesRFC3986Bytes", fn := fun _ => fun
  | [d] => { results := [.lit (.bool false)], args := [d] }
  | _ => none }
def FnIsHostMatchesRFC3986BytesWrongFalsely : Prop := fnIsHostMatchesRFC3986BytesRow.holds Try.pinned (OpenSpec.ofChange fnIsHostMatchesRFC3986BytesWrong)

/-- 'zzlaws_internal_http1_g1.FnSplitRequestLineRejoinsAndRefusesExactly': WHATEVER THE INPUT: true; the input reads as it did. -/
def fnSplitRequestLineRejoinsAndRefusesExactlySpec : ChangeSpec := { name := "fnSplitRequestLineRejoinsAndRefusesExactly", fn := fun _ => fun
  | [d] => { results := [.lit (.bool true)], args := [d] }
  | _ => none }
def fnSplitRequestLineRejoinsAndRefusesExactlyRow : OpenClaim := { program := "qxb6003735a", sum := "aa12d7782d4b49276ed5b68287b3e5ef5c0adaa3317995ee49d9511308b833a0", func := "example.com/tenure/tenure/zzlaws_internal_http1_g1.FnSplitRequestLineRejoinsAndRefusesExactly", spec := "fnSplitRequestLineRejoinsAndRefusesExactly", inPlace := ["internal/bytealg.IndexByteString", "internal/bytealg.IndexString"], named := ["internal/bytealg.MaxLen"], apart := false }
def FnSplitRequestLineRejoinsAndRefusesExactlySaid : Prop := fnSplitRequestLineRejoinsAndRefusesExactlyRow.holds Try.pinned (OpenSpec.ofChange fnSplitRequestLineRejoinsAndRefusesExactlySpec)

/-- ITS FALSE NEIGHBOUR: 'it returns false'. Refute it at one input. -/
def fnSplitRequestLineRejoinsAndRefusesExactlyWrong : ChangeSpec := { name := "fnSplitRequestLineRejoinsAndRefusesExactly", fn := fun _ => fun
  | [d] => { results := [.lit (.bool false)], args := [d] }
  | _ => none }
def FnSplitRequestLineRejoinsAndRefusesExactlyWrongFalsely : Prop := fnSplitRequestLineRejoinsAndRefusesExactlyRow.holds Try.pinned (OpenSpec.ofChange fnSplitRequestLineRejoinsAndRefusesExactlyWrong)

/-- 'zzlaws_internal_http1_g1.FnSplitRequestLineInvertsJoin': WHATEVER THE INPUT: true; the input reads as it did. -/
def fnSplitRequestLineInvertsJoinSpec : ChangeSpec := { name := "fnSplitRequestLineInvertsJoin", fn := fun _ => fun
  | [d1, d2, d3] => { results := [.lit (.bool true)], args := [d1, d2, d3] }
  | _ => none }
def fnSplitRequestLineInvertsJoinRow : OpenClaim := { program := "qxb6003735a", sum := "aa12d7782d4b49276ed5b68287b3e5ef5c0adaa3317995ee49d9511308b833a0", func := "example.com/tenure/tenure/zzlaws_internal_http1_g1.FnSplitRequestLineInvertsJoin", spec := "fnSplitRequestLineInvertsJoin", inPlace := ["internal/bytealg.IndexByteString", "internal/bytealg.IndexString"], named := ["internal/bytealg.MaxLen"], apart := false }
def FnSplitRequestLineInvertsJoinSaid : Prop := fnSplitRequestLineInvertsJoinRow.holds Try.pinned (OpenSpec.ofChange fnSplitRequestLineInvertsJoinSpec)

/-- ITS FALSE NEIGHBOUR: 'it returns false'. Refute it at one input. -/
def fnSplitRequestLineInvertsJoinWrong : ChangeSpec := { name := "fnSplitRequestLineInvertsJoin", fn := fun _ => fun
  | [d1, d2, d3] => { results := [.lit (.bool false)], args := [d1, d2, d3] }
  | _ => none }
def FnSplitRequestLineInvertsJoinWrongFalsely : Prop := fnSplitRequestLineInvertsJoinRow.holds Try.pinned (OpenSpec.ofChange fnSplitRequestLineInvertsJoinWrong)

end Rows
end Go.Proofs.Qxb6003735a
