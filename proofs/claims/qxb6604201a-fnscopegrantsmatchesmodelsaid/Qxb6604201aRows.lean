/-
  No cell of these rows narrows 'for every input' (looked for: loops, veiled, ifaces, maps, wideKeys, modest, calm, conditions, laid).
  DERIVED. THE GIVEN ROWS OF THIS SEAT. 3 by the template 'for every input the law returns true; each argument reads behind the call as it read before'; 0 by the template 'total and deterministic' (their statements: Qxb6604201aTotals.lean).
  GIVEN WITH THE SEED: the statements are not yours to turn. If you find one false, say at which input.
  Laid BY PROGRAM, IN A SANDBOX (cutbox-rows.mjs): the forced cells as the released guide's own fill.sh prints them over the translation 0206d20149536820… (all of the seat's roots in one cut). By AI agents, Wed Nov 11 2026. No macro, syntax, notation, axiom, sorry.
-/
import Derived.Test.Qxb6604201aChecked
import GoSem.Claim
import GoSem.ClaimJoined
import GoSem.ClaimMapViews
import Derived.JoinedTies
import Derived.KernelRfl
namespace Go.Proofs.Qxb6604201a
/- THE CELL 'sum', in the pinned program and in every row, IS THE sha256 OF THE DUMP (.gsa) THAT Qxb6604201aProg.lean LOADS. Nothing in Lean hashes anything: it is a label: what it is worth is what the hold of that sum in a sandbox is worth. -/
noncomputable def Try.pinned : Pinned := { name := "qxb6604201a", sum := "0206d2014953682040a2485de59e915aa5b5f68d39db765ba2a3d90f3b480a7c", checked := Try.checked }
namespace Rows
def none {H : Type} : Left H := { results := [], args := [] }

/-- 'zzlaws_pkg_scope_b1.FnScopeValidMatchesGrammarModel': WHATEVER THE INPUT: true; the input reads as it did. -/
def fnScopeValidMatchesGrammarModelSpec : ChangeSpec := { name := "fnScopeValidMatchesGrammarModel", fn := fun _ => fun
  | [d] => { results := [.lit (.bool true)], args := [d] }
  | _ => none }
def fnScopeValidMatchesGrammarModelRow : OpenClaim := { program := "qxb6604201a", sum := "0206d2014953682040a2485de59e915aa5b5f68d39db765ba2a3d90f3b480a7c", func := "example.com/credd/credd/zzlaws_pkg_scope_b1.FnScopeValidMatchesGrammarModel", spec := "fnScopeValidMatchesGrammarModel", inPlace := ["internal/bytealg.IndexByteString", "internal/bytealg.IndexString"], named := ["internal/bytealg.MaxLen"], apart := false }
def FnScopeValidMatchesGrammarModelSaid : Prop := fnScopeValidMatchesGrammarModelRow.holds Try.pinned (OpenSpec.ofChange fnScopeValidMatchesGrammarModelSpec)

/-- ITS FALSE NEIGHBOUR: 'it returns false'. Refute it at one input. -/
def fnScopeValidMatchesGrammarModelWrong : ChangeSpec := { name := "fnScopeValidMatchesGrammarModel", fn := fun _ => fun
  | [d] => { results := [.lit (.bool false)], args := [d] }
  | _ => none }
def FnScopeValidMatchesGrammarModelWrongFalsely : Prop := fnScopeValidMatchesGrammarModelRow.holds Try.pinned (OpenSpec.ofChange fnScopeValidMatchesGrammarModelWrong)

/-- 'zzlaws_pkg_scope_b1.FnScopeValidAgreesWithValidRequired': WHATEVER THE INPUT: true; the input reads as it did. -/
def fnScopeValidAgreesWithValidRequiredSpec : ChangeSpec := { name := "fnScopeValidAgreesWithValidRequired", fn := fun _ => fun
  | [d] => { results := [.lit (.bool true)], args := [d] }
  | _ => none }
def fnScopeValidAgreesWithValidRequiredRow : OpenClaim := { program := "qxb6604201a", sum := "0206d2014953682040a2485de59e915aa5b5f68d39db765ba2a3d90f3b480a7c", func := "example.com/credd/credd/zzlaws_pkg_scope_b1.FnScopeValidAgreesWithValidRequired", spec := "fnScopeValidAgreesWithValidRequired", inPlace := ["internal/bytealg.IndexByteString", "internal/bytealg.IndexString"], named := ["internal/bytealg.MaxLen"], apart := false }
def FnScopeValidAgreesWithValidRequiredSaid : Prop := fnScopeValidAgreesWithValidRequiredRow.holds Try.pinned (OpenSpec.ofChange fnScopeValidAgreesWithValidRequiredSpec)

/-- ITS FALSE NEIGHBOUR: 'it returns false'. Refute it at one input. -/
def fnScopeValidAgreesWithValidRequiredWrong : ChangeSpec := { name := "fnScopeValidAgreesWithValidRequired", fn := fun _ => fun
  | [d] => { results := [.lit (.bool false)], args := [d] }
  | _ => none }
def FnScopeValidAgreesWithValidRequiredWrongFalsely : Prop := fnScopeValidAgreesWithValidRequiredRow.holds Try.pinned (OpenSpec.ofChange fnScopeValidAgreesWithValidRequiredWrong)

/-- 'zzlaws_pkg_scope_b1.FnScopeGrantsMatchesModel': WHATEVER THE INPUT: true; the input reads as it did. -/
def fnScopeGrantsMatchesModelSpec : ChangeSpec := { name := "fnScopeGrantsMatchesModel", fn := fun _ => fun
  | [d1, d2] => { results := [.lit (.bool true)], args := [d1, d2] }
  | _ => none }
def fnScopeGrantsMatchesModelRow : OpenClaim := { program := "qxb6604201a", sum := "0206d2014953682040a2485de59e915aa5b5f68d39db765ba2a3d90f3b480a7c", func := "example.com/credd/credd/zzlaws_pkg_scope_b1.FnScopeGrantsMatchesModel", spec := "fnScopeGrantsMatchesModel", inPlace := ["internal/bytealg.IndexByteString", "internal/bytealg.IndexString"], named := ["internal/bytealg.MaxLen"], apart := false }
def FnScopeGrantsMatchesModelSaid : Prop := fnScopeGrantsMatchesModelRow.holds Try.pinned (OpenSpec.ofChange fnScopeGrantsMatchesModelSpec)

/-- ITS FALSE NEIGHBOUR: 'it returns false'. Refute it at one input. -/
def fnScopeGrantsMatchesModelWrong : ChangeSpec := { name := "fnScopeGrantsMatchesModel", fn := fun _ => fun
  | [d1, d2] => { results := [.lit (.bool false)], args := [d1, d2] }
  | _ => none }
def FnScopeGrantsMatchesModelWrongFalsely : Prop := fnScopeGrantsMatchesModelRow.holds Try.pinned (OpenSpec.ofChange fnScopeGrantsMatchesModelWrong)

end Rows
end Go.Proofs.Qxb6604201a
