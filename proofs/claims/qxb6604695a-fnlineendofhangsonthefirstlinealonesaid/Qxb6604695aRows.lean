/-
  No cell of these rows narrows 'for every input' (looked for: loops, veiled, ifaces, maps, wideKeys, modest, calm, conditions, laid).
  DERIVED. THE GIVEN ROWS OF THIS SEAT. 2 by the template 'for every input the law returns true; each argument reads behind the call as it read before'; 0 by the template 'total and deterministic' (their statements: Qxb6604695aTotals.lean).
  GIVEN WITH THE SEED: the statements are not yours to turn. If you find one false, say at which input.
  Laid BY PROGRAM, IN A SANDBOX (cutbox-rows.mjs): the forced cells as the released guide's own fill.sh prints them over the translation 1840c42e912b1d54… (all of the seat's roots in one cut). By AI agents, Wed Nov 11 2026. No macro, syntax, notation, axiom, sorry.
-/
import Derived.Test.Qxb6604695aChecked
import GoSem.Claim
import GoSem.ClaimJoined
import GoSem.ClaimMapViews
import Derived.JoinedTies
import Derived.KernelRfl
namespace Go.Proofs.Qxb6604695a
/- THE CELL 'sum', in the pinned program and in every row, IS THE sha256 OF THE DUMP (.gsa) THAT Qxb6604695aProg.lean LOADS. Nothing in Lean hashes anything: it is a label: what it is worth is what the hold of that sum in a sandbox is worth. -/
noncomputable def Try.pinned : Pinned := { name := "qxb6604695a", sum := "1840c42e912b1d54e031d54c94e64cdfa465ad7a23f5c1925edfad6ff032a55b", checked := Try.checked }
namespace Rows
def none {H : Type} : Left H := { results := [], args := [] }

/-- 'zzlaws_root_b1.FnLineEndOfIsThatOfTheFirstLF': WHATEVER THE INPUT: true; the input reads as it did. -/
def fnLineEndOfIsThatOfTheFirstLFSpec : ChangeSpec := { name := "fnLineEndOfIsThatOfTheFirstLF", fn := fun _ => fun
  | [d] => { results := [.lit (.bool true)], args := [d] }
  | _ => none }
def fnLineEndOfIsThatOfTheFirstLFRow : OpenClaim := { program := "qxb6604695a", sum := "1840c42e912b1d54e031d54c94e64cdfa465ad7a23f5c1925edfad6ff032a55b", func := "example.com/hopstamp/hopstamp/zzlaws_root_b1.FnLineEndOfIsThatOfTheFirstLF", spec := "fnLineEndOfIsThatOfTheFirstLF", inPlace := ["internal/bytealg.IndexByte"], apart := false }
def FnLineEndOfIsThatOfTheFirstLFSaid : Prop := fnLineEndOfIsThatOfTheFirstLFRow.holds Try.pinned (OpenSpec.ofChange fnLineEndOfIsThatOfTheFirstLFSpec)

/-- ITS FALSE NEIGHBOUR: 'it returns false'. Refute it at one input. -/
def fnLineEndOfIsThatOfTheFirstLFWrong : ChangeSpec := { name := "fnLineEndOfIsThatOfTheFirstLF", fn := fun _ => fun
  | [d] => { results := [.lit (.bool false)], args := [d] }
  | _ => none }
def FnLineEndOfIsThatOfTheFirstLFWrongFalsely : Prop := fnLineEndOfIsThatOfTheFirstLFRow.holds Try.pinned (OpenSpec.ofChange fnLineEndOfIsThatOfTheFirstLFWrong)

/-- 'zzlaws_root_b1.FnLineEndOfHangsOnTheFirstLineAlone': WHATEVER THE INPUT: true; the input reads as it did. -/
def fnLineEndOfHangsOnTheFirstLineAloneSpec : ChangeSpec := { name := "fnLineEndOfHangsOnTheFirstLineAlone", fn := fun _ => fun
  | [d1, d2] => { results := [.lit (.bool true)], args := [d1, d2] }
  | _ => none }
def fnLineEndOfHangsOnTheFirstLineAloneRow : OpenClaim := { program := "qxb6604695a", sum := "1840c42e912b1d54e031d54c94e64cdfa465ad7a23f5c1925edfad6ff032a55b", func := "example.com/hopstamp/hopstamp/zzlaws_root_b1.FnLineEndOfHangsOnTheFirstLineAlone", spec := "fnLineEndOfHangsOnTheFirstLineAlone", inPlace := ["internal/bytealg.IndexByte"], apart := false }
def FnLineEndOfHangsOnTheFirstLineAloneSaid : Prop := fnLineEndOfHangsOnTheFirstLineAloneRow.holds Try.pinned (OpenSpec.ofChange fnLineEndOfHangsOnTheFirstLineAloneSpec)

/-- ITS FALSE NEIGHBOUR: 'it returns false'. Refute it at one input. -/
def fnLineEndOfHangsOnTheFirstLineAloneWrong : ChangeSpec := { name := "fnLineEndOfHangsOnTheFirstLineAlone", fn := fun _ => fun
  | [d1, d2] => { results := [.lit (.bool false)], args := [d1, d2] }
  | _ => none }
def FnLineEndOfHangsOnTheFirstLineAloneWrongFalsely : Prop := fnLineEndOfHangsOnTheFirstLineAloneRow.holds Try.pinned (OpenSpec.ofChange fnLineEndOfHangsOnTheFirstLineAloneWrong)

end Rows
end Go.Proofs.Qxb6604695a
