/-
  No cell of these rows narrows 'for every input' (looked for: loops, veiled, ifaces, maps, wideKeys, modest, calm, conditions, laid).
  DERIVED. THE GIVEN ROWS OF THIS SEAT. 3 by the template 'for every input the law returns true; each argument reads behind the call as it read before'; 0 by the template 'total and deterministic' (their statements: Qxb6602195aTotals.lean).
  GIVEN WITH THE SEED: the statements are not yours to turn. If you find one false, say at which input.
  Laid BY PROGRAM, IN A SANDBOX (cutbox-rows.mjs): the forced cells as the released guide's own fill.sh prints them over the translation ee20b0b2532a5d90… (all of the seat's roots in one cut). By AI agents, Wed Nov 11 2026. No macro, syntax, notation, axiom, sorry.
-/
import Derived.Test.Qxb6602195aChecked
import GoSem.Claim
import GoSem.ClaimJoined
import GoSem.ClaimMapViews
import Derived.JoinedTies
import Derived.KernelRfl
namespace Go.Proofs.Qxb6602195a
/- THE CELL 'sum', in the pinned program and in every row, IS THE sha256 OF THE DUMP (.gsa) THAT Qxb6602195aProg.lean LOADS. Nothing in Lean hashes anything: it is a label: what it is worth is what the hold of that sum in a sandbox is worth. -/
noncomputable def Try.pinned : Pinned := { name := "qxb6602195a", sum := "ee20b0b2532a5d9088a9310575d4fc3959062d388f9708d72cbe7f17d1467f7c", checked := Try.checked }
namespace Rows
def none {H : Type} : Left H := { results := [], args := [] }

/-- 'zzlaws_root_b1.FnNumberPartNextReadsJSONNumbers': WHATEVER THE INPUT: true; the input reads as it did. -/
def fnNumberPartNextReadsJSONNumbersSpec : ChangeSpec := { name := "fnNumberPartNextReadsJSONNumbers", fn := fun _ => fun
  | [d] => { results := [.lit (.bool true)], args := [d] }
  | _ => none }
def fnNumberPartNextReadsJSONNumbersRow : OpenClaim := { program := "qxb6602195a", sum := "ee20b0b2532a5d9088a9310575d4fc3959062d388f9708d72cbe7f17d1467f7c", func := "example.com/specmark/specmark/zzlaws_root_b1.FnNumberPartNextReadsJSONNumbers", spec := "fnNumberPartNextReadsJSONNumbers", apart := false }
def FnNumberPartNextReadsJSONNumbersSaid : Prop := fnNumberPartNextReadsJSONNumbersRow.holds Try.pinned (OpenSpec.ofChange fnNumberPartNextReadsJSONNumbersSpec)

/-- ITS FALSE NEIGHBOUR: 'it returns false'. Refute it at one input. -/
def fnNumberPartNextReadsJSONNumbersWrong : ChangeSpec := { name := "fnNumberPartNextReadsJSONNumbers", fn := fun _ => fun
  | [d] => { results := [.lit (.bool false)], args := [d] }
  | _ => none }
def FnNumberPartNextReadsJSONNumbersWrongFalsely : Prop := fnNumberPartNextReadsJSONNumbersRow.holds Try.pinned (OpenSpec.ofChange fnNumberPartNextReadsJSONNumbersWrong)

/-- 'zzlaws_root_b1.FnCompactJSONMatchesModel': WHATEVER THE INPUT: true; the input reads as it did. -/
def fnCompactJSONMatchesModelSpec : ChangeSpec := { name := "fnCompactJSONMatchesModel", fn := fun _ => fun
  | [d1, d2] => { results := [.lit (.bool true)], args := [d1, d2] }
  | _ => none }
def fnCompactJSONMatchesModelRow : OpenClaim := { program := "qxb6602195a", sum := "ee20b0b2532a5d9088a9310575d4fc3959062d388f9708d72cbe7f17d1467f7c", func := "example.com/specmark/specmark/zzlaws_root_b1.FnCompactJSONMatchesModel", spec := "fnCompactJSONMatchesModel", apart := false }
def FnCompactJSONMatchesModelSaid : Prop := fnCompactJSONMatchesModelRow.holds Try.pinned (OpenSpec.ofChange fnCompactJSONMatchesModelSpec)

/-- ITS FALSE NEIGHBOUR: 'it returns false'. Refute it at one input. -/
def fnCompactJSONMatchesModelWrong : ChangeSpec := { name := "fnCompactJSONMatchesModel", fn := fun _ => fun
  | [d1, d2] => { results := [.lit (.bool false)], args := [d1, d2] }
  | _ => none }
def FnCompactJSONMatchesModelWrongFalsely : Prop := fnCompactJSONMatchesModelRow.holds Try.pinned (OpenSpec.ofChange fnCompactJSONMatchesModelWrong)

/-- 'zzlaws_root_b1.FnCompactJSONIdempotent': WHATEVER THE INPUT: true; the input reads as it did. -/
def fnCompactJSONIdempotentSpec : ChangeSpec := { name := "fnCompactJSONIdempotent", fn := fun _ => fun
  | [d] => { results := [.lit (.bool true)], args := [d] }
  | _ => none }
def fnCompactJSONIdempotentRow : OpenClaim := { program := "qxb6602195a", sum := "ee20b0b2532a5d9088a9310575d4fc3959062d388f9708d72cbe7f17d1467f7c", func := "example.com/specmark/specmark/zzlaws_root_b1.FnCompactJSONIdempotent", spec := "fnCompactJSONIdempotent", apart := false }
def FnCompactJSONIdempotentSaid : Prop := fnCompactJSONIdempotentRow.holds Try.pinned (OpenSpec.ofChange fnCompactJSONIdempotentSpec)

/-- ITS FALSE NEIGHBOUR: 'it returns false'. Refute it at one input. -/
def fnCompactJSONIdempotentWrong : ChangeSpec := { name := "fnCompactJSONIdempotent", fn := fun _ => fun
  | [d] => { results := [.lit (.bool false)], args := [d] }
  | _ => none }
def FnCompactJSONIdempotentWrongFalsely : Prop := fnCompactJSONIdempotentRow.holds Try.pinned (OpenSpec.ofChange fnCompactJSONIdempotentWrong)

end Rows
end Go.Proofs.Qxb6602195a
