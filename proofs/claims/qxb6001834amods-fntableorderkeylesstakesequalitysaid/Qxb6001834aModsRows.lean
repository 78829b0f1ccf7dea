/-
  No cell of these rows narrows 'for every input' (looked for: loops, veiled, ifaces, maps, wideKeys, modest, calm, conditions, laid).
  DERIVED. THE GIVEN ROWS OF THIS SEAT. 10 by the template 'for every input the law returns true; each argument reads behind the call as it read before'; 0 by the template 'total and deterministic' (their statements: Qxb6001834aModsTotals.lean).
  GIVEN WITH THE SEED: the statements are not yours to turn. If you find one false, say at which input.
  Laid BY PROGRAM, IN A SANDBOX (cutbox-rows.mjs): the forced cells as the released guide's own fill.sh prints them over the translation cf9baa10a0bb6f23… (all of the seat's roots in one cut). By AI agents, Wed Nov 11 2026. No macro, syntax, notation, axiom, sorry.
-/
import Derived.Test.Qxb6001834aModsChecked
import GoSem.Claim
import GoSem.ClaimJoined
import GoSem.ClaimMapViews
import Derived.JoinedTies
import Derived.KernelRfl
namespace Go.Proofs.Qxb6001834aMods
/- THE CELL 'sum', in the pinned program and in every row, IS THE sha256 OF THE DUMP (.gsa) THAT Qxb6001834aModsProg.lean LOADS. Nothing in Lean hashes anything: it is a label: what it is worth is what the hold of that sum in a sandbox is worth. -/
noncomputable def Trym.pinned : Pinned := { name := "qxb6001834amods", sum := "cf9baa10a0bb6f2346508ab00295b7da17a0b61fee67d71759ce4fc0476071fb", checked := Trym.checked }
namespace Rows
def none {H : Type} : Left H := { results := [], args := [] }

/-- 'zzlaws_sqldb_b1.FnJoinedParsesBack': WHATEVER THE INPUT: true; the input reads as it did. -/
def fnJoinedParsesBackSpec : ChangeSpec := { name := "fnJoinedParsesBack", fn := fun _ => fun
  | [d1, d2] => { results := [.lit (.bool true)], args := [d1, d2] }
  | _ => none }
def fnJoinedParsesBackRow : OpenClaim := { program := "qxb6001834amods", sum := "cf9baa10a0bb6f2346508ab00295b7da17a0b61fee67d71759ce4fc0476071fb", func := "example.com/shapewire/shapewire/zzlaws_sqldb_b1.FnJoinedParsesBack", spec := "fnJoinedParsesBack", inPlace := ["internal/abi.NoEscape", "internal/bytealg.MakeNoZero"], make := .lifted ["publicsums"], apart := false }
def FnJoinedParsesBackSaid : Prop := fnJoinedParsesBackRow.holds Trym.pinned (OpenSpec.ofChange fnJoinedParsesBackSpec)

/-- ITS FALSE NEIGHBOUR: 'it returns false'. Refute it at one input. -/
def fnJoinedParsesBackWrong : ChangeSpec := { name := "fnJoinedParsesBack", fn := fun _ => fun
  | [d1, d2] => { results := [.lit (.bool false)], args := [d1, d2] }
  | _ => none }
def FnJoinedParsesBackWrongFalsely : Prop := fnJoinedParsesBackRow.holds Trym.pinned (OpenSpec.ofChange fnJoinedParsesBackWrong)

/-- 'zzlaws_sqldb_b1.FnJoinedLength': WHATEVER THE INPUT: true; the input reads as it did. -/
def fnJoinedLengthSpec : ChangeSpec := { name := "fnJoinedLength", fn := fun _ => fun
  | [d1, d2] => { results := [.lit (.bool true)], args := [d1, d2] }
  | _ => none }
def fnJoinedLengthRow : OpenClaim := { program := "qxb6001834amods", sum := "cf9baa10a0bb6f2346508ab00295b7da17a0b61fee67d71759ce4fc0476071fb", func := "example.com/shapewire/shapewire/zzlaws_sqldb_b1.FnJoinedLength", spec := "fnJoinedLength", inPlace := ["internal/abi.NoEscape", "internal/bytealg.MakeNoZero"], make := .lifted ["publicsums"], apart := false }
def FnJoinedLengthSaid : Prop := fnJoinedLengthRow.holds Trym.pinned (OpenSpec.ofChange fnJoinedLengthSpec)

/-- ITS FALSE NEIGHBOUR: 'it returns false'. Refute it at one input. -/
def fnJoinedLengthWrong : ChangeSpec := { name := "fnJoinedLength", fn := fun _ => fun
  | [d1, d2] => { results := [.lit (.bool false)], args := [d1, d2] }
  | _ => none }
def FnJoinedLengthWrongFalsely : Prop := fnJoinedLengthRow.holds Trym.pinned (OpenSpec.ofChange fnJoinedLengthWrong)

/-- 'zzlaws_sqldb_b1.FnJoinedKeepsBalance': WHATEVER THE INPUT: true; the input reads as it did. -/
def fnJoinedKeepsBalanceSpec : ChangeSpec := { name := "fnJoinedKeepsBalance", fn := fun _ => fun
  | [d1, d2] => { results := [.lit (.bool true)], args := [d1, d2] }
  | _ => none }
def fnJoinedKeepsBalanceRow : OpenClaim := { program := "qxb6001834amods", sum := "cf9baa10a0bb6f2346508ab00295b7da17a0b61fee67d71759ce4fc0476071fb", func := "example.com/shapewire/shapewire/zzlaws_sqldb_b1.FnJoinedKeepsBalance", spec := "fnJoinedKeepsBalance", inPlace := ["internal/abi.NoEscape", "internal/bytealg.MakeNoZero"], make := .lifted ["publicsums"], apart := false }
def FnJoinedKeepsBalanceSaid : Prop := fnJoinedKeepsBalanceRow.holds Trym.pinned (OpenSpec.ofChange fnJoinedKeepsBalanceSpec)

/-- ITS FALSE NEIGHBOUR: 'it returns false'. Refute it at one input. -/
def fnJoinedKeepsBalanceWrong : ChangeSpec := { name := "fnJoinedKeepsBalance", fn := fun _ => fun
  | [d1, d2] => { results := [.lit (.bool false)], args := [d1, d2] }
  | _ => none }
def FnJoinedKeepsBalanceWrongFalsely : Prop := fnJoinedKeepsBalanceRow.holds Trym.pinned (OpenSpec.ofChange fnJoinedKeepsBalanceWrong)

/-- 'zzlaws_sqldb_b1.FnPostgresColumnsSelectsAsManyAsMariadb': WHATEVER THE INPUT: true; the input reads as it did. -/
def fnPostgresColumnsSelectsAsManyAsMariadbSpec : ChangeSpec := { name := "fnPostgresColumnsSelectsAsManyAsMariadb", fn := fun _ => fun
  | [] => { results := [.lit (.bool true)], args := [] }
  | _ => none }
def fnPostgresColumnsSelectsAsManyAsMariadbRow : OpenClaim := { program := "qxb6001834amods", sum := "cf9baa10a0bb6f2346508ab00295b7da17a0b61fee67d71759ce4fc0476071fb", func := "example.com/shapewire/shapewire/zzlaws_sqldb_b1.FnPostgresColumnsSelectsAsManyAsMariadb", spec := "fnPostgresColumnsSelectsAsManyAsMariadb", make := .lifted ["publicsums"], apart := false }
def FnPostgresColumnsSelectsAsManyAsMariadbSaid : Prop := fnPostgresColumnsSelectsAsManyAsMariadbRow.holds Trym.pinned (OpenSpec.ofChange fnPostgresColumnsSelectsAsManyAsMariadbSpec)

/-- ITS FALSE NEIGHBOUR: 'it returns false'. Refute it at one input. -/
def fnPostgresColumnsSelectsAsManyAsMariadbWrong : ChangeSpec := { name := "fnPostgresColumnsSelectsAsManyAsMariadb", fn := fun _ => fun
  | [] => { results := [.lit (.bool false)], args := [] }
  | _ => none }
def FnPostgresColumnsSelectsAsManyAsMariadbWrongFalsely : Prop := fnPostgresColumnsSelectsAsManyAsMariadbRow.holds Trym.pinned (OpenSpec.ofChange fnPostgresColumnsSelectsAsManyAsMariadbWrong)

/-- 'zzlaws_sqldb_b1.FnPostgresColumnsWellFormed': WHATEVER THE INPUT: true; the input reads as it did. -/
def fnPostgresColumnsWellFormedSpec : ChangeSpec := { name := "fnPostgresColumnsWellFormed", fn := fun _ => fun
  | [] => { results := [.lit (.bool true)], args := [] }
  | _ => none }
def fnPostgresColumnsWellFormedRow : OpenClaim := { program := "qxb6001834amods", sum := "cf9baa10a0bb6f2346508ab00295b7da17a0b61fee67d71759ce4fc0476071fb", func := "example.com/shapewire/shapewire/zzlaws_sqldb_b1.FnPostgresColumnsWellFormed", spec := "fnPostgresColumnsWellFormed", make := .lifted ["publicsums"], apart := false }
def FnPostgresColumnsWellFormedSaid : Prop := fnPostgresColumnsWellFormedRow.holds Trym.pinned (OpenSpec.ofChange fnPostgresColumnsWellFormedSpec)

/-- ITS FALSE NEIGHBOUR: 'it returns false'. Refute it at one input. -/
def fnPostgresColumnsWellFormedWrong : ChangeSpec := { name := "fnPostgresColumnsWellFormed", fn := fun _ => fun
  | [] => { results := [.lit (.bool false)], args := [] }
  | _ => none }
def FnPostgresColumnsWellFormedWrongFalsely : Prop := fnPostgresColumnsWellFormedRow.holds Trym.pinned (OpenSpec.ofChange fnPostgresColumnsWellFormedWrong)

/-- 'zzlaws_sqldb_b1.FnTableOrderKeylessTakesEquality': WHATEVER THE INPUT: true; the input reads as it did. -/
def fnTableOrderKeylessTakesEqualitySpec : ChangeSpec := { name := "fnTableOrderKeylessTakesEquality", fn := fun _ => fun
  | [d] => { results := [.lit (.bool true)], args := [d] }
  | _ => none }
def fnTableOrderKeylessTakesEqualityRow : OpenClaim := { program := "qxb6001834amods", sum := "cf9baa10a0bb6f2346508ab00295b7da17a0b61fee67d71759ce4fc0476071fb", func := "example.com/shapewire/shapewire/zzlaws_sqldb_b1.FnTableOrderKeylessTakesEquality", spec := "fnTableOrderKeylessTakesEquality", make := .lifted ["publicsums"], apart := false }
def FnTableOrderKeylessTakesEqualitySaid : Prop := fnTableOrderKeylessTakesEqualityRow.holds Trym.pinned (OpenSpec.ofChange fnTableOrderKeylessTakesEqualitySpec)

/-- ITS FALSE NEIGHBOUR: 'it returns false'. Refute it at one input. -/
def fnTableOrderKeylessTakesEqualityWrong : ChangeSpec := { name := "fnTableOrderKeylessTakesEquality", fn := fun _ => fun
  | [d] => { results := [.lit (.bool false)], args := [d] }
  | _ => none }
def FnTableOrderKeylessTakesEqualityWrongFalsely : Prop := fnTableOrderKeylessTakesEqualityRow.holds Trym.pinned (OpenSpec.ofChange fnTableOrderKeylessTakesEqualityWrong)

/-- 'zzlaws_sqldb_b1.FnTableOrderIdempotent': WHATEVER THE INPUT: true; the input reads as it did. -/
def fnTableOrderIdempotentSpec : ChangeSpec := { name := "fnTableOrderIdempotent", fn := fun _ => fun
  | [d] => { results := [.lit (.bool true)], args := [d] }
  | _ => none }
def fnTableOrderIdempotentRow : OpenClaim := { program := "qxb6001834amods", sum := "cf9baa10a0bb6f2346508ab00295b7da17a0b61fee67d71759ce4fc0476071fb", func := "example.com/shapewire/shapewire/zzlaws_sqldb_b1.FnTableOrderIdempotent", spec := "fnTableOrderIdempotent", make := .lifted ["publicsums"], apart := false }
def FnTableOrderIdempotentSaid : Prop := fnTableOrderIdempotentRow.holds Trym.pinned (OpenSpec.ofChange fnTableOrderIdempotentSpec)

/-- ITS FALSE NEIGHBOUR: 'it returns false'. Refute it at one input. -/
def fnTableOrderIdempotentWrong : ChangeSpec := { name := "fnTableOrderIdempotent", fn := fun _ => fun
  | [d] => { results := [.lit (.bool false)], args := [d] }
  | _ => none }
def FnTableOrderIdempotentWrongFalsely : Prop := fnTableOrderIdempotentRow.holds Trym.pinned (OpenSpec.ofChange fnTableOrderIdempotentWrong)

/-- 'zzlaws_sqldb_b1.FnKindTakesMatchesTable': WHATEVER THE INPUT: true; the input reads as it did. -/
def fnKindTakesMatchesTableSpec : ChangeSpec := { name := "fnKindTakesMatchesTable", fn := fun _ => fun
  | [d1, d2] => { results := [.lit (.bool true)], args := [d1, d2] }
  | _ => none }
def fnKindTakesMatchesTableRow : OpenClaim := { program := "qxb6001834amods", sum := "cf9baa10a0bb6f2346508ab00295b7da17a0b61fee67d71759ce4fc0476071fb", func := "example.com/shapewire/shapewire/zzlaws_sqldb_b1.FnKindTakesMatchesTable", spec := "fnKindTakesMatchesTable", make := .lifted ["publicsums"], apart := false }
def FnKindTakesMatchesTableSaid : Prop := fnKindTakesMatchesTableRow.holds Trym.pinned (OpenSpec.ofChange fnKindTakesMatchesTableSpec)

/-- ITS FALSE NEIGHBOUR: 'it returns false'. Refute it at one input. -/
def fnKindTakesMatchesTableWrong : ChangeSpec := { name := "fnKindTakesMatchesTable", fn := fun _ => fun
  | [d1, d2] => { results := [.lit (.bool false)], args := [d1, d2] }
  | _ => none }
def FnKindTakesMatchesTableWrongFalsely : Prop := fnKindTakesMatchesTableRow.holds Trym.pinned (OpenSpec.ofChange fnKindTakesMatchesTableWrong)

/-- 'zzlaws_sqldb_b1.FnKindTakesAgreesWithAggregates': WHATEVER THE INPUT: true; the input reads as it did. -/
def fnKindTakesAgreesWithAggregatesSpec : ChangeSpec := { name := "fnKindTakesAgreesWithAggregates", fn := fun _ => fun
  | [d] => { results := [.lit (.bool true)], args := [d] }
  | _ => none }
def fnKindTakesAgreesWithAggregatesRow : OpenClaim := { program := "qxb6001834amods", sum := "cf9baa10a0bb6f2346508ab00295b7da17a0b61fee67d71759ce4fc0476071fb", func := "example.com/shapewire/shapewire/zzlaws_sqldb_b1.FnKindTakesAgreesWithAggregates", spec := "fnKindTakesAgreesWithAggregates", make := .lifted ["publicsums"], apart := false }
def FnKindTakesAgreesWithAggregatesSaid : Prop := fnKindTakesAgreesWithAggregatesRow.holds Trym.pinned (OpenSpec.ofChange fnKindTakesAgreesWithAggregatesSpec)

/-- ITS FALSE NEIGHBOUR: 'it returns false'. Refute it at one input. -/
def fnKindTakesAgreesWithAggregatesWrong : ChangeSpec := { name := "fnKindTakesAgreesWithAggregates", fn := fun _ => fun
  | [d] => { results := [.lit (.bool false)], args := [d] }
  | _ => none }
def FnKindTakesAgreesWithAggregatesWrongFalsely : Prop := fnKindTakesAgreesWithAggregatesRow.holds Trym.pinned (OpenSpec.ofChange fnKindTakesAgreesWithAggregatesWrong)

/-- 'zzlaws_sqldb_b1.FnKindTakesByOperatorClass': WHATEVER THE INPUT: true; the input reads as it did. -/
def fnKindTakesByOperatorClassSpec : ChangeSpec := { name := "fnKindTakesByOperatorClass", fn := fun _ => fun
  | [d1, d2] => { results := [.lit (.bool true)], args := [d1, d2] }
  | _ => none }
def fnKindTakesByOperatorClassRow : OpenClaim := { program := "qxb6001834amods", sum := "cf9baa10a0bb6f2346508ab00295b7da17a0b61fee67d71759ce4fc0476071fb", func := "example.com/shapewire/shapewire/zzlaws_sqldb_b1.FnKindTakesByOperatorClass", spec := "fnKindTakesByOperatorClass", make := .lifted ["publicsums"], apart := false }
def FnKindTakesByOperatorClassSaid : Prop := fnKindTakesByOperatorClassRow.holds Trym.pinned (OpenSpec.ofChange fnKindTakesByOperatorClassSpec)

/-- ITS FALSE NEIGHBOUR: 'it returns false'. Refute it at one input. -/
def fnKindTakesByOperatorClassWrong : ChangeSpec := { name := "fnKindTakesByOperatorClass", fn := fun _ => fun
  | [d1, d2] => { results := [.lit (.bool false)], args := [d1, d2] }
  | _ => none }
def FnKindTakesByOperatorClassWrongFalsely : Prop := fnKindTakesByOperatorClassRow.holds Trym.pinned (OpenSpec.ofChange fnKindTakesByOperatorClassWrong)

end Rows
end Go.Proofs.Qxb6001834aMods
