/-
  No cell of these rows narrows 'for every input' (looked for: loops, veiled, ifaces, maps, wideKeys, modest, calm, conditions, laid).
  DERIVED. THE GIVEN ROWS OF THIS SEAT. 9 by the template 'for every input the law returns true; each argument reads behind the call as it read before'; 0 by the template 'total and deterministic' (their statements: Qxb6001833aModsTotals.lean).
  GIVEN WITH THE SEED: the statements are not yours to turn. If you find one false, say at which input.
  Laid BY PROGRAM, IN A SANDBOX (cutbox-rows.mjs): the forced cells as the released guide's own fill.sh prints them over the translation 5dd7d68e9a19f503… (all of the seat's roots in one cut). By AI agents, Wed Nov 11 2026. No macro, syntax, notation, axiom, sorry.
-/
import Derived.Test.Qxb6001833aModsChecked
import GoSem.Claim
import GoSem.ClaimJoined
import GoSem.ClaimMapViews
import Derived.JoinedTies
import Derived.KernelRfl
namespace Go.Proofs.Qxb6001833aMods
/- THE CELL 'sum', in the pinned program and in every row, IS THE sha256 OF THE DUMP (.gsa) THAT Qxb6001833aModsProg.lean LOADS. Nothing in Lean hashes anything: it is a label: what it is worth is what the hold of that sum in a sandbox is worth. -/
noncomputable def Trym.pinned : Pinned := { name := "qxb6001833amods", sum := "5dd7d68e9a19f503c258cd1e7e96a8887ee8e4826818a7fbdb7bd8a3dca08491", checked := Trym.checked }
namespace Rows
def none {H : Type} : Left H := { results := [], args := [] }

/-- 'zzlaws_sqldb_b1.FnOpOrderedIsWhatNumbersTakeAndBooleansRefuse': WHATEVER THE INPUT: true; the input reads as it did. -/
def fnOpOrderedIsWhatNumbersTakeAndBooleansRefuseSpec : ChangeSpec := { name := "fnOpOrderedIsWhatNumbersTakeAndBooleansRefuse", fn := fun _ => fun
  | [d] => { results := [.lit (.bool true)], args := [d] }
  | _ => none }
def fnOpOrderedIsWhatNumbersTakeAndBooleansRefuseRow : OpenClaim := { program := "qxb6001833amods", sum := "5dd7d68e9a19f503c258cd1e7e96a8887ee8e4826818a7fbdb7bd8a3dca08491", func := "example.com/shapewire/shapewire/zzlaws_sqldb_b1.FnOpOrderedIsWhatNumbersTakeAndBooleansRefuse", spec := "fnOpOrderedIsWhatNumbersTakeAndBooleansRefuse", make := .lifted ["publicsums"], apart := false }
def FnOpOrderedIsWhatNumbersTakeAndBooleansRefuseSaid : Prop := fnOpOrderedIsWhatNumbersTakeAndBooleansRefuseRow.holds Trym.pinned (OpenSpec.ofChange fnOpOrderedIsWhatNumbersTakeAndBooleansRefuseSpec)

/-- ITS FALSE NEIGHBOUR: 'it returns false'. Refute it at one input. -/
def fnOpOrderedIsWhatNumbersTakeAndBooleansRefuseWrong : ChangeSpec := { name := "fnOpOrderedIsWhatNumbersTakeAndBooleansRefuse", fn := fun _ => fun
  | [d] => { results := [.lit (.bool false)], args := [d] }
  | _ => none }
def FnOpOrderedIsWhatNumbersTakeAndBooleansRefuseWrongFalsely : Prop := fnOpOrderedIsWhatNumbersTakeAndBooleansRefuseRow.holds Trym.pinned (OpenSpec.ofChange fnOpOrderedIsWhatNumbersTakeAndBooleansRefuseWrong)

/-- 'zzlaws_sqldb_b1.FnSelectColumnDialectsAgreeOnWhatTheyRewrite': WHATEVER THE INPUT: true; the input reads as it did. -/
def fnSelectColumnDialectsAgreeOnWhatTheyRewriteSpec : ChangeSpec := { name := "fnSelectColumnDialectsAgreeOnWhatTheyRewrite", fn := fun _ => fun
  | [d1, d2, d3, d4] => { results := [.lit (.bool true)], args := [d1, d2, d3, d4] }
  | _ => none }
def fnSelectColumnDialectsAgreeOnWhatTheyRewriteRow : OpenClaim := { program := "qxb6001833amods", sum := "5dd7d68e9a19f503c258cd1e7e96a8887ee8e4826818a7fbdb7bd8a3dca08491", func := "example.com/shapewire/shapewire/zzlaws_sqldb_b1.FnSelectColumnDialectsAgreeOnWhatTheyRewrite", spec := "fnSelectColumnDialectsAgreeOnWhatTheyRewrite", make := .lifted ["publicsums"], apart := false }
def FnSelectColumnDialectsAgreeOnWhatTheyRewriteSaid : Prop := fnSelectColumnDialectsAgreeOnWhatTheyRewriteRow.holds Trym.pinned (OpenSpec.ofChange fnSelectColumnDialectsAgreeOnWhatTheyRewriteSpec)

/-- ITS FALSE NEIGHBOUR: 'it returns false'. Refute it at one input. -/
def fnSelectColumnDialectsAgreeOnWhatTheyRewriteWrong : ChangeSpec := { name := "fnSelectColumnDialectsAgreeOnWhatTheyRewrite", fn := fun _ => fun
  | [d1, d2, d3, d4] => { results := [.lit (.bool false)], args := [d1, d2, d3, d4] }
  | _ => none }
def FnSelectColumnDialectsAgreeOnWhatTheyRewriteWrongFalsely : Prop := fnSelectColumnDialectsAgreeOnWhatTheyRewriteRow.holds Trym.pinned (OpenSpec.ofChange fnSelectColumnDialectsAgreeOnWhatTheyRewriteWrong)

/-- 'zzlaws_sqldb_b1.FnSelectColumnLeavesComparableKindsBare': WHATEVER THE INPUT: true; the input reads as it did. -/
def fnSelectColumnLeavesComparableKindsBareSpec : ChangeSpec := { name := "fnSelectColumnLeavesComparableKindsBare", fn := fun _ => fun
  | [d1, d2, d3, d4] => { results := [.lit (.bool true)], args := [d1, d2, d3, d4] }
  | _ => none }
def fnSelectColumnLeavesComparableKindsBareRow : OpenClaim := { program := "qxb6001833amods", sum := "5dd7d68e9a19f503c258cd1e7e96a8887ee8e4826818a7fbdb7bd8a3dca08491", func := "example.com/shapewire/shapewire/zzlaws_sqldb_b1.FnSelectColumnLeavesComparableKindsBare", spec := "fnSelectColumnLeavesComparableKindsBare", make := .lifted ["publicsums"], apart := false }
def FnSelectColumnLeavesComparableKindsBareSaid : Prop := fnSelectColumnLeavesComparableKindsBareRow.holds Trym.pinned (OpenSpec.ofChange fnSelectColumnLeavesComparableKindsBareSpec)

/-- ITS FALSE NEIGHBOUR: 'it returns false'. Refute it at one input. -/
def fnSelectColumnLeavesComparableKindsBareWrong : ChangeSpec := { name := "fnSelectColumnLeavesComparableKindsBare", fn := fun _ => fun
  | [d1, d2, d3, d4] => { results := [.lit (.bool false)], args := [d1, d2, d3, d4] }
  | _ => none }
def FnSelectColumnLeavesComparableKindsBareWrongFalsely : Prop := fnSelectColumnLeavesComparableKindsBareRow.holds Trym.pinned (OpenSpec.ofChange fnSelectColumnLeavesComparableKindsBareWrong)

/-- 'zzlaws_sqldb_b1.FnMariadbSelectColumnInjective': WHATEVER THE INPUT: true; the input reads as it did. -/
def fnMariadbSelectColumnInjectiveSpec : ChangeSpec := { name := "fnMariadbSelectColumnInjective", fn := fun _ => fun
  | [d1, d2, d3, d4, d5] => { results := [.lit (.bool true)], args := [d1, d2, d3, d4, d5] }
  | _ => none }
def fnMariadbSelectColumnInjectiveRow : OpenClaim := { program := "qxb6001833amods", sum := "5dd7d68e9a19f503c258cd1e7e96a8887ee8e4826818a7fbdb7bd8a3dca08491", func := "example.com/shapewire/shapewire/zzlaws_sqldb_b1.FnMariadbSelectColumnInjective", spec := "fnMariadbSelectColumnInjective", make := .lifted ["publicsums"], apart := false }
def FnMariadbSelectColumnInjectiveSaid : Prop := fnMariadbSelectColumnInjectiveRow.holds Trym.pinned (OpenSpec.ofChange fnMariadbSelectColumnInjectiveSpec)

/-- ITS FALSE NEIGHBOUR: 'it returns false'. Refute it at one input. -/
def fnMariadbSelectColumnInjectiveWrong : ChangeSpec := { name := "fnMariadbSelectColumnInjective", fn := fun _ => fun
  | [d1, d2, d3, d4, d5] => { results := [.lit (.bool false)], args := [d1, d2, d3, d4, d5] }
  | _ => none }
def FnMariadbSelectColumnInjectiveWrongFalsely : Prop := fnMariadbSelectColumnInjectiveRow.holds Trym.pinned (OpenSpec.ofChange fnMariadbSelectColumnInjectiveWrong)

/-- 'zzlaws_sqldb_b1.FnPostgresSelectColumnInjective': WHATEVER THE INPUT: true; the input reads as it did. -/
def fnPostgresSelectColumnInjectiveSpec : ChangeSpec := { name := "fnPostgresSelectColumnInjective", fn := fun _ => fun
  | [d1, d2, d3, d4, d5] => { results := [.lit (.bool true)], args := [d1, d2, d3, d4, d5] }
  | _ => none }
def fnPostgresSelectColumnInjectiveRow : OpenClaim := { program := "qxb6001833amods", sum := "5dd7d68e9a19f503c258cd1e7e96a8887ee8e4826818a7fbdb7bd8a3dca08491", func := "example.com/shapewire/shapewire/zzlaws_sqldb_b1.FnPostgresSelectColumnInjective", spec := "fnPostgresSelectColumnInjective", make := .lifted ["publicsums"], apart := false }
def FnPostgresSelectColumnInjectiveSaid : Prop := fnPostgresSelectColumnInjectiveRow.holds Trym.pinned (OpenSpec.ofChange fnPostgresSelectColumnInjectiveSpec)

/-- ITS FALSE NEIGHBOUR: 'it returns false'. Refute it at one input. -/
def fnPostgresSelectColumnInjectiveWrong : ChangeSpec := { name := "fnPostgresSelectColumnInjective", fn := fun _ => fun
  | [d1, d2, d3, d4, d5] => { results := [.lit (.bool false)], args := [d1, d2, d3, d4, d5] }
  | _ => none }
def FnPostgresSelectColumnInjectiveWrongFalsely : Prop := fnPostgresSelectColumnInjectiveRow.holds Trym.pinned (OpenSpec.ofChange fnPostgresSelectColumnInjectiveWrong)

/-- 'zzlaws_sqldb_b1.FnSelectColumnHangsOnKindAlone': WHATEVER THE INPUT: true; the input reads as it did. -/
def fnSelectColumnHangsOnKindAloneSpec : ChangeSpec := { name := "fnSelectColumnHangsOnKindAlone", fn := fun _ => fun
  | [d1, d2, d3, d4, d5, d6, d7, d8, d9, d10, d11, d12] => { results := [.lit (.bool true)], args := [d1, d2, d3, d4, d5, d6, d7, d8, d9, d10, d11, d12] }
  | _ => none }
def fnSelectColumnHangsOnKindAloneRow : OpenClaim := { program := "qxb6001833amods", sum := "5dd7d68e9a19f503c258cd1e7e96a8887ee8e4826818a7fbdb7bd8a3dca08491", func := "example.com/shapewire/shapewire/zzlaws_sqldb_b1.FnSelectColumnHangsOnKindAlone", spec := "fnSelectColumnHangsOnKindAlone", make := .lifted ["publicsums"], apart := false }
def FnSelectColumnHangsOnKindAloneSaid : Prop := fnSelectColumnHangsOnKindAloneRow.holds Trym.pinned (OpenSpec.ofChange fnSelectColumnHangsOnKindAloneSpec)

/-- ITS FALSE NEIGHBOUR: 'it returns false'. Refute it at one input. -/
def fnSelectColumnHangsOnKindAloneWrong : ChangeSpec := { name := "fnSelectColumnHangsOnKindAlone", fn := fun _ => fun
  | [d1, d2, d3, d4, d5, d6, d7, d8, d9, d10, d11, d12] => { results := [.lit (.bool false)], args := [d1, d2, d3, d4, d5, d6, d7, d8, d9, d10, d11, d12] }
  | _ => none }
def FnSelectColumnHangsOnKindAloneWrongFalsely : Prop := fnSelectColumnHangsOnKindAloneRow.holds Trym.pinned (OpenSpec.ofChange fnSelectColumnHangsOnKindAloneWrong)

/-- 'zzlaws_sqldb_b1.FnOrderByDescendingExtendsAscending': WHATEVER THE INPUT: true; the input reads as it did. -/
def fnOrderByDescendingExtendsAscendingSpec : ChangeSpec := { name := "fnOrderByDescendingExtendsAscending", fn := fun _ => fun
  | [d] => { results := [.lit (.bool true)], args := [d] }
  | _ => none }
def fnOrderByDescendingExtendsAscendingRow : OpenClaim := { program := "qxb6001833amods", sum := "5dd7d68e9a19f503c258cd1e7e96a8887ee8e4826818a7fbdb7bd8a3dca08491", func := "example.com/shapewire/shapewire/zzlaws_sqldb_b1.FnOrderByDescendingExtendsAscending", spec := "fnOrderByDescendingExtendsAscending", make := .lifted ["publicsums"], apart := false }
def FnOrderByDescendingExtendsAscendingSaid : Prop := fnOrderByDescendingExtendsAscendingRow.holds Trym.pinned (OpenSpec.ofChange fnOrderByDescendingExtendsAscendingSpec)

/-- ITS FALSE NEIGHBOUR: 'it returns false'. Refute it at one input. -/
def fnOrderByDescendingExtendsAscendingWrong : ChangeSpec := { name := "fnOrderByDescendingExtendsAscending", fn := fun _ => fun
  | [d] => { results := [.lit (.bool false)], args := [d] }
  | _ => none }
def FnOrderByDescendingExtendsAscendingWrongFalsely : Prop := fnOrderByDescendingExtendsAscendingRow.holds Trym.pinned (OpenSpec.ofChange fnOrderByDescendingExtendsAscendingWrong)

/-- 'zzlaws_sqldb_b1.FnOrderByInjectiveInValue': WHATEVER THE INPUT: true; the input reads as it did. -/
def fnOrderByInjectiveInValueSpec : ChangeSpec := { name := "fnOrderByInjectiveInValue", fn := fun _ => fun
  | [d1, d2, d3] => { results := [.lit (.bool true)], args := [d1, d2, d3] }
  | _ => none }
def fnOrderByInjectiveInValueRow : OpenClaim := { program := "qxb6001833amods", sum := "5dd7d68e9a19f503c258cd1e7e96a8887ee8e4826818a7fbdb7bd8a3dca08491", func := "example.com/shapewire/shapewire/zzlaws_sqldb_b1.FnOrderByInjectiveInValue", spec := "fnOrderByInjectiveInValue", make := .lifted ["publicsums"], apart := false }
def FnOrderByInjectiveInValueSaid : Prop := fnOrderByInjectiveInValueRow.holds Trym.pinned (OpenSpec.ofChange fnOrderByInjectiveInValueSpec)

/-- ITS FALSE NEIGHBOUR: 'it returns false'. Refute it at one input. -/
def fnOrderByInjectiveInValueWrong : ChangeSpec := { name := "fnOrderByInjectiveInValue", fn := fun _ => fun
  | [d1, d2, d3] => { results := [.lit (.bool false)], args := [d1, d2, d3] }
  | _ => none }
def FnOrderByInjectiveInValueWrongFalsely : Prop := fnOrderByInjectiveInValueRow.holds Trym.pinned (OpenSpec.ofChange fnOrderByInjectiveInValueWrong)

/-- 'zzlaws_sqldb_b1.FnOrderByIgnoresTableAndItem': WHATEVER THE INPUT: true; the input reads as it did. -/
def fnOrderByIgnoresTableAndItemSpec : ChangeSpec := { name := "fnOrderByIgnoresTableAndItem", fn := fun _ => fun
  | [d1, d2, d3, d4, d5, d6, d7, d8, d9] => { results := [.lit (.bool true)], args := [d1, d2, d3, d4, d5, d6, d7, d8, d9] }
  | _ => none }
def fnOrderByIgnoresTableAndItemRow : OpenClaim := { program := "qxb6001833amods", sum := "5dd7d68e9a19f503c258cd1e7e96a8887ee8e4826818a7fbdb7bd8a3dca08491", func := "example.com/shapewire/shapewire/zzlaws_sqldb_b1.FnOrderByIgnoresTableAndItem", spec := "fnOrderByIgnoresTableAndItem", make := .lifted ["publicsums"], apart := false }
def FnOrderByIgnoresTableAndItemSaid : Prop := fnOrderByIgnoresTableAndItemRow.holds Trym.pinned (OpenSpec.ofChange fnOrderByIgnoresTableAndItemSpec)

/-- ITS FALSE NEIGHBOUR: 'it returns false'. Refute it at one input. -/
def fnOrderByIgnoresTableAndItemWrong : ChangeSpec := { name := "fnOrderByIgnoresTableAndItem", fn := fun _ => fun
  | [d1, d2, d3, d4, d5, d6, d7, d8, d9] => { results := [.lit (.bool false)], args := [d1, d2, d3, d4, d5, d6, d7, d8, d9] }
  | _ => none }
def FnOrderByIgnoresTableAndItemWrongFalsely : Prop := fnOrderByIgnoresTableAndItemRow.holds Trym.pinned (OpenSpec.ofChange fnOrderByIgnoresTableAndItemWrong)

end Rows
end Go.Proofs.Qxb6001833aMods
