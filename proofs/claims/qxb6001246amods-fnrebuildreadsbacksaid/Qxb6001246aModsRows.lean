/-
  No cell of these rows narrows 'for every input' (looked for: loops, veiled, ifaces, maps, wideKeys, modest, calm, conditions, laid).
  DERIVED. THE GIVEN ROWS OF THIS SEAT. 5 by the template 'for every input the law returns true; each argument reads behind the call as it read before'; 0 by the template 'total and deterministic' (their statements: Qxb6001246aModsTotals.lean).
  GIVEN WITH THE SEED: the statements are not yours to turn. If you find one false, say at which input.
  Laid BY PROGRAM, IN A SANDBOX (cutbox-rows.mjs): the forced cells as the released guide's own fill.sh prints them over the translation 61248f10016948ba… (all of the seat's roots in one cut). By AI agents, Wed Nov 11 2026. No macro, syntax, notation, axiom, sorry.
-/
import Derived.Test.Qxb6001246aModsChecked
import GoSem.Claim
import GoSem.ClaimJoined
import GoSem.ClaimMapViews
import Derived.JoinedTies
import Derived.KernelRfl
namespace Go.Proofs.Qxb6001246aMods
/- THE CELL 'sum', in the pinned program and in every row, IS THE sha256 OF THE DUMP (.gsa) THAT Qxb6001246aModsProg.lean LOADS. Nothing in Lean hashes anything: it is a label: what it is worth is what the hold of that sum in a sandbox is worth. -/
noncomputable def Trym.pinned : Pinned := { name := "qxb6001246amods", sum := "61248f10016948ba1e26082b1b7d39fea2a0a223e8af905b609f0c41ecd9f9b2", checked := Trym.checked }
namespace Rows
def none {H : Type} : Left H := { results := [], args := [] }

/-- 'zzlaws_internal_register_b1.FnValuesInjective': WHATEVER THE INPUT: true; the input reads as it did. -/
def fnValuesInjectiveSpec : ChangeSpec := { name := "fnValuesInjective", fn := fun _ => fun
  | [d1, d2] => { results := [.lit (.bool true)], args := [d1, d2] }
  | _ => none }
def fnValuesInjectiveRow : OpenClaim := { program := "qxb6001246amods", sum := "61248f10016948ba1e26082b1b7d39fea2a0a223e8af905b609f0c41ecd9f9b2", func := "example.com/zhaomu/zhaomu/zzlaws_internal_register_b1.FnValuesInjective", spec := "fnValuesInjective", make := .lifted ["publicsums"], apart := false }
def FnValuesInjectiveSaid : Prop := fnValuesInjectiveRow.holds Trym.pinned (OpenSpec.ofChange fnValuesInjectiveSpec)

/-- ITS FALSE NEIGHBOUR: 'it returns false'. Refute it at one input. -/
def fnValuesInjectiveWrong : ChangeSpec := { name := "fnValuesInjective", fn := fun _ => fun
  | [d1, d2] => { results := [.lit (.bool false)], args := [d1, d2] }
  | _ => none }
def FnValuesInjectiveWrongFalsely : Prop := fnValuesInjectiveRow.holds Trym.pinned (OpenSpec.ofChange fnValuesInjectiveWrong)

/-- 'zzlaws_internal_register_b1.FnFieldsScanRestoresRecord': WHATEVER THE INPUT: true; the input reads as it did. -/
def fnFieldsScanRestoresRecordSpec : ChangeSpec := { name := "fnFieldsScanRestoresRecord", fn := fun _ => fun
  | [d] => { results := [.lit (.bool true)], args := [d] }
  | _ => none }
def fnFieldsScanRestoresRecordRow : OpenClaim := { program := "qxb6001246amods", sum := "61248f10016948ba1e26082b1b7d39fea2a0a223e8af905b609f0c41ecd9f9b2", func := "example.com/zhaomu/zhaomu/zzlaws_internal_register_b1.FnFieldsScanRestoresRecord", spec := "fnFieldsScanRestoresRecord", make := .lifted ["publicsums"], apart := false }
def FnFieldsScanRestoresRecordSaid : Prop := fnFieldsScanRestoresRecordRow.holds Trym.pinned (OpenSpec.ofChange fnFieldsScanRestoresRecordSpec)

/-- ITS FALSE NEIGHBOUR: 'it returns false'. Refute it at one input. -/
def fnFieldsScanRestoresRecordWrong : ChangeSpec := { name := "fnFieldsScanRestoresRecord", fn := fun _ => fun
  | [d] => { results := [.lit (.bool false)], args := [d] }
  | _ => none }
def FnFieldsScanRestoresRecordWrongFalsely : Prop := fnFieldsScanRestoresRecordRow.holds Trym.pinned (OpenSpec.ofChange fnFieldsScanRestoresRecordWrong)

/-- 'zzlaws_internal_register_b1.FnFieldsWriteTouchesOneValue': WHATEVER THE INPUT: true; the input reads as it did. -/
def fnFieldsWriteTouchesOneValueSpec : ChangeSpec := { name := "fnFieldsWriteTouchesOneValue", fn := fun _ => fun
  | [d1, d2, d3] => { results := [.lit (.bool true)], args := [d1, d2, d3] }
  | _ => none }
def fnFieldsWriteTouchesOneValueRow : OpenClaim := { program := "qxb6001246amods", sum := "61248f10016948ba1e26082b1b7d39fea2a0a223e8af905b609f0c41ecd9f9b2", func := "example.com/zhaomu/zhaomu/zzlaws_internal_register_b1.FnFieldsWriteTouchesOneValue", spec := "fnFieldsWriteTouchesOneValue", make := .lifted ["publicsums"], apart := false }
def FnFieldsWriteTouchesOneValueSaid : Prop := fnFieldsWriteTouchesOneValueRow.holds Trym.pinned (OpenSpec.ofChange fnFieldsWriteTouchesOneValueSpec)

/-- ITS FALSE NEIGHBOUR: 'it returns false'. Refute it at one input. -/
def fnFieldsWriteTouchesOneValueWrong : ChangeSpec := { name := "fnFieldsWriteTouchesOneValue", fn := fun _ => fun
  | [d1, d2, d3] => { results := [.lit (.bool false)], args := [d1, d2, d3] }
  | _ => none }
def FnFieldsWriteTouchesOneValueWrongFalsely : Prop := fnFieldsWriteTouchesOneValueRow.holds Trym.pinned (OpenSpec.ofChange fnFieldsWriteTouchesOneValueWrong)

/-- 'zzlaws_internal_register_b1.FnRebuildReadsBack': WHATEVER THE INPUT: true; the input reads as it did. -/
def fnRebuildReadsBackSpec : ChangeSpec := { name := "fnRebuildReadsBack", fn := fun _ => fun
  | [d1, d2, d3, d4] => { results := [.lit (.bool true)], args := [d1, d2, d3, d4] }
  | _ => none }
def fnRebuildReadsBackRow : OpenClaim := { program := "qxb6001246amods", sum := "61248f10016948ba1e26082b1b7d39fea2a0a223e8af905b609f0c41ecd9f9b2", func := "example.com/zhaomu/zhaomu/zzlaws_internal_register_b1.FnRebuildReadsBack", spec := "fnRebuildReadsBack", make := .lifted ["publicsums"], apart := false }
def FnRebuildReadsBackSaid : Prop := fnRebuildReadsBackRow.holds Trym.pinned (OpenSpec.ofChange fnRebuildReadsBackSpec)

/-- ITS FALSE NEIGHBOUR: 'it returns false'. Refute it at one input. -/
def fnRebuildReadsBackWrong : ChangeSpec := { name := "fnRebuildReadsBack", fn := fun _ => fun
  | [d1, d2, d3, d4] => { results := [.lit (.bool false)], args := [d1, d2, d3, d4] }
  | _ => none }
def FnRebuildReadsBackWrongFalsely : Prop := fnRebuildReadsBackRow.holds Trym.pinned (OpenSpec.ofChange fnRebuildReadsBackWrong)

/-- 'zzlaws_internal_register_b1.FnRebuildColumnsValuesOnlyInInsert': WHATEVER THE INPUT: true; the input reads as it did. -/
def fnRebuildColumnsValuesOnlyInInsertSpec : ChangeSpec := { name := "fnRebuildColumnsValuesOnlyInInsert", fn := fun _ => fun
  | [d1, d2, d3, d4, d5, d6] => { results := [.lit (.bool true)], args := [d1, d2, d3, d4, d5, d6] }
  | _ => none }
def fnRebuildColumnsValuesOnlyInInsertRow : OpenClaim := { program := "qxb6001246amods", sum := "61248f10016948ba1e26082b1b7d39fea2a0a223e8af905b609f0c41ecd9f9b2", func := "example.com/zhaomu/zhaomu/zzlaws_internal_register_b1.FnRebuildColumnsValuesOnlyInInsert", spec := "fnRebuildColumnsValuesOnlyInInsert", make := .lifted ["publicsums"], apart := false }
def FnRebuildColumnsValuesOnlyInInsertSaid : Prop := fnRebuildColumnsValuesOnlyInInsertRow.holds Trym.pinned (OpenSpec.ofChange fnRebuildColumnsValuesOnlyInInsertSpec)

/-- ITS FALSE NEIGHBOUR: 'it returns false'. Refute it at one input. -/
def fnRebuildColumnsValuesOnlyInInsertWrong : ChangeSpec := { name := "fnRebuildColumnsValuesOnlyInInsert", fn := fun _ => fun
  | [d1, d2, d3, d4, d5, d6] => { results := [.lit (.bool false)], args := [d1, d2, d3, d4, d5, d6] }
  | _ => none }
def FnRebuildColumnsValuesOnlyInInsertWrongFalsely : Prop := fnRebuildColumnsValuesOnlyInInsertRow.holds Trym.pinned (OpenSpec.ofChange fnRebuildColumnsValuesOnlyInInsertWrong)

end Rows
end Go.Proofs.Qxb6001246aMods
