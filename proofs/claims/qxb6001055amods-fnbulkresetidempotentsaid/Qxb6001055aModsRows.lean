/-
  No cell of these rows narrows 'for every input' (looked for: loops, veiled, ifaces, maps, wideKeys, modest, calm, conditions, laid).
  DERIVED. THE GIVEN ROWS OF THIS SEAT. 4 by the template 'for every input the law returns true; each argument reads behind the call as it read before'; 0 by the template 'total and deterministic' (their statements: Qxb6001055aModsTotals.lean).
  GIVEN WITH THE SEED: the statements are not yours to turn. If you find one false, say at which input.
  Laid BY PROGRAM, IN A SANDBOX (cutbox-rows.mjs): the forced cells as the released guide's own fill.sh prints them over the translation 0aeb7128a05da94f… (all of the seat's roots in one cut). By AI agents, Wed Nov 11 2026. No macro, syntax, notation, axiom, sorry.
-/
import Derived.Test.Qxb6001055aModsChecked
import GoSem.Claim
import GoSem.ClaimJoined
import GoSem.ClaimMapViews
import Derived.JoinedTies
import Derived.KernelRfl
namespace Go.Proofs.Qxb6001055aMods
/- THE CELL 'sum', in the pinned program and in every row, IS THE sha256 OF THE DUMP (.gsa) THAT Qxb6001055aModsProg.lean LOADS. Nothing in Lean hashes anything: it is a label: what it is worth is what the hold of that sum in a sandbox is worth. -/
noncomputable def Trym.pinned : Pinned := { name := "qxb6001055amods", sum := "0aeb7128a05da94fe011e5a2b7ccfd6f21058abaefe7c47d2da265437c486bf0", checked := Trym.checked }
namespace Rows
def none {H : Type} : Left H := { results := [], args := [] }

/-- 'zzlaws_root_b1.FnRandomHeightBoundsAndState': WHATEVER THE INPUT: true; the input reads as it did. -/
def fnRandomHeightBoundsAndStateSpec : ChangeSpec := { name := "fnRandomHeightBoundsAndState", fn := fun _ => fun
  | [d] => { results := [.lit (.bool true)], args := [d] }
  | _ => none }
def fnRandomHeightBoundsAndStateRow : OpenClaim := { program := "qxb6001055amods", sum := "0aeb7128a05da94fe011e5a2b7ccfd6f21058abaefe7c47d2da265437c486bf0", func := "example.com/loadstone/loadstone/zzlaws_root_b1.FnRandomHeightBoundsAndState", spec := "fnRandomHeightBoundsAndState", make := .lifted ["publicsums"], apart := false }
def FnRandomHeightBoundsAndStateSaid : Prop := fnRandomHeightBoundsAndStateRow.holds Trym.pinned (OpenSpec.ofChange fnRandomHeightBoundsAndStateSpec)

/-- ITS FALSE NEIGHBOUR: 'it returns false'. Refute it at one input. -/
def fnRandomHeightBoundsAndStateWrong : ChangeSpec := { name := "fnRandomHeightBoundsAndState", fn := fun _ => fun
  | [d] => { results := [.lit (.bool false)], args := [d] }
  | _ => none }
def FnRandomHeightBoundsAndStateWrongFalsely : Prop := fnRandomHeightBoundsAndStateRow.holds Trym.pinned (OpenSpec.ofChange fnRandomHeightBoundsAndStateWrong)

/-- 'zzlaws_root_b1.FnRandomHeightXorLinear': WHATEVER THE INPUT: true; the input reads as it did. -/
def fnRandomHeightXorLinearSpec : ChangeSpec := { name := "fnRandomHeightXorLinear", fn := fun _ => fun
  | [d1, d2] => { results := [.lit (.bool true)], args := [d1, d2] }
  | _ => none }
def fnRandomHeightXorLinearRow : OpenClaim := { program := "qxb6001055amods", sum := "0aeb7128a05da94fe011e5a2b7ccfd6f21058abaefe7c47d2da265437c486bf0", func := "example.com/loadstone/loadstone/zzlaws_root_b1.FnRandomHeightXorLinear", spec := "fnRandomHeightXorLinear", make := .lifted ["publicsums"], apart := false }
def FnRandomHeightXorLinearSaid : Prop := fnRandomHeightXorLinearRow.holds Trym.pinned (OpenSpec.ofChange fnRandomHeightXorLinearSpec)

/-- ITS FALSE NEIGHBOUR: 'it returns false'. Refute it at one input. -/
def fnRandomHeightXorLinearWrong : ChangeSpec := { name := "fnRandomHeightXorLinear", fn := fun _ => fun
  | [d1, d2] => { results := [.lit (.bool false)], args := [d1, d2] }
  | _ => none }
def FnRandomHeightXorLinearWrongFalsely : Prop := fnRandomHeightXorLinearRow.holds Trym.pinned (OpenSpec.ofChange fnRandomHeightXorLinearWrong)

/-- 'zzlaws_root_b1.FnBulkResetEmptiesAndKeepsUsualChunks': WHATEVER THE INPUT: true; the input reads as it did. -/
def fnBulkResetEmptiesAndKeepsUsualChunksSpec : ChangeSpec := { name := "fnBulkResetEmptiesAndKeepsUsualChunks", fn := fun _ => fun
  | [d1, d2, d3, d4, d5] => { results := [.lit (.bool true)], args := [d1, d2, d3, d4, d5] }
  | _ => none }
def fnBulkResetEmptiesAndKeepsUsualChunksRow : OpenClaim := { program := "qxb6001055amods", sum := "0aeb7128a05da94fe011e5a2b7ccfd6f21058abaefe7c47d2da265437c486bf0", func := "example.com/loadstone/loadstone/zzlaws_root_b1.FnBulkResetEmptiesAndKeepsUsualChunks", spec := "fnBulkResetEmptiesAndKeepsUsualChunks", make := .lifted ["publicsums"], apart := false }
def FnBulkResetEmptiesAndKeepsUsualChunksSaid : Prop := fnBulkResetEmptiesAndKeepsUsualChunksRow.holds Trym.pinned (OpenSpec.ofChange fnBulkResetEmptiesAndKeepsUsualChunksSpec)

/-- ITS FALSE NEIGHBOUR: 'it returns false'. Refute it at one input. -/
def fnBulkResetEmptiesAndKeepsUsualChunksWrong : ChangeSpec := { name := "fnBulkResetEmptiesAndKeepsUsualChunks", fn := fun _ => fun
  | [d1, d2, d3, d4, d5] => { results := [.lit (.bool false)], args := [d1, d2, d3, d4, d5] }
  | _ => none }
def FnBulkResetEmptiesAndKeepsUsualChunksWrongFalsely : Prop := fnBulkResetEmptiesAndKeepsUsualChunksRow.holds Trym.pinned (OpenSpec.ofChange fnBulkResetEmptiesAndKeepsUsualChunksWrong)

/-- 'zzlaws_root_b1.FnBulkResetIdempotent': WHATEVER THE INPUT: true; the input reads as it did. -/
def fnBulkResetIdempotentSpec : ChangeSpec := { name := "fnBulkResetIdempotent", fn := fun _ => fun
  | [d1, d2, d3, d4, d5] => { results := [.lit (.bool true)], args := [d1, d2, d3, d4, d5] }
  | _ => none }
def fnBulkResetIdempotentRow : OpenClaim := { program := "qxb6001055amods", sum := "0aeb7128a05da94fe011e5a2b7ccfd6f21058abaefe7c47d2da265437c486bf0", func := "example.com/loadstone/loadstone/zzlaws_root_b1.FnBulkResetIdempotent", spec := "fnBulkResetIdempotent", make := .lifted ["publicsums"], apart := false }
def FnBulkResetIdempotentSaid : Prop := fnBulkResetIdempotentRow.holds Trym.pinned (OpenSpec.ofChange fnBulkResetIdempotentSpec)

/-- ITS FALSE NEIGHBOUR: 'it returns false'. Refute it at one input. -/
def fnBulkResetIdempotentWrong : ChangeSpec := { name := "fnBulkResetIdempotent", fn := fun _ => fun
  | [d1, d2, d3, d4, d5] => { results := [.lit (.bool false)], args := [d1, d2, d3, d4, d5] }
  | _ => none }
def FnBulkResetIdempotentWrongFalsely : Prop := fnBulkResetIdempotentRow.holds Trym.pinned (OpenSpec.ofChange fnBulkResetIdempotentWrong)

end Rows
end Go.Proofs.Qxb6001055aMods
