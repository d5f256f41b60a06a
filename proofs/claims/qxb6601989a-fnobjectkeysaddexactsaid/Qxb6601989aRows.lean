/-
  NARROWER THAN 'FOR EVERY INPUT', by the rows' own cells (each row's printed sentence says how): FnObjectKeysAddExact: maps.
  DERIVED. THE GIVEN ROWS OF THIS SEAT. 3 by the template 'for every input the law returns true; each argument reads behind the call as it read before'; 0 by the template 'total and deterministic' (their statements: Qxb6601989aTotals.lean).
  GIVEN WITH THE SEED: the statements are not yours to turn. If you find one false, say at which input.
  Laid BY PROGRAM, IN A SANDBOX (cutbox-rows.mjs): the forced cells as the released guide's own fill.sh prints them over the translation 9beb4f93c7882e5f… (all of the seat's roots in one cut). By AI agents, Wed Nov 11 2026. No macro, syntax, notation, axiom, sorry.
-/
import Derived.Test.Qxb6601989aChecked
import GoSem.Claim
import GoSem.ClaimJoined
import GoSem.ClaimMapViews
import Derived.JoinedTies
import Derived.KernelRfl
namespace Go.Proofs.Qxb6601989a
/- THE CELL 'sum', in the pinned program and in every row, IS THE sha256 OF THE DUMP (.gsa) THAT Qxb6601989aProg.lean LOADS. Nothing in Lean hashes anything: it is a label: what it is worth is what the hold of that sum in a sandbox is worth. -/
noncomputable def Try.pinned : Pinned := { name := "qxb6601989a", sum := "9beb4f93c7882e5fc2adbcb76ea0ff27764cf9a1dad2f7ffe8f43ce34ae4e29f", checked := Try.checked }
namespace Rows
def none {H : Type} : Left H := { results := [], args := [] }

/-- 'zzlaws_internal_fund_b1.FnObjectKeysAddExact': WHATEVER THE INPUT: true; the input reads as it did. -/
def fnObjectKeysAddExactSpec : ChangeSpec := { name := "fnObjectKeysAddExact", fn := fun _ => fun
  | [d1, d2, d3, d4] => { results := [.lit (.bool true)], args := [d1, d2, d3, d4] }
  | _ => none }
def fnObjectKeysAddExactRow : OpenClaim := { program := "qxb6601989a", sum := "9beb4f93c7882e5fc2adbcb76ea0ff27764cf9a1dad2f7ffe8f43ce34ae4e29f", func := "example.com/tuoguan/tuoguan/zzlaws_internal_fund_b1.FnObjectKeysAddExact", spec := "fnObjectKeysAddExact", maps := true, apart := false }
def FnObjectKeysAddExactSaid : Prop := fnObjectKeysAddExactRow.holds Try.pinned (OpenSpec.ofChange fnObjectKeysAddExactSpec)

/-- ITS FALSE NEIGHBOUR: 'it returns false'. Refute it at one input. -/
def fnObjectKeysAddExactWrong : ChangeSpec := { name := "fnObjectKeysAddExact", fn := fun _ => fun
  | [d1, d2, d3, d4] => { results := [.lit (.bool false)], args := [d1, d2, d3, d4] }
  | _ => none }
def FnObjectKeysAddExactWrongFalsely : Prop := fnObjectKeysAddExactRow.holds Try.pinned (OpenSpec.ofChange fnObjectKeysAddExactWrong)

/-- 'zzlaws_internal_fund_b1.FnObjectKeysAddScript': WHATEVER THE INPUT: true; the input reads as it did. -/
def fnObjectKeysAddScriptSpec : ChangeSpec := { name := "fnObjectKeysAddScript", fn := fun _ => fun
  | [d1, d2] => { results := [.lit (.bool true)], args := [d1, d2] }
  | _ => none }
def fnObjectKeysAddScriptRow : OpenClaim := { program := "qxb6601989a", sum := "9beb4f93c7882e5fc2adbcb76ea0ff27764cf9a1dad2f7ffe8f43ce34ae4e29f", func := "example.com/tuoguan/tuoguan/zzlaws_internal_fund_b1.FnObjectKeysAddScript", spec := "fnObjectKeysAddScript", apart := false }
def FnObjectKeysAddScriptSaid : Prop := fnObjectKeysAddScriptRow.holds Try.pinned (OpenSpec.ofChange fnObjectKeysAddScriptSpec)

/-- ITS FALSE NEIGHBOUR: 'it returns false'. Refute it at one input. -/
def fnObjectKeysAddScriptWrong : ChangeSpec := { name := "fnObjectKeysAddScript", fn := fun _ => fun
  | [d1, d2] => { results := [.lit (.bool false)], args := [d1, d2] }
  | _ => none }
def FnObjectKeysAddScriptWrongFalsely : Prop := fnObjectKeysAddScriptRow.holds Try.pinned (OpenSpec.ofChange fnObjectKeysAddScriptWrong)

/-- 'zzlaws_internal_fund_b1.FnPlainKeyConcat': WHATEVER THE INPUT: true; the input reads as it did. -/
def fnPlainKeyConcatSpec : ChangeSpec := { name := "fnPlainKeyConcat", fn := fun _ => fun
  | [d1, d2] => { results := [.lit (.bool true)], args := [d1, d2] }
  | _ => none }
def fnPlainKeyConcatRow : OpenClaim := { program := "qxb6601989a", sum := "9beb4f93c7882e5fc2adbcb76ea0ff27764cf9a1dad2f7ffe8f43ce34ae4e29f", func := "example.com/tuoguan/tuoguan/zzlaws_internal_fund_b1.FnPlainKeyConcat", spec := "fnPlainKeyConcat", apart := false }
def FnPlainKeyConcatSaid : Prop := fnPlainKeyConcatRow.holds Try.pinned (OpenSpec.ofChange fnPlainKeyConcatSpec)

/-- ITS FALSE NEIGHBOUR: 'it returns false'. Refute it at one input. -/
def fnPlainKeyConcatWrong : ChangeSpec := { name := "fnPlainKeyConcat", fn := fun _ => fun
  | [d1, d2] => { results := [.lit (.bool false)], args := [d1, d2] }
  | _ => none }
def FnPlainKeyConcatWrongFalsely : Prop := fnPlainKeyConcatRow.holds Try.pinned (OpenSpec.ofChange fnPlainKeyConcatWrong)

end Rows
end Go.Proofs.Qxb6601989a
