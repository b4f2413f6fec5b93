/-
  No cell of these rows narrows 'for every input' (looked for: loops, veiled, ifaces, maps, wideKeys, modest, calm, conditions, laid).
  DERIVED. THE GIVEN ROWS OF THIS SEAT. 3 by the template 'for every input the law returns true; each argument reads behind the call as it read before'; 0 by the template 'total and deterministic' (their statements: Qxb6602815aTotals.lean).
  GIVEN WITH THE SEED: the statements are not yours to turn. If you find one false, say at which input.
  Laid BY PROGRAM, IN A SANDBOX (cutbox-rows.mjs): the forced cells as the released guide's own fill.sh prints them over the translation 3833701b4476bf34… (all of the seat's roots in one cut). By AI agents, Wed Nov 11 2026. No macro, syntax, notation, axiom, sorry.
-/
import Derived.Test.Qxb6602815aChecked
import GoSem.Claim
import GoSem.ClaimJoined
import GoSem.ClaimMapViews
import Derived.JoinedTies
import Derived.KernelRfl
namespace Go.Proofs.Qxb6602815a
/- THE CELL 'sum', in the pinned program and in every row, IS THE sha256 OF THE DUMP (.gsa) THAT Qxb6602815aProg.lean LOADS. Nothing in Lean hashes anything: it is a label: what it is worth is what the hold of that sum in a sandbox is worth. -/
noncomputable def Try.pinned : Pinned := { name := "qxb6602815a", sum := "3833701b4476bf34eacbf71fc3e8c7404afed9b77be69878bed17689f025886c", checked := Try.checked }
namespace Rows
def none {H : Type} : Left H := { results := [], args := [] }

/-- 'zzlaws_internal_ledger_b1.FnAccountsMatchesFirstSeenModel': WHATEVER THE INPUT: true; the input reads as it did. -/
def fnAccountsMatchesFirstSeenModelSpec : ChangeSpec := { name := "fnAccountsMatchesFirstSeenModel", fn := fun _ => fun
  | [d1, d2, d3, d4, d5, d6, d7, d8] => { results := [.lit (.bool true)], args := [d1, d2, d3, d4, d5, d6, d7, d8] }
  | _ => none }
def fnAccountsMatchesFirstSeenModelRow : OpenClaim := { program := "qxb6602815a", sum := "3833701b4476bf34eacbf71fc3e8c7404afed9b77be69878bed17689f025886c", func := "example.com/crossweave/crossweave/zzlaws_internal_ledger_b1.FnAccountsMatchesFirstSeenModel", spec := "fnAccountsMatchesFirstSeenModel", unfollowed := true, recurses := true, apart := false }
def FnAccountsMatchesFirstSeenModelSaid : Prop := fnAccountsMatchesFirstSeenModelRow.holds Try.pinned (OpenSpec.ofChange fnAccountsMatchesFirstSeenModelSpec)

/-- ITS FALSE NEIGHBOUR: 'it returns false'. Refute it at one input. -/
def fnAccountsMatchesFirstSeenModelWrong : ChangeSpec := { name := "fnAccountsMatchesFirstSeenModel", fn := fun _ => fun
  | [d1, d2, d3, d4, d5, d6, d7, d8] => { results := [.lit (.bool false)], args := [d1, d2, d3, d4, d5, d6, d7, d8] }
  | _ => none }
def FnAccountsMatchesFirstSeenModelWrongFalsely : Prop := fnAccountsMatchesFirstSeenModelRow.holds Try.pinned (OpenSpec.ofChange fnAccountsMatchesFirstSeenModelWrong)

/-- 'zzlaws_internal_ledger_b1.FnAccountsIsIdempotent': WHATEVER THE INPUT: true; the input reads as it did. -/
def fnAccountsIsIdempotentSpec : ChangeSpec := { name := "fnAccountsIsIdempotent", fn := fun _ => fun
  | [d1, d2, d3, d4, d5, d6, d7, d8] => { results := [.lit (.bool true)], args := [d1, d2, d3, d4, d5, d6, d7, d8] }
  | _ => none }
def fnAccountsIsIdempotentRow : OpenClaim := { program := "qxb6602815a", sum := "3833701b4476bf34eacbf71fc3e8c7404afed9b77be69878bed17689f025886c", func := "example.com/crossweave/crossweave/zzlaws_internal_ledger_b1.FnAccountsIsIdempotent", spec := "fnAccountsIsIdempotent", unfollowed := true, recurses := true, apart := false }
def FnAccountsIsIdempotentSaid : Prop := fnAccountsIsIdempotentRow.holds Try.pinned (OpenSpec.ofChange fnAccountsIsIdempotentSpec)

/-- ITS FALSE NEIGHBOUR: 'it returns false'. Refute it at one input. -/
def fnAccountsIsIdempotentWrong : ChangeSpec := { name := "fnAccountsIsIdempotent", fn := fun _ => fun
  | [d1, d2, d3, d4, d5, d6, d7, d8] => { results := [.lit (.bool false)], args := [d1, d2, d3, d4, d5, d6, d7, d8] }
  | _ => none }
def FnAccountsIsIdempotentWrongFalsely : Prop := fnAccountsIsIdempotentRow.holds Try.pinned (OpenSpec.ofChange fnAccountsIsIdempotentWrong)

/-- 'zzlaws_internal_ledger_b1.FnAccountsAppendKeepsPrefix': WHATEVER THE INPUT: true; the input reads as it did. -/
def fnAccountsAppendKeepsPrefixSpec : ChangeSpec := { name := "fnAccountsAppendKeepsPrefix", fn := fun _ => fun
  | [d1, d2, d3, d4, d5, d6] => { results := [.lit (.bool true)], args := [d1, d2, d3, d4, d5, d6] }
  | _ => none }
def fnAccountsAppendKeepsPrefixRow : OpenClaim := { program := "qxb6602815a", sum := "3833701b4476bf34eacbf71fc3e8c7404afed9b77be69878bed17689f025886c", func := "example.com/crossweave/crossweave/zzlaws_internal_ledger_b1.FnAccountsAppendKeepsPrefix", spec := "fnAccountsAppendKeepsPrefix", unfollowed := true, recurses := true, apart := false }
def FnAccountsAppendKeepsPrefixSaid : Prop := fnAccountsAppendKeepsPrefixRow.holds Try.pinned (OpenSpec.ofChange fnAccountsAppendKeepsPrefixSpec)

/-- ITS FALSE NEIGHBOUR: 'it returns false'. Refute it at one input. -/
def fnAccountsAppendKeepsPrefixWrong : ChangeSpec := { name := "fnAccountsAppendKeepsPrefix", fn := fun _ => fun
  | [d1, d2, d3, d4, d5, d6] => { results := [.lit (.bool false)], args := [d1, d2, d3, d4, d5, d6] }
  | _ => none }
def FnAccountsAppendKeepsPrefixWrongFalsely : Prop := fnAccountsAppendKeepsPrefixRow.holds Try.pinned (OpenSpec.ofChange fnAccountsAppendKeepsPrefixWrong)

end Rows
end Go.Proofs.Qxb6602815a
