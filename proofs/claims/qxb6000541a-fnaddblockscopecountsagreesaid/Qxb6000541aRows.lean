/-
  No cell of these rows narrows 'for every input' (looked for: loops, veiled, ifaces, maps, wideKeys, modest, calm, conditions, laid).
  DERIVED. THE GIVEN ROWS OF THIS SEAT. 5 by the template 'for every input the law returns true; each argument reads behind the call as it read before'; 0 by the template 'total and deterministic' (their statements: Qxb6000541aTotals.lean).
  GIVEN WITH THE SEED: the statements are not yours to turn. If you find one false, say at which input.
  Laid BY PROGRAM, IN A SANDBOX (cutbox-rows.mjs): the forced cells as the released guide's own fill.sh prints them over the translation ee82471dafe9880f… (all of the seat's roots in one cut). By AI agents, Wed Nov 11 2026. No macro, syntax, notation, axiom, sorry.
-/
import Derived.Test.Qxb6000541aChecked
import GoSem.Claim
import GoSem.ClaimJoined
import GoSem.ClaimMapViews
import Derived.JoinedTies
import Derived.KernelRfl
namespace Go.Proofs.Qxb6000541a
/- THE CELL 'sum', in the pinned program and in every row, IS THE sha256 OF THE DUMP (.gsa) THAT Qxb6000541aProg.lean LOADS. Nothing in Lean hashes anything: it is a label: what it is worth is what the hold of that sum in a sandbox is worth. -/
noncomputable def Try.pinned : Pinned := { name := "qxb6000541a", sum := "ee82471dafe9880ffc02c19f5ff4b7bf998f47986e10e488697250de12307ffa", checked := Try.checked }
namespace Rows
def none {H : Type} : Left H := { results := [], args := [] }

/-- 'zzlaws_internal_store_b1.FnIDNumbersCreativesInFirstSeenOrder': WHATEVER THE INPUT: true; the input reads as it did. -/
def fnIDNumbersCreativesInFirstSeenOrderSpec : ChangeSpec := { name := "fnIDNumbersCreativesInFirstSeenOrder", fn := fun _ => fun
  | [d1, d2] => { results := [.lit (.bool true)], args := [d1, d2] }
  | _ => none }
def fnIDNumbersCreativesInFirstSeenOrderRow : OpenClaim := { program := "qxb6000541a", sum := "ee82471dafe9880ffc02c19f5ff4b7bf998f47986e10e488697250de12307ffa", func := "example.com/imprimatur/imprimatur/zzlaws_internal_store_b1.FnIDNumbersCreativesInFirstSeenOrder", spec := "fnIDNumbersCreativesInFirstSeenOrder", plainKeys := false, apart := false }
def FnIDNumbersCreativesInFirstSeenOrderSaid : Prop := fnIDNumbersCreativesInFirstSeenOrderRow.holds Try.pinned (OpenSpec.ofChange fnIDNumbersCreativesInFirstSeenOrderSpec)

/-- ITS FALSE NEIGHBOUR: 'it returns false'. Refute it at one input. -/
def fnIDNumbersCreativesInFirstSeenOrderWrong : ChangeSpec := { name := "fnIDNumbersCreativesInFirstSeenOrder", fn := fun _ => fun
  | [d1, d2] => { results := [.lit (.bool false)], args := [d1, d2] }
  | _ => none }
def FnIDNumbersCreativesInFirstSeenOrderWrongFalsely : Prop := fnIDNumbersCreativesInFirstSeenOrderRow.holds Try.pinned (OpenSpec.ofChange fnIDNumbersCreativesInFirstSeenOrderWrong)

/-- 'zzlaws_internal_store_b1.FnIDStableUnderReplay': WHATEVER THE INPUT: true; the input reads as it did. -/
def fnIDStableUnderReplaySpec : ChangeSpec := { name := "fnIDStableUnderReplay", fn := fun _ => fun
  | [d1, d2] => { results := [.lit (.bool true)], args := [d1, d2] }
  | _ => none }
def fnIDStableUnderReplayRow : OpenClaim := { program := "qxb6000541a", sum := "ee82471dafe9880ffc02c19f5ff4b7bf998f47986e10e488697250de12307ffa", func := "example.com/imprimatur/imprimatur/zzlaws_internal_store_b1.FnIDStableUnderReplay", spec := "fnIDStableUnderReplay", plainKeys := false, apart := false }
def FnIDStableUnderReplaySaid : Prop := fnIDStableUnderReplayRow.holds Try.pinned (OpenSpec.ofChange fnIDStableUnderReplaySpec)

/-- ITS FALSE NEIGHBOUR: 'it returns false'. Refute it at one input. -/
def fnIDStableUnderReplayWrong : ChangeSpec := { name := "fnIDStableUnderReplay", fn := fun _ => fun
  | [d1, d2] => { results := [.lit (.bool false)], args := [d1, d2] }
  | _ => none }
def FnIDStableUnderReplayWrongFalsely : Prop := fnIDStableUnderReplayRow.holds Try.pinned (OpenSpec.ofChange fnIDStableUnderReplayWrong)

/-- 'zzlaws_internal_store_b1.FnAddBlockNewlyBlockedExactly': WHATEVER THE INPUT: true; the input reads as it did. -/
def fnAddBlockNewlyBlockedExactlySpec : ChangeSpec := { name := "fnAddBlockNewlyBlockedExactly", fn := fun _ => fun
  | [d1, d2, d3, d4, d5] => { results := [.lit (.bool true)], args := [d1, d2, d3, d4, d5] }
  | _ => none }
def fnAddBlockNewlyBlockedExactlyRow : OpenClaim := { program := "qxb6000541a", sum := "ee82471dafe9880ffc02c19f5ff4b7bf998f47986e10e488697250de12307ffa", func := "example.com/imprimatur/imprimatur/zzlaws_internal_store_b1.FnAddBlockNewlyBlockedExactly", spec := "fnAddBlockNewlyBlockedExactly", plainKeys := false, apart := false }
def FnAddBlockNewlyBlockedExactlySaid : Prop := fnAddBlockNewlyBlockedExactlyRow.holds Try.pinned (OpenSpec.ofChange fnAddBlockNewlyBlockedExactlySpec)

/-- ITS FALSE NEIGHBOUR: 'it returns false'. Refute it at one input. -/
def fnAddBlockNewlyBlockedExactlyWrong : ChangeSpec := { name := "fnAddBlockNewlyBlockedExactly", fn := fun _ => fun
  | [d1, d2, d3, d4, d5] => { results := [.lit (.bool false)], args := [d1, d2, d3, d4, d5] }
  | _ => none }
def FnAddBlockNewlyBlockedExactlyWrongFalsely : Prop := fnAddBlockNewlyBlockedExactlyRow.holds Try.pinned (OpenSpec.ofChange fnAddBlockNewlyBlockedExactlyWrong)

/-- 'zzlaws_internal_store_b1.FnAddBlockScopeCountsAgree': WHATEVER THE INPUT: true; the input reads as it did. -/
def fnAddBlockScopeCountsAgreeSpec : ChangeSpec := { name := "fnAddBlockScopeCountsAgree", fn := fun _ => fun
  | [d1, d2, d3, d4, d5] => { results := [.lit (.bool true)], args := [d1, d2, d3, d4, d5] }
  | _ => none }
def fnAddBlockScopeCountsAgreeRow : OpenClaim := { program := "qxb6000541a", sum := "ee82471dafe9880ffc02c19f5ff4b7bf998f47986e10e488697250de12307ffa", func := "example.com/imprimatur/imprimatur/zzlaws_internal_store_b1.FnAddBlockScopeCountsAgree", spec := "fnAddBlockScopeCountsAgree", plainKeys := false, apart := false }
def FnAddBlockScopeCountsAgreeSaid : Prop := fnAddBlockScopeCountsAgreeRow.holds Try.pinned (OpenSpec.ofChange fnAddBlockScopeCountsAgreeSpec)

/-- ITS FALSE NEIGHBOUR: 'it returns false'. Refute it at one input. -/
def fnAddBlockScopeCountsAgreeWrong : ChangeSpec := { name := "fnAddBlockScopeCountsAgree", fn := fun _ => fun
  | [d1, d2, d3, d4, d5] => { results := [.lit (.bool false)], args := [d1, d2, d3, d4, d5] }
  | _ => none }
def FnAddBlockScopeCountsAgreeWrongFalsely : Prop := fnAddBlockScopeCountsAgreeRow.holds Try.pinned (OpenSpec.ofChange fnAddBlockScopeCountsAgreeWrong)

/-- 'zzlaws_internal_store_b1.FnAddBlockReplayRefused': WHATEVER THE INPUT: true; the input reads as it did. -/
def fnAddBlockReplayRefusedSpec : ChangeSpec := { name := "fnAddBlockReplayRefused", fn := fun _ => fun
  | [d1, d2, d3, d4, d5] => { results := [.lit (.bool true)], args := [d1, d2, d3, d4, d5] }
  | _ => none }
def fnAddBlockReplayRefusedRow : OpenClaim := { program := "qxb6000541a", sum := "ee82471dafe9880ffc02c19f5ff4b7bf998f47986e10e488697250de12307ffa", func := "example.com/imprimatur/imprimatur/zzlaws_internal_store_b1.FnAddBlockReplayRefused", spec := "fnAddBlockReplayRefused", plainKeys := false, apart := false }
def FnAddBlockReplayRefusedSaid : Prop := fnAddBlockReplayRefusedRow.holds Try.pinned (OpenSpec.ofChange fnAddBlockReplayRefusedSpec)

/-- ITS FALSE NEIGHBOUR: 'it returns false'. Refute it at one input. -/
def fnAddBlockReplayRefusedWrong : ChangeSpec := { name := "fnAddBlockReplayRefused", fn := fun _ => fun
  | [d1, d2, d3, d4, d5] => { results := [.lit (.bool false)], args := [d1, d2, d3, d4, d5] }
  | _ => none }
def FnAddBlockReplayRefusedWrongFalsely : Prop := fnAddBlockReplayRefusedRow.holds Try.pinned (OpenSpec.ofChange fnAddBlockReplayRefusedWrong)

end Rows
end Go.Proofs.Qxb6000541a
