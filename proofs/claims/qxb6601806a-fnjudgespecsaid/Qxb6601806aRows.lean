/-
  No cell of these rows narrows 'for every input' (looked for: loops, veiled, ifaces, maps, wideKeys, modest, calm, conditions, laid).
  DERIVED. THE GIVEN ROWS OF THIS SEAT. 6 by the template 'for every input the law returns true; each argument reads behind the call as it read before'; 0 by the template 'total and deterministic' (their statements: Qxb6601806aTotals.lean).
  GIVEN WITH THE SEED: the statements are not yours to turn. If you find one false, say at which input.
  Laid BY PROGRAM, IN A SANDBOX (cutbox-rows.mjs): the forced cells as the released guide's own fill.sh prints them over the translation 0706debe646ba08e… (all of the seat's roots in one cut). By AI agents, Wed Nov 11 2026. No macro, syntax, notation, axiom, sorry.
-/
import Derived.Test.Qxb6601806aChecked
import GoSem.Claim
import GoSem.ClaimJoined
import GoSem.ClaimMapViews
import Derived.JoinedTies
import Derived.KernelRfl
namespace Go.Proofs.Qxb6601806a
/- THE CELL 'sum', in the pinned program and in every row, IS THE sha256 OF THE DUMP (.gsa) THAT Qxb6601806aProg.lean LOADS. Nothing in Lean hashes anything: it is a label: what it is worth is what the hold of that sum in a sandbox is worth. -/
noncomputable def Try.pinned : Pinned := { name := "qxb6601806a", sum := "0706debe646ba08ee0939811d456bf57a6ff40bc0c437aeb810d737f4735b31e", checked := Try.checked }
namespace Rows
def none {H : Type} : Left H := { results := [], args := [] }

/-- 'zzlaws_internal_monitor_b1.FnEarlyEventsSpec': WHATEVER THE INPUT: true; the input reads as it did. -/
def fnEarlyEventsSpecSpec : ChangeSpec := { name := "fnEarlyEventsSpec", fn := fun _ => fun
  | [d] => { results := [.lit (.bool true)], args := [d] }
  | _ => none }
def fnEarlyEventsSpecRow : OpenClaim := { program := "qxb6601806a", sum := "0706debe646ba08ee0939811d456bf57a6ff40bc0c437aeb810d737f4735b31e", func := "example.com/cadarn/cadarn/zzlaws_internal_monitor_b1.FnEarlyEventsSpec", spec := "fnEarlyEventsSpec", unfollowed := true, recurses := true, apart := false }
def FnEarlyEventsSpecSaid : Prop := fnEarlyEventsSpecRow.holds Try.pinned (OpenSpec.ofChange fnEarlyEventsSpecSpec)

/-- ITS FALSE NEIGHBOUR: 'it returns false'. Refute it at one input. -/
def fnEarlyEventsSpecWrong : ChangeSpec := { name := "fnEarlyEventsSpec", fn := fun _ => fun
  | [d] => { results := [.lit (.bool false)], args := [d] }
  | _ => none }
def FnEarlyEventsSpecWrongFalsely : Prop := fnEarlyEventsSpecRow.holds Try.pinned (OpenSpec.ofChange fnEarlyEventsSpecWrong)

/-- 'zzlaws_internal_monitor_b1.FnEarlyEventsConcat': WHATEVER THE INPUT: true; the input reads as it did. -/
def fnEarlyEventsConcatSpec : ChangeSpec := { name := "fnEarlyEventsConcat", fn := fun _ => fun
  | [d1, d2] => { results := [.lit (.bool true)], args := [d1, d2] }
  | _ => none }
def fnEarlyEventsConcatRow : OpenClaim := { program := "qxb6601806a", sum := "0706debe646ba08ee0939811d456bf57a6ff40bc0c437aeb810d737f4735b31e", func := "example.com/cadarn/cadarn/zzlaws_internal_monitor_b1.FnEarlyEventsConcat", spec := "fnEarlyEventsConcat", unfollowed := true, recurses := true, apart := false }
def FnEarlyEventsConcatSaid : Prop := fnEarlyEventsConcatRow.holds Try.pinned (OpenSpec.ofChange fnEarlyEventsConcatSpec)

/-- ITS FALSE NEIGHBOUR: 'it returns false'. Refute it at one input. -/
def fnEarlyEventsConcatWrong : ChangeSpec := { name := "fnEarlyEventsConcat", fn := fun _ => fun
  | [d1, d2] => { results := [.lit (.bool false)], args := [d1, d2] }
  | _ => none }
def FnEarlyEventsConcatWrongFalsely : Prop := fnEarlyEventsConcatRow.holds Try.pinned (OpenSpec.ofChange fnEarlyEventsConcatWrong)

/-- 'zzlaws_internal_monitor_b1.FnDifferingSwap': WHATEVER THE INPUT: true; the input reads as it did. -/
def fnDifferingSwapSpec : ChangeSpec := { name := "fnDifferingSwap", fn := fun _ => fun
  | [d1, d2] => { results := [.lit (.bool true)], args := [d1, d2] }
  | _ => none }
def fnDifferingSwapRow : OpenClaim := { program := "qxb6601806a", sum := "0706debe646ba08ee0939811d456bf57a6ff40bc0c437aeb810d737f4735b31e", func := "example.com/cadarn/cadarn/zzlaws_internal_monitor_b1.FnDifferingSwap", spec := "fnDifferingSwap", apart := false }
def FnDifferingSwapSaid : Prop := fnDifferingSwapRow.holds Try.pinned (OpenSpec.ofChange fnDifferingSwapSpec)

/-- ITS FALSE NEIGHBOUR: 'it returns false'. Refute it at one input. -/
def fnDifferingSwapWrong : ChangeSpec := { name := "fnDifferingSwap", fn := fun _ => fun
  | [d1, d2] => { results := [.lit (.bool false)], args := [d1, d2] }
  | _ => none }
def FnDifferingSwapWrongFalsely : Prop := fnDifferingSwapRow.holds Try.pinned (OpenSpec.ofChange fnDifferingSwapWrong)

/-- 'zzlaws_internal_monitor_b1.FnDifferingSelf': WHATEVER THE INPUT: true; the input reads as it did. -/
def fnDifferingSelfSpec : ChangeSpec := { name := "fnDifferingSelf", fn := fun _ => fun
  | [d] => { results := [.lit (.bool true)], args := [d] }
  | _ => none }
def fnDifferingSelfRow : OpenClaim := { program := "qxb6601806a", sum := "0706debe646ba08ee0939811d456bf57a6ff40bc0c437aeb810d737f4735b31e", func := "example.com/cadarn/cadarn/zzlaws_internal_monitor_b1.FnDifferingSelf", spec := "fnDifferingSelf", apart := false }
def FnDifferingSelfSaid : Prop := fnDifferingSelfRow.holds Try.pinned (OpenSpec.ofChange fnDifferingSelfSpec)

/-- ITS FALSE NEIGHBOUR: 'it returns false'. Refute it at one input. -/
def fnDifferingSelfWrong : ChangeSpec := { name := "fnDifferingSelf", fn := fun _ => fun
  | [d] => { results := [.lit (.bool false)], args := [d] }
  | _ => none }
def FnDifferingSelfWrongFalsely : Prop := fnDifferingSelfRow.holds Try.pinned (OpenSpec.ofChange fnDifferingSelfWrong)

/-- 'zzlaws_internal_monitor_b1.FnJudgeSpec': WHATEVER THE INPUT: true; the input reads as it did. -/
def fnJudgeSpecSpec : ChangeSpec := { name := "fnJudgeSpec", fn := fun _ => fun
  | [d1, d2, d3, d4, d5, d6, d7] => { results := [.lit (.bool true)], args := [d1, d2, d3, d4, d5, d6, d7] }
  | _ => none }
def fnJudgeSpecRow : OpenClaim := { program := "qxb6601806a", sum := "0706debe646ba08ee0939811d456bf57a6ff40bc0c437aeb810d737f4735b31e", func := "example.com/cadarn/cadarn/zzlaws_internal_monitor_b1.FnJudgeSpec", spec := "fnJudgeSpec", apart := false }
def FnJudgeSpecSaid : Prop := fnJudgeSpecRow.holds Try.pinned (OpenSpec.ofChange fnJudgeSpecSpec)

/-- ITS FALSE NEIGHBOUR: 'it returns false'. Refute it at one input. -/
def fnJudgeSpecWrong : ChangeSpec := { name := "fnJudgeSpec", fn := fun _ => fun
  | [d1, d2, d3, d4, d5, d6, d7] => { results := [.lit (.bool false)], args := [d1, d2, d3, d4, d5, d6, d7] }
  | _ => none }
def FnJudgeSpecWrongFalsely : Prop := fnJudgeSpecRow.holds Try.pinned (OpenSpec.ofChange fnJudgeSpecWrong)

/-- 'zzlaws_internal_monitor_b1.FnJudgeSelf': WHATEVER THE INPUT: true; the input reads as it did. -/
def fnJudgeSelfSpec : ChangeSpec := { name := "fnJudgeSelf", fn := fun _ => fun
  | [d1, d2, d3, d4, d5] => { results := [.lit (.bool true)], args := [d1, d2, d3, d4, d5] }
  | _ => none }
def fnJudgeSelfRow : OpenClaim := { program := "qxb6601806a", sum := "0706debe646ba08ee0939811d456bf57a6ff40bc0c437aeb810d737f4735b31e", func := "example.com/cadarn/cadarn/zzlaws_internal_monitor_b1.FnJudgeSelf", spec := "fnJudgeSelf", apart := false }
def FnJudgeSelfSaid : Prop := fnJudgeSelfRow.holds Try.pinned (OpenSpec.ofChange fnJudgeSelfSpec)

/-- ITS FALSE NEIGHBOUR: 'it returns false'. Refute it at one input. -/
def fnJudgeSelfWrong : ChangeSpec := { name := "fnJudgeSelf", fn := fun _ => fun
  | [d1, d2, d3, d4, d5] => { results := [.lit (.bool false)], args := [d1, d2, d3, d4, d5] }
  | _ => none }
def FnJudgeSelfWrongFalsely : Prop := fnJudgeSelfRow.holds Try.pinned (OpenSpec.ofChange fnJudgeSelfWrong)

end Rows
end Go.Proofs.Qxb6601806a
