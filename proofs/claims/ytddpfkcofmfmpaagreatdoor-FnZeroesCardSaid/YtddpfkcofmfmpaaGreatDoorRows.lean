/-
  NARROWER THAN 'FOR EVERY INPUT', by the rows' own cells (each row's printed sentence says how): FnAgain: laid · FnBoth: laid · FnChurn: laid · FnCleared: laid · FnHash: laid · FnLast: laid · FnNoNumbers: laid · FnNothing: laid · FnOrder: laid · FnReturned: laid · FnScript: laid · FnWhileGrowing: laid · FnWhileShrinking: laid · FnWhole: laid · FnZeroes: laid.
  DERIVED. THE GIVEN ROWS OF THIS SEAT. 15 by the template 'for every input the law returns true; each argument reads behind the call as it read before'; 0 by the template 'total and deterministic' (their statements: YtddpfkcofmfmpaaGreatDoorTotals.lean).
  GIVEN WITH THE SEED: the statements are not yours to turn. If you find one false, say at which input.
  Laid BY PROGRAM, IN A SANDBOX (cutbox-rows.mjs): the forced cells as the released guide's own fill.sh prints them over the translation ac124c9e6da6cc6c… (all of the seat's roots in one cut). By AI agents, Wed Nov 11 2026. No macro, syntax, notation, axiom, sorry.
-/
import Derived.Test.YtddpfkcofmfmpaaGreatDoorChecked
import GoSem.Claim
import GoSem.ClaimJoined
import GoSem.ClaimMapViews
import Derived.JoinedTies
import Derived.KernelRfl
namespace Go.Proofs.YtddpfkcofmfmpaaGreatDoor
/- THE CELL 'sum', in the pinned program and in every row, IS THE sha256 OF THE DUMP (.gsa) THAT YtddpfkcofmfmpaaGreatDoorProg.lean LOADS. Nothing in Lean hashes anything: it is a label: what it is worth is what the hold of that sum in a sandbox is worth. -/
noncomputable def Tryz.pinned : Pinned := { name := "ytddpfkcofmfmpaagreatdoor", sum := "ac124c9e6da6cc6c01c21801abdc83adc2eda77168690496e9d1c108d609ee5b", checked := Tryz.checked }
namespace Rows
def none {H : Type} : Left H := { results := [], args := [] }

/- WHAT THE LISTED PACKAGE-LEVEL VARIABLES READ AS WHEN THE CALL BEGINS. Each datum BY PROGRAM (the guide's laid-datum.mjs) off the statement by which the dump's own 'gosem.cut.vars' lays the variable. In a bare row this is a premise. The card (YtddpfkcofmfmpaaGreatDoorCards.lean) ties it to the program's text. -/
def laid_math_bits_deBruijn64tab {H : Type} : DataW H := .agg [.lit (.int .u8 0), .lit (.int .u8 1), .lit (.int .u8 56), .lit (.int .u8 2), .lit (.int .u8 57), .lit (.int .u8 49), .lit (.int .u8 28), .lit (.int .u8 3), .lit (.int .u8 61), .lit (.int .u8 58), .lit (.int .u8 42), .lit (.int .u8 50), .lit (.int .u8 38), .lit (.int .u8 29), .lit (.int .u8 17), .lit (.int .u8 4), .lit (.int .u8 62), .lit (.int .u8 47), .lit (.int .u8 59), .lit (.int .u8 36), .lit (.int .u8 45), .lit (.int .u8 43), .lit (.int .u8 51), .lit (.int .u8 22), .lit (.int .u8 53), .lit (.int .u8 39), .lit (.int .u8 33), .lit (.int .u8 30), .lit (.int .u8 24), .lit (.int .u8 18), .lit (.int .u8 12), .lit (.int .u8 5), .lit (.int .u8 63), .lit (.int .u8 55), .lit (.int .u8 48), .lit (.int .u8 27), .lit (.int .u8 60), .lit (.int .u8 41), .lit (.int .u8 37), .lit (.int .u8 16), .lit (.int .u8 46), .lit (.int .u8 35), .lit (.int .u8 44), .lit (.int .u8 21), .lit (.int .u8 52), .lit (.int .u8 32), .lit (.int .u8 23), .lit (.int .u8 11), .lit (.int .u8 54), .lit (.int .u8 26), .lit (.int .u8 40), .lit (.int .u8 15), .lit (.int .u8 34), .lit (.int .u8 20), .lit (.int .u8 31), .lit (.int .u8 10), .lit (.int .u8 25), .lit (.int .u8 14), .lit (.int .u8 19), .lit (.int .u8 9), .lit (.int .u8 13), .lit (.int .u8 8), .lit (.int .u8 7), .lit (.int .u8 6)]

/-- 'laws.FnAgain': WHATEVER THE INPUT: true; the input reads as it did. -/
def fnAgainSpec : ChangeSpec := { name := "fnAgain", fn := fun _ => fun
  | [d1, d2] => { results := [.lit (.bool true)], args := [d1, d2] }
  | _ => none }
def fnAgainRow : OpenClaim := { program := "ytddpfkcofmfmpaagreatdoor", sum := "ac124c9e6da6cc6c01c21801abdc83adc2eda77168690496e9d1c108d609ee5b", func := "runtimemaps/laws.FnAgain", spec := "fnAgain", inPlace := ["math.Float64frombits", "math.Float64bits"], unfollowed := true, recurses := true, named := ["math/bits.deBruijn64tab"], apart := false, laid := [("math/bits.deBruijn64tab", laid_math_bits_deBruijn64tab)] }
def FnAgainSaid : Prop := fnAgainRow.holds Tryz.pinned (OpenSpec.ofChange fnAgainSpec)

/-- ITS FALSE NEIGHBOUR: 'it returns false'. Refute it at one input. -/
def fnAgainWrong : ChangeSpec := { name := "fnAgain", fn := fun _ => fun
  | [d1, d2] => { results := [.lit (.bool false)], args := [d1, d2] }
  | _ => none }
def FnAgainWrongFalsely : Prop := fnAgainRow.holds Tryz.pinned (OpenSpec.ofChange fnAgainWrong)

/-- 'laws.FnBoth': WHATEVER THE INPUT: true; the input reads as it did. -/
def fnBothSpec : ChangeSpec := { name := "fnBoth", fn := fun _ => fun
  | [d1, d2] => { results := [.lit (.bool true)], args := [d1, d2] }
  | _ => none }
def fnBothRow : OpenClaim := { program := "ytddpfkcofmfmpaagreatdoor", sum := "ac124c9e6da6cc6c01c21801abdc83adc2eda77168690496e9d1c108d609ee5b", func := "runtimemaps/laws.FnBoth", spec := "fnBoth", inPlace := ["math.Float64frombits", "math.Float64bits"], unfollowed := true, recurses := true, named := ["math/bits.deBruijn64tab"], apart := false, laid := [("math/bits.deBruijn64tab", laid_math_bits_deBruijn64tab)] }
def FnBothSaid : Prop := fnBothRow.holds Tryz.pinned (OpenSpec.ofChange fnBothSpec)

/-- ITS FALSE NEIGHBOUR: 'it returns false'. Refute it at one input. -/
def fnBothWrong : ChangeSpec := { name := "fnBoth", fn := fun _ => fun
  | [d1, d2] => { results := [.lit (.bool false)], args := [d1, d2] }
  | _ => none }
def FnBothWrongFalsely : Prop := fnBothRow.holds Tryz.pinned (OpenSpec.ofChange fnBothWrong)

/-- 'laws.FnChurn': WHATEVER THE INPUT: true; the input reads as it did. -/
def fnChurnSpec : ChangeSpec := { name := "fnChurn", fn := fun _ => fun
  | [d1, d2, d3] => { results := [.lit (.bool true)], args := [d1, d2, d3] }
  | _ => none }
def fnChurnRow : OpenClaim := { program := "ytddpfkcofmfmpaagreatdoor", sum := "ac124c9e6da6cc6c01c21801abdc83adc2eda77168690496e9d1c108d609ee5b", func := "runtimemaps/laws.FnChurn", spec := "fnChurn", inPlace := ["math.Float64frombits", "math.Float64bits"], unfollowed := true, recurses := true, named := ["math/bits.deBruijn64tab"], apart := false, laid := [("math/bits.deBruijn64tab", laid_math_bits_deBruijn64tab)] }
def FnChurnSaid : Prop := fnChurnRow.holds Tryz.pinned (OpenSpec.ofChange fnChurnSpec)

/-- ITS FALSE NEIGHBOUR: 'it returns false'. Refute it at one input. -/
def fnChurnWrong : ChangeSpec := { name := "fnChurn", fn := fun _ => fun
  | [d1, d2, d3] => { results := [.lit (.bool false)], args := [d1, d2, d3] }
  | _ => none }
def FnChurnWrongFalsely : Prop := fnChurnRow.holds Tryz.pinned (OpenSpec.ofChange fnChurnWrong)

/-- 'laws.FnCleared': WHATEVER THE INPUT: true; the input reads as it did. -/
def fnClearedSpec : ChangeSpec := { name := "fnCleared", fn := fun _ => fun
  | [d1, d2, d3, d4] => { results := [.lit (.bool true)], args := [d1, d2, d3, d4] }
  | _ => none }
def fnClearedRow : OpenClaim := { program := "ytddpfkcofmfmpaagreatdoor", sum := "ac124c9e6da6cc6c01c21801abdc83adc2eda77168690496e9d1c108d609ee5b", func := "runtimemaps/laws.FnCleared", spec := "fnCleared", inPlace := ["math.Float64frombits", "math.Float64bits"], unfollowed := true, recurses := true, named := ["math/bits.deBruijn64tab"], apart := false, laid := [("math/bits.deBruijn64tab", laid_math_bits_deBruijn64tab)] }
def FnClearedSaid : Prop := fnClearedRow.holds Tryz.pinned (OpenSpec.ofChange fnClearedSpec)

/-- ITS FALSE NEIGHBOUR: 'it returns false'. Refute it at one input. -/
def fnClearedWrong : ChangeSpec := { name := "fnCleared", fn := fun _ => fun
  | [d1, d2, d3, d4] => { results := [.lit (.bool false)], args := [d1, d2, d3, d4] }
  | _ => none }
def FnClearedWrongFalsely : Prop := fnClearedRow.holds Tryz.pinned (OpenSpec.ofChange fnClearedWrong)

/-- 'laws.FnHash': WHATEVER THE INPUT: true; the input reads as it did. -/
def fnHashSpec : ChangeSpec := { name := "fnHash", fn := fun _ => fun
  | [d1, d2, d3] => { results := [.lit (.bool true)], args := [d1, d2, d3] }
  | _ => none }
def fnHashRow : OpenClaim := { program := "ytddpfkcofmfmpaagreatdoor", sum := "ac124c9e6da6cc6c01c21801abdc83adc2eda77168690496e9d1c108d609ee5b", func := "runtimemaps/laws.FnHash", spec := "fnHash", inPlace := ["math.Float64frombits", "math.Float64bits"], unfollowed := true, recurses := true, named := ["math/bits.deBruijn64tab"], apart := false, laid := [("math/bits.deBruijn64tab", laid_math_bits_deBruijn64tab)] }
def FnHashSaid : Prop := fnHashRow.holds Tryz.pinned (OpenSpec.ofChange fnHashSpec)

/-- ITS FALSE NEIGHBOUR: 'it returns false'. Refute it at one input. -/
def fnHashWrong : ChangeSpec := { name := "fnHash", fn := fun _ => fun
  | [d1, d2, d3] => { results := [.lit (.bool false)], args := [d1, d2, d3] }
  | _ => none }
def FnHashWrongFalsely : Prop := fnHashRow.holds Tryz.pinned (OpenSpec.ofChange fnHashWrong)

/-- 'laws.FnLast': WHATEVER THE INPUT: true; the input reads as it did. -/
def fnLastSpec : ChangeSpec := { name := "fnLast", fn := fun _ => fun
  | [d1, d2, d3, d4] => { results := [.lit (.bool true)], args := [d1, d2, d3, d4] }
  | _ => none }
def fnLastRow : OpenClaim := { program := "ytddpfkcofmfmpaagreatdoor", sum := "ac124c9e6da6cc6c01c21801abdc83adc2eda77168690496e9d1c108d609ee5b", func := "runtimemaps/laws.FnLast", spec := "fnLast", inPlace := ["math.Float64frombits", "math.Float64bits"], unfollowed := true, recurses := true, named := ["math/bits.deBruijn64tab"], apart := false, laid := [("math/bits.deBruijn64tab", laid_math_bits_deBruijn64tab)] }
def FnLastSaid : Prop := fnLastRow.holds Tryz.pinned (OpenSpec.ofChange fnLastSpec)

/-- ITS FALSE NEIGHBOUR: 'it returns false'. Refute it at one input. -/
def fnLastWrong : ChangeSpec := { name := "fnLast", fn := fun _ => fun
  | [d1, d2, d3, d4] => { results := [.lit (.bool false)], args := [d1, d2, d3, d4] }
  | _ => none }
def FnLastWrongFalsely : Prop := fnLastRow.holds Tryz.pinned (OpenSpec.ofChange fnLastWrong)

/-- 'laws.FnNoNumbers': WHATEVER THE INPUT: true; the input reads as it did. -/
def fnNoNumbersSpec : ChangeSpec := { name := "fnNoNumbers", fn := fun _ => fun
  | [d1, d2, d3] => { results := [.lit (.bool true)], args := [d1, d2, d3] }
  | _ => none }
def fnNoNumbersRow : OpenClaim := { program := "ytddpfkcofmfmpaagreatdoor", sum := "ac124c9e6da6cc6c01c21801abdc83adc2eda77168690496e9d1c108d609ee5b", func := "runtimemaps/laws.FnNoNumbers", spec := "fnNoNumbers", inPlace := ["math.Float64frombits", "math.Float64bits"], unfollowed := true, recurses := true, named := ["math/bits.deBruijn64tab"], apart := false, laid := [("math/bits.deBruijn64tab", laid_math_bits_deBruijn64tab)] }
def FnNoNumbersSaid : Prop := fnNoNumbersRow.holds Tryz.pinned (OpenSpec.ofChange fnNoNumbersSpec)

/-- ITS FALSE NEIGHBOUR: 'it returns false'. Refute it at one input. -/
def fnNoNumbersWrong : ChangeSpec := { name := "fnNoNumbers", fn := fun _ => fun
  | [d1, d2, d3] => { results := [.lit (.bool false)], args := [d1, d2, d3] }
  | _ => none }
def FnNoNumbersWrongFalsely : Prop := fnNoNumbersRow.holds Tryz.pinned (OpenSpec.ofChange fnNoNumbersWrong)

/-- 'laws.FnNothing': WHATEVER THE INPUT: true; the input reads as it did. -/
def fnNothingSpec : ChangeSpec := { name := "fnNothing", fn := fun _ => fun
  | [d1, d2] => { results := [.lit (.bool true)], args := [d1, d2] }
  | _ => none }
def fnNothingRow : OpenClaim := { program := "ytddpfkcofmfmpaagreatdoor", sum := "ac124c9e6da6cc6c01c21801abdc83adc2eda77168690496e9d1c108d609ee5b", func := "runtimemaps/laws.FnNothing", spec := "fnNothing", inPlace := ["math.Float64frombits", "math.Float64bits"], unfollowed := true, recurses := true, named := ["math/bits.deBruijn64tab"], apart := false, laid := [("math/bits.deBruijn64tab", laid_math_bits_deBruijn64tab)] }
def FnNothingSaid : Prop := fnNothingRow.holds Tryz.pinned (OpenSpec.ofChange fnNothingSpec)

/-- ITS FALSE NEIGHBOUR: 'it returns false'. Refute it at one input. -/
def fnNothingWrong : ChangeSpec := { name := "fnNothing", fn := fun _ => fun
  | [d1, d2] => { results := [.lit (.bool false)], args := [d1, d2] }
  | _ => none }
def FnNothingWrongFalsely : Prop := fnNothingRow.holds Tryz.pinned (OpenSpec.ofChange fnNothingWrong)

/-- 'laws.FnOrder': WHATEVER THE INPUT: true; the input reads as it did. -/
def fnOrderSpec : ChangeSpec := { name := "fnOrder", fn := fun _ => fun
  | [d1, d2, d3] => { results := [.lit (.bool true)], args := [d1, d2, d3] }
  | _ => none }
def fnOrderRow : OpenClaim := { program := "ytddpfkcofmfmpaagreatdoor", sum := "ac124c9e6da6cc6c01c21801abdc83adc2eda77168690496e9d1c108d609ee5b", func := "runtimemaps/laws.FnOrder", spec := "fnOrder", inPlace := ["math.Float64frombits", "math.Float64bits"], unfollowed := true, recurses := true, named := ["math/bits.deBruijn64tab"], apart := false, laid := [("math/bits.deBruijn64tab", laid_math_bits_deBruijn64tab)] }
def FnOrderSaid : Prop := fnOrderRow.holds Tryz.pinned (OpenSpec.ofChange fnOrderSpec)

/-- ITS FALSE NEIGHBOUR: 'it returns false'. Refute it at one input. -/
def fnOrderWrong : ChangeSpec := { name := "fnOrder", fn := fun _ => fun
  | [d1, d2, d3] => { results := [.lit (.bool false)], args := [d1, d2, d3] }
  | _ => none }
def FnOrderWrongFalsely : Prop := fnOrderRow.holds Tryz.pinned (OpenSpec.ofChange fnOrderWrong)

/-- 'laws.FnReturned': WHATEVER THE INPUT: true; the input reads as it did. -/
def fnReturnedSpec : ChangeSpec := { name := "fnReturned", fn := fun _ => fun
  | [d1, d2, d3] => { results := [.lit (.bool true)], args := [d1, d2, d3] }
  | _ => none }
def fnReturnedRow : OpenClaim := { program := "ytddpfkcofmfmpaagreatdoor", sum := "ac124c9e6da6cc6c01c21801abdc83adc2eda77168690496e9d1c108d609ee5b", func := "runtimemaps/laws.FnReturned", spec := "fnReturned", inPlace := ["math.Float64frombits", "math.Float64bits"], unfollowed := true, recurses := true, named := ["math/bits.deBruijn64tab"], apart := false, laid := [("math/bits.deBruijn64tab", laid_math_bits_deBruijn64tab)] }
def FnReturnedSaid : Prop := fnReturnedRow.holds Tryz.pinned (OpenSpec.ofChange fnReturnedSpec)

/-- ITS FALSE NEIGHBOUR: 'it returns false'. Refute it at one input. -/
def fnReturnedWrong : ChangeSpec := { name := "fnReturned", fn := fun _ => fun
  | [d1, d2, d3] => { results := [.lit (.bool false)], args := [d1, d2, d3] }
  | _ => none }
def FnReturnedWrongFalsely : Prop := fnReturnedRow.holds Tryz.pinned (OpenSpec.ofChange fnReturnedWrong)

/-- 'laws.FnScript': WHATEVER THE INPUT: true; the input reads as it did. -/
def fnScriptSpec : ChangeSpec := { name := "fnScript", fn := fun _ => fun
  | [d1, d2] => { results := [.lit (.bool true)], args := [d1, d2] }
  | _ => none }
def fnScriptRow : OpenClaim := { program := "ytddpfkcofmfmpaagreatdoor", sum := "ac124c9e6da6cc6c01c21801abdc83adc2eda77168690496e9d1c108d609ee5b", func := "runtimemaps/laws.FnScript", spec := "fnScript", inPlace := ["math.Float64frombits", "math.Float64bits"], unfollowed := true, recurses := true, named := ["math/bits.deBruijn64tab"], apart := false, laid := [("math/bits.deBruijn64tab", laid_math_bits_deBruijn64tab)] }
def FnScriptSaid : Prop := fnScriptRow.holds Tryz.pinned (OpenSpec.ofChange fnScriptSpec)

/-- ITS FALSE NEIGHBOUR: 'it returns false'. Refute it at one input. -/
def fnScriptWrong : ChangeSpec := { name := "fnScript", fn := fun _ => fun
  | [d1, d2] => { results := [.lit (.bool false)], args := [d1, d2] }
  | _ => none }
def FnScriptWrongFalsely : Prop := fnScriptRow.holds Tryz.pinned (OpenSpec.ofChange fnScriptWrong)

/-- 'laws.FnWhileGrowing': WHATEVER THE INPUT: true; the input reads as it did. -/
def fnWhileGrowingSpec : ChangeSpec := { name := "fnWhileGrowing", fn := fun _ => fun
  | [d1, d2, d3, d4] => { results := [.lit (.bool true)], args := [d1, d2, d3, d4] }
  | _ => none }
def fnWhileGrowingRow : OpenClaim := { program := "ytddpfkcofmfmpaagreatdoor", sum := "ac124c9e6da6cc6c01c21801abdc83adc2eda77168690496e9d1c108d609ee5b", func := "runtimemaps/laws.FnWhileGrowing", spec := "fnWhileGrowing", inPlace := ["math.Float64frombits", "math.Float64bits"], unfollowed := true, recurses := true, named := ["math/bits.deBruijn64tab"], apart := false, laid := [("math/bits.deBruijn64tab", laid_math_bits_deBruijn64tab)] }
def FnWhileGrowingSaid : Prop := fnWhileGrowingRow.holds Tryz.pinned (OpenSpec.ofChange fnWhileGrowingSpec)

/-- ITS FALSE NEIGHBOUR: 'it returns false'. Refute it at one input. -/
def fnWhileGrowingWrong : ChangeSpec := { name := "fnWhileGrowing", fn := fun _ => fun
  | [d1, d2, d3, d4] => { results := [.lit (.bool false)], args := [d1, d2, d3, d4] }
  | _ => none }
def FnWhileGrowingWrongFalsely : Prop := fnWhileGrowingRow.holds Tryz.pinned (OpenSpec.ofChange fnWhileGrowingWrong)

/-- 'laws.FnWhileShrinking': WHATEVER THE INPUT: true; the input reads as it did. -/
def fnWhileShrinkingSpec : ChangeSpec := { name := "fnWhileShrinking", fn := fun _ => fun
  | [d1, d2, d3, d4] => { results := [.lit (.bool true)], args := [d1, d2, d3, d4] }
  | _ => none }
def fnWhileShrinkingRow : OpenClaim := { program := "ytddpfkcofmfmpaagreatdoor", sum := "ac124c9e6da6cc6c01c21801abdc83adc2eda77168690496e9d1c108d609ee5b", func := "runtimemaps/laws.FnWhileShrinking", spec := "fnWhileShrinking", inPlace := ["math.Float64frombits", "math.Float64bits"], unfollowed := true, recurses := true, named := ["math/bits.deBruijn64tab"], apart := false, laid := [("math/bits.deBruijn64tab", laid_math_bits_deBruijn64tab)] }
def FnWhileShrinkingSaid : Prop := fnWhileShrinkingRow.holds Tryz.pinned (OpenSpec.ofChange fnWhileShrinkingSpec)

/-- ITS FALSE NEIGHBOUR: 'it returns false'. Refute it at one input. -/
def fnWhileShrinkingWrong : ChangeSpec := { name := "fnWhileShrinking", fn := fun _ => fun
  | [d1, d2, d3, d4] => { results := [.lit (.bool false)], args := [d1, d2, d3, d4] }
  | _ => none }
def FnWhileShrinkingWrongFalsely : Prop := fnWhileShrinkingRow.holds Tryz.pinned (OpenSpec.ofChange fnWhileShrinkingWrong)

/-- 'laws.FnWhole': WHATEVER THE INPUT: true; the input reads as it did. -/
def fnWholeSpec : ChangeSpec := { name := "fnWhole", fn := fun _ => fun
  | [d1, d2] => { results := [.lit (.bool true)], args := [d1, d2] }
  | _ => none }
def fnWholeRow : OpenClaim := { program := "ytddpfkcofmfmpaagreatdoor", sum := "ac124c9e6da6cc6c01c21801abdc83adc2eda77168690496e9d1c108d609ee5b", func := "runtimemaps/laws.FnWhole", spec := "fnWhole", inPlace := ["math.Float64frombits", "math.Float64bits"], unfollowed := true, recurses := true, named := ["math/bits.deBruijn64tab"], apart := false, laid := [("math/bits.deBruijn64tab", laid_math_bits_deBruijn64tab)] }
def FnWholeSaid : Prop := fnWholeRow.holds Tryz.pinned (OpenSpec.ofChange fnWholeSpec)

/-- ITS FALSE NEIGHBOUR: 'it returns false'. Refute it at one input. -/
def fnWholeWrong : ChangeSpec := { name := "fnWhole", fn := fun _ => fun
  | [d1, d2] => { results := [.lit (.bool false)], args := [d1, d2] }
  | _ => none }
def FnWholeWrongFalsely : Prop := fnWholeRow.holds Tryz.pinned (OpenSpec.ofChange fnWholeWrong)

/-- 'laws.FnZeroes': WHATEVER THE INPUT: true; the input reads as it did. -/
def fnZeroesSpec : ChangeSpec := { name := "fnZeroes", fn := fun _ => fun
  | [d1, d2, d3] => { results := [.lit (.bool true)], args := [d1, d2, d3] }
  | _ => none }
def fnZeroesRow : OpenClaim := { program := "ytddpfkcofmfmpaagreatdoor", sum := "ac124c9e6da6cc6c01c21801abdc83adc2eda77168690496e9d1c108d609ee5b", func := "runtimemaps/laws.FnZeroes", spec := "fnZeroes", inPlace := ["math.Float64frombits", "math.Float64bits"], unfollowed := true, recurses := true, named := ["math/bits.deBruijn64tab"], apart := false, laid := [("math/bits.deBruijn64tab", laid_math_bits_deBruijn64tab)] }
def FnZeroesSaid : Prop := fnZeroesRow.holds Tryz.pinned (OpenSpec.ofChange fnZeroesSpec)

/-- ITS FALSE NEIGHBOUR: 'it returns false'. Refute it at one input. -/
def fnZeroesWrong : ChangeSpec := { name := "fnZeroes", fn := fun _ => fun
  | [d1, d2, d3] => { results := [.lit (.bool false)], args := [d1, d2, d3] }
  | _ => none }
def FnZeroesWrongFalsely : Prop := fnZeroesRow.holds Tryz.pinned (OpenSpec.ofChange fnZeroesWrong)

/- THE SECOND FORM. 'bulk': how many values and letters a reading holds, each counted each time it is reached (what is shared counts as often as it is met; a slice's spare places count too). A statement '..UptoSaid' is the law's where the arguments, and the package variables that the reading takes, are together of bulk at most 1048576: NARROWER than '..Said'. Prove '..Said' where nothing that the law and all that it calls make is longer than what came in: it says more and counts as full. Else prove '..UptoSaid'. A law counts once. -/
mutual
def uptoBulk {H : Type} : DataW H → Nat
  | .lit (.string bytes) => bytes.length + 1
  | .lit _ => 1
  | .nil => 1
  | .ptr d => uptoBulk d + 1
  | .slice elems spare => uptoBulkAll elems + uptoBulkAll spare + 1
  | .agg parts => uptoBulkAll parts + 1
  | .iface _ d => uptoBulk d + 1
  | .map entries => uptoBulkEntries entries + 1
  | .held _ => 1
def uptoBulkAll {H : Type} : List (DataW H) → Nat
  | [] => 0
  | d :: r => uptoBulk d + uptoBulkAll r
def uptoBulkEntries {H : Type} : List (Lit × DataW H) → Nat
  | [] => 0
  | x :: r => uptoBulkEntry x + uptoBulkEntries r
def uptoBulkEntry {H : Type} : Lit × DataW H → Nat
  | (.string bytes, d) => bytes.length + uptoBulk d + 1
  | (_, d) => uptoBulk d + 1
 end
def uptoSmall : (H : Type) → List (DataW H) → Bool := fun _ ds => decide (uptoBulkAll ds ≤ 1048576)
def OpenSpec.upto (s : _root_.Go.ChangeSpec) : _root_.Go.OpenSpec := { _root_.Go.OpenSpec.ofChange s with cond := some uptoSmall }

/-- 'laws.FnAgain', WHERE WHAT IT READS IS OF BULK AT MOST 1048576: true; the input reads as it did. -/
def fnAgainUptoRow : OpenClaim := { program := "ytddpfkcofmfmpaagreatdoor", sum := "ac124c9e6da6cc6c01c21801abdc83adc2eda77168690496e9d1c108d609ee5b", func := "runtimemaps/laws.FnAgain", spec := "fnAgain", inPlace := ["math.Float64frombits", "math.Float64bits"], unfollowed := true, recurses := true, named := ["math/bits.deBruijn64tab"], apart := false, laid := [("math/bits.deBruijn64tab", laid_math_bits_deBruijn64tab)], narrowed := true }
def FnAgainUptoSaid : Prop := fnAgainUptoRow.holds Tryz.pinned (OpenSpec.upto fnAgainSpec)

/-- 'laws.FnBoth', WHERE WHAT IT READS IS OF BULK AT MOST 1048576: true; the input reads as it did. -/
def fnBothUptoRow : OpenClaim := { program := "ytddpfkcofmfmpaagreatdoor", sum := "ac124c9e6da6cc6c01c21801abdc83adc2eda77168690496e9d1c108d609ee5b", func := "runtimemaps/laws.FnBoth", spec := "fnBoth", inPlace := ["math.Float64frombits", "math.Float64bits"], unfollowed := true, recurses := true, named := ["math/bits.deBruijn64tab"], apart := false, laid := [("math/bits.deBruijn64tab", laid_math_bits_deBruijn64tab)], narrowed := true }
def FnBothUptoSaid : Prop := fnBothUptoRow.holds Tryz.pinned (OpenSpec.upto fnBothSpec)

/-- 'laws.FnChurn', WHERE WHAT IT READS IS OF BULK AT MOST 1048576: true; the input reads as it did. -/
def fnChurnUptoRow : OpenClaim := { program := "ytddpfkcofmfmpaagreatdoor", sum := "ac124c9e6da6cc6c01c21801abdc83adc2eda77168690496e9d1c108d609ee5b", func := "runtimemaps/laws.FnChurn", spec := "fnChurn", inPlace := ["math.Float64frombits", "math.Float64bits"], unfollowed := true, recurses := true, named := ["math/bits.deBruijn64tab"], apart := false, laid := [("math/bits.deBruijn64tab", laid_math_bits_deBruijn64tab)], narrowed := true }
def FnChurnUptoSaid : Prop := fnChurnUptoRow.holds Tryz.pinned (OpenSpec.upto fnChurnSpec)

/-- 'laws.FnCleared', WHERE WHAT IT READS IS OF BULK AT MOST 1048576: true; the input reads as it did. -/
def fnClearedUptoRow : OpenClaim := { program := "ytddpfkcofmfmpaagreatdoor", sum := "ac124c9e6da6cc6c01c21801abdc83adc2eda77168690496e9d1c108d609ee5b", func := "runtimemaps/laws.FnCleared", spec := "fnCleared", inPlace := ["math.Float64frombits", "math.Float64bits"], unfollowed := true, recurses := true, named := ["math/bits.deBruijn64tab"], apart := false, laid := [("math/bits.deBruijn64tab", laid_math_bits_deBruijn64tab)], narrowed := true }
def FnClearedUptoSaid : Prop := fnClearedUptoRow.holds Tryz.pinned (OpenSpec.upto fnClearedSpec)

/-- 'laws.FnHash', WHERE WHAT IT READS IS OF BULK AT MOST 1048576: true; the input reads as it did. -/
def fnHashUptoRow : OpenClaim := { program := "ytddpfkcofmfmpaagreatdoor", sum := "ac124c9e6da6cc6c01c21801abdc83adc2eda77168690496e9d1c108d609ee5b", func := "runtimemaps/laws.FnHash", spec := "fnHash", inPlace := ["math.Float64frombits", "math.Float64bits"], unfollowed := true, recurses := true, named := ["math/bits.deBruijn64tab"], apart := false, laid := [("math/bits.deBruijn64tab", laid_math_bits_deBruijn64tab)], narrowed := true }
def FnHashUptoSaid : Prop := fnHashUptoRow.holds Tryz.pinned (OpenSpec.upto fnHashSpec)

/-- 'laws.FnLast', WHERE WHAT IT READS IS OF BULK AT MOST 1048576: true; the input reads as it did. -/
def fnLastUptoRow : OpenClaim := { program := "ytddpfkcofmfmpaagreatdoor", sum := "ac124c9e6da6cc6c01c21801abdc83adc2eda77168690496e9d1c108d609ee5b", func := "runtimemaps/laws.FnLast", spec := "fnLast", inPlace := ["math.Float64frombits", "math.Float64bits"], unfollowed := true, recurses := true, named := ["math/bits.deBruijn64tab"], apart := false, laid := [("math/bits.deBruijn64tab", laid_math_bits_deBruijn64tab)], narrowed := true }
def FnLastUptoSaid : Prop := fnLastUptoRow.holds Tryz.pinned (OpenSpec.upto fnLastSpec)

/-- 'laws.FnNoNumbers', WHERE WHAT IT READS IS OF BULK AT MOST 1048576: true; the input reads as it did. -/
def fnNoNumbersUptoRow : OpenClaim := { program := "ytddpfkcofmfmpaagreatdoor", sum := "ac124c9e6da6cc6c01c21801abdc83adc2eda77168690496e9d1c108d609ee5b", func := "runtimemaps/laws.FnNoNumbers", spec := "fnNoNumbers", inPlace := ["math.Float64frombits", "math.Float64bits"], unfollowed := true, recurses := true, named := ["math/bits.deBruijn64tab"], apart := false, laid := [("math/bits.deBruijn64tab", laid_math_bits_deBruijn64tab)], narrowed := true }
def FnNoNumbersUptoSaid : Prop := fnNoNumbersUptoRow.holds Tryz.pinned (OpenSpec.upto fnNoNumbersSpec)

/-- 'laws.FnNothing', WHERE WHAT IT READS IS OF BULK AT MOST 1048576: true; the input reads as it did. -/
def fnNothingUptoRow : OpenClaim := { program := "ytddpfkcofmfmpaagreatdoor", sum := "ac124c9e6da6cc6c01c21801abdc83adc2eda77168690496e9d1c108d609ee5b", func := "runtimemaps/laws.FnNothing", spec := "fnNothing", inPlace := ["math.Float64frombits", "math.Float64bits"], unfollowed := true, recurses := true, named := ["math/bits.deBruijn64tab"], apart := false, laid := [("math/bits.deBruijn64tab", laid_math_bits_deBruijn64tab)], narrowed := true }
def FnNothingUptoSaid : Prop := fnNothingUptoRow.holds Tryz.pinned (OpenSpec.upto fnNothingSpec)

/-- 'laws.FnOrder', WHERE WHAT IT READS IS OF BULK AT MOST 1048576: true; the input reads as it did. -/
def fnOrderUptoRow : OpenClaim := { program := "ytddpfkcofmfmpaagreatdoor", sum := "ac124c9e6da6cc6c01c21801abdc83adc2eda77168690496e9d1c108d609ee5b", func := "runtimemaps/laws.FnOrder", spec := "fnOrder", inPlace := ["math.Float64frombits", "math.Float64bits"], unfollowed := true, recurses := true, named := ["math/bits.deBruijn64tab"], apart := false, laid := [("math/bits.deBruijn64tab", laid_math_bits_deBruijn64tab)], narrowed := true }
def FnOrderUptoSaid : Prop := fnOrderUptoRow.holds Tryz.pinned (OpenSpec.upto fnOrderSpec)

/-- 'laws.FnReturned', WHERE WHAT IT READS IS OF BULK AT MOST 1048576: true; the input reads as it did. -/
def fnReturnedUptoRow : OpenClaim := { program := "ytddpfkcofmfmpaagreatdoor", sum := "ac124c9e6da6cc6c01c21801abdc83adc2eda77168690496e9d1c108d609ee5b", func := "runtimemaps/laws.FnReturned", spec := "fnReturned", inPlace := ["math.Float64frombits", "math.Float64bits"], unfollowed := true, recurses := true, named := ["math/bits.deBruijn64tab"], apart := false, laid := [("math/bits.deBruijn64tab", laid_math_bits_deBruijn64tab)], narrowed := true }
def FnReturnedUptoSaid : Prop := fnReturnedUptoRow.holds Tryz.pinned (OpenSpec.upto fnReturnedSpec)

/-- 'laws.FnScript', WHERE WHAT IT READS IS OF BULK AT MOST 1048576: true; the input reads as it did. -/
def fnScriptUptoRow : OpenClaim := { program := "ytddpfkcofmfmpaagreatdoor", sum := "ac124c9e6da6cc6c01c21801abdc83adc2eda77168690496e9d1c108d609ee5b", func := "runtimemaps/laws.FnScript", spec := "fnScript", inPlace := ["math.Float64frombits", "math.Float64bits"], unfollowed := true, recurses := true, named := ["math/bits.deBruijn64tab"], apart := false, laid := [("math/bits.deBruijn64tab", laid_math_bits_deBruijn64tab)], narrowed := true }
def FnScriptUptoSaid : Prop := fnScriptUptoRow.holds Tryz.pinned (OpenSpec.upto fnScriptSpec)

/-- 'laws.FnWhileGrowing', WHERE WHAT IT READS IS OF BULK AT MOST 1048576: true; the input reads as it did. -/
def fnWhileGrowingUptoRow : OpenClaim := { program := "ytddpfkcofmfmpaagreatdoor", sum := "ac124c9e6da6cc6c01c21801abdc83adc2eda77168690496e9d1c108d609ee5b", func := "runtimemaps/laws.FnWhileGrowing", spec := "fnWhileGrowing", inPlace := ["math.Float64frombits", "math.Float64bits"], unfollowed := true, recurses := true, named := ["math/bits.deBruijn64tab"], apart := false, laid := [("math/bits.deBruijn64tab", laid_math_bits_deBruijn64tab)], narrowed := true }
def FnWhileGrowingUptoSaid : Prop := fnWhileGrowingUptoRow.holds Tryz.pinned (OpenSpec.upto fnWhileGrowingSpec)

/-- 'laws.FnWhileShrinking', WHERE WHAT IT READS IS OF BULK AT MOST 1048576: true; the input reads as it did. -/
def fnWhileShrinkingUptoRow : OpenClaim := { program := "ytddpfkcofmfmpaagreatdoor", sum := "ac124c9e6da6cc6c01c21801abdc83adc2eda77168690496e9d1c108d609ee5b", func := "runtimemaps/laws.FnWhileShrinking", spec := "fnWhileShrinking", inPlace := ["math.Float64frombits", "math.Float64bits"], unfollowed := true, recurses := true, named := ["math/bits.deBruijn64tab"], apart := false, laid := [("math/bits.deBruijn64tab", laid_math_bits_deBruijn64tab)], narrowed := true }
def FnWhileShrinkingUptoSaid : Prop := fnWhileShrinkingUptoRow.holds Tryz.pinned (OpenSpec.upto fnWhileShrinkingSpec)

/-- 'laws.FnWhole', WHERE WHAT IT READS IS OF BULK AT MOST 1048576: true; the input reads as it did. -/
def fnWholeUptoRow : OpenClaim := { program := "ytddpfkcofmfmpaagreatdoor", sum := "ac124c9e6da6cc6c01c21801abdc83adc2eda77168690496e9d1c108d609ee5b", func := "runtimemaps/laws.FnWhole", spec := "fnWhole", inPlace := ["math.Float64frombits", "math.Float64bits"], unfollowed := true, recurses := true, named := ["math/bits.deBruijn64tab"], apart := false, laid := [("math/bits.deBruijn64tab", laid_math_bits_deBruijn64tab)], narrowed := true }
def FnWholeUptoSaid : Prop := fnWholeUptoRow.holds Tryz.pinned (OpenSpec.upto fnWholeSpec)

/-- 'laws.FnZeroes', WHERE WHAT IT READS IS OF BULK AT MOST 1048576: true; the input reads as it did. -/
def fnZeroesUptoRow : OpenClaim := { program := "ytddpfkcofmfmpaagreatdoor", sum := "ac124c9e6da6cc6c01c21801abdc83adc2eda77168690496e9d1c108d609ee5b", func := "runtimemaps/laws.FnZeroes", spec := "fnZeroes", inPlace := ["math.Float64frombits", "math.Float64bits"], unfollowed := true, recurses := true, named := ["math/bits.deBruijn64tab"], apart := false, laid := [("math/bits.deBruijn64tab", laid_math_bits_deBruijn64tab)], narrowed := true }
def FnZeroesUptoSaid : Prop := fnZeroesUptoRow.holds Tryz.pinned (OpenSpec.upto fnZeroesSpec)

end Rows
end Go.Proofs.YtddpfkcofmfmpaaGreatDoor
