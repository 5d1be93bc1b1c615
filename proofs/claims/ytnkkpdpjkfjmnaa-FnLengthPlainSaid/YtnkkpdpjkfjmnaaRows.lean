/-
  No cell of these rows narrows 'for every input' (looked for: loops, veiled, ifaces, maps, wideKeys, modest, calm, conditions, laid).
  DERIVED. THE GIVEN ROWS OF THIS SEAT. 14 by the template 'for every input the law returns true; each argument reads behind the call as it read before'; 0 by the template 'total and deterministic' (their statements: YtnkkpdpjkfjmnaaTotals.lean).
  GIVEN WITH THE SEED: the statements are not yours to turn. If you find one false, say at which input.
  Laid BY PROGRAM, IN A SANDBOX (cutbox-rows.mjs): the forced cells as the released guide's own fill.sh prints them over the translation b6894bca8a94f1b4… (all of the seat's roots in one cut). By AI agents, Wed Nov 11 2026. No macro, syntax, notation, axiom, sorry.
-/
import Derived.Test.YtnkkpdpjkfjmnaaChecked
import GoSem.Claim
import GoSem.ClaimJoined
import GoSem.ClaimMapViews
import Derived.JoinedTies
import Derived.KernelRfl
namespace Go.Proofs.Ytnkkpdpjkfjmnaa
/- THE CELL 'sum', in the pinned program and in every row, IS THE sha256 OF THE DUMP (.gsa) THAT YtnkkpdpjkfjmnaaProg.lean LOADS. Nothing in Lean hashes anything: it is a label: what it is worth is what the hold of that sum in a sandbox is worth. -/
noncomputable def Try.pinned : Pinned := { name := "ytnkkpdpjkfjmnaa", sum := "b6894bca8a94f1b4db9c3cd0164f2d26c07f92751b98c96eec0e040419cffdf9", checked := Try.checked }
namespace Rows
def none {H : Type} : Left H := { results := [], args := [] }

/-- 'laws.FnVarint': WHATEVER THE INPUT: true; the input reads as it did. -/
def fnVarintSpec : ChangeSpec := { name := "fnVarint", fn := fun _ => fun
  | [d1, d2] => { results := [.lit (.bool true)], args := [d1, d2] }
  | _ => none }
def fnVarintRow : OpenClaim := { program := "ytnkkpdpjkfjmnaa", sum := "b6894bca8a94f1b4db9c3cd0164f2d26c07f92751b98c96eec0e040419cffdf9", func := "bobbinlace/laws.FnVarint", spec := "fnVarint", apart := false }
def FnVarintSaid : Prop := fnVarintRow.holds Try.pinned (OpenSpec.ofChange fnVarintSpec)

/-- ITS FALSE NEIGHBOUR: 'it returns false'. Refute it at one input. -/
def fnVarintWrong : ChangeSpec := { name := "fnVarint", fn := fun _ => fun
  | [d1, d2] => { results := [.lit (.bool false)], args := [d1, d2] }
  | _ => none }
def FnVarintWrongFalsely : Prop := fnVarintRow.holds Try.pinned (OpenSpec.ofChange fnVarintWrong)

/-- 'laws.FnLengthAny': WHATEVER THE INPUT: true; the input reads as it did. -/
def fnLengthAnySpec : ChangeSpec := { name := "fnLengthAny", fn := fun _ => fun
  | [d] => { results := [.lit (.bool true)], args := [d] }
  | _ => none }
def fnLengthAnyRow : OpenClaim := { program := "ytnkkpdpjkfjmnaa", sum := "b6894bca8a94f1b4db9c3cd0164f2d26c07f92751b98c96eec0e040419cffdf9", func := "bobbinlace/laws.FnLengthAny", spec := "fnLengthAny", apart := false }
def FnLengthAnySaid : Prop := fnLengthAnyRow.holds Try.pinned (OpenSpec.ofChange fnLengthAnySpec)

/-- ITS FALSE NEIGHBOUR: 'it returns false'. Refute it at one input. -/
def fnLengthAnyWrong : ChangeSpec := { name := "fnLengthAny", fn := fun _ => fun
  | [d] => { results := [.lit (.bool false)], args := [d] }
  | _ => none }
def FnLengthAnyWrongFalsely : Prop := fnLengthAnyRow.holds Try.pinned (OpenSpec.ofChange fnLengthAnyWrong)

/-- 'laws.FnBitAt': WHATEVER THE INPUT: true; the input reads as it did. -/
def fnBitAtSpec : ChangeSpec := { name := "fnBitAt", fn := fun _ => fun
  | [d1, d2] => { results := [.lit (.bool true)], args := [d1, d2] }
  | _ => none }
def fnBitAtRow : OpenClaim := { program := "ytnkkpdpjkfjmnaa", sum := "b6894bca8a94f1b4db9c3cd0164f2d26c07f92751b98c96eec0e040419cffdf9", func := "bobbinlace/laws.FnBitAt", spec := "fnBitAt", unfollowed := true, recurses := true, apart := false }
def FnBitAtSaid : Prop := fnBitAtRow.holds Try.pinned (OpenSpec.ofChange fnBitAtSpec)

/-- ITS FALSE NEIGHBOUR: 'it returns false'. Refute it at one input. -/
def fnBitAtWrong : ChangeSpec := { name := "fnBitAt", fn := fun _ => fun
  | [d1, d2] => { results := [.lit (.bool false)], args := [d1, d2] }
  | _ => none }
def FnBitAtWrongFalsely : Prop := fnBitAtRow.holds Try.pinned (OpenSpec.ofChange fnBitAtWrong)

/-- 'laws.FnEnd': WHATEVER THE INPUT: true; the input reads as it did. -/
def fnEndSpec : ChangeSpec := { name := "fnEnd", fn := fun _ => fun
  | [d] => { results := [.lit (.bool true)], args := [d] }
  | _ => none }
def fnEndRow : OpenClaim := { program := "ytnkkpdpjkfjmnaa", sum := "b6894bca8a94f1b4db9c3cd0164f2d26c07f92751b98c96eec0e040419cffdf9", func := "bobbinlace/laws.FnEnd", spec := "fnEnd", unfollowed := true, recurses := true, apart := false }
def FnEndSaid : Prop := fnEndRow.holds Try.pinned (OpenSpec.ofChange fnEndSpec)

/-- ITS FALSE NEIGHBOUR: 'it returns false'. Refute it at one input. -/
def fnEndWrong : ChangeSpec := { name := "fnEnd", fn := fun _ => fun
  | [d] => { results := [.lit (.bool false)], args := [d] }
  | _ => none }
def FnEndWrongFalsely : Prop := fnEndRow.holds Try.pinned (OpenSpec.ofChange fnEndWrong)

/-- 'laws.FnMore': WHATEVER THE INPUT: true; the input reads as it did. -/
def fnMoreSpec : ChangeSpec := { name := "fnMore", fn := fun _ => fun
  | [d1, d2] => { results := [.lit (.bool true)], args := [d1, d2] }
  | _ => none }
def fnMoreRow : OpenClaim := { program := "ytnkkpdpjkfjmnaa", sum := "b6894bca8a94f1b4db9c3cd0164f2d26c07f92751b98c96eec0e040419cffdf9", func := "bobbinlace/laws.FnMore", spec := "fnMore", unfollowed := true, recurses := true, apart := false }
def FnMoreSaid : Prop := fnMoreRow.holds Try.pinned (OpenSpec.ofChange fnMoreSpec)

/-- ITS FALSE NEIGHBOUR: 'it returns false'. Refute it at one input. -/
def fnMoreWrong : ChangeSpec := { name := "fnMore", fn := fun _ => fun
  | [d1, d2] => { results := [.lit (.bool false)], args := [d1, d2] }
  | _ => none }
def FnMoreWrongFalsely : Prop := fnMoreRow.holds Try.pinned (OpenSpec.ofChange fnMoreWrong)

/-- 'laws.FnPointers': WHATEVER THE INPUT: true; the input reads as it did. -/
def fnPointersSpec : ChangeSpec := { name := "fnPointers", fn := fun _ => fun
  | [d] => { results := [.lit (.bool true)], args := [d] }
  | _ => none }
def fnPointersRow : OpenClaim := { program := "ytnkkpdpjkfjmnaa", sum := "b6894bca8a94f1b4db9c3cd0164f2d26c07f92751b98c96eec0e040419cffdf9", func := "bobbinlace/laws.FnPointers", spec := "fnPointers", unfollowed := true, recurses := true, apart := false }
def FnPointersSaid : Prop := fnPointersRow.holds Try.pinned (OpenSpec.ofChange fnPointersSpec)

/-- ITS FALSE NEIGHBOUR: 'it returns false'. Refute it at one input. -/
def fnPointersWrong : ChangeSpec := { name := "fnPointers", fn := fun _ => fun
  | [d] => { results := [.lit (.bool false)], args := [d] }
  | _ => none }
def FnPointersWrongFalsely : Prop := fnPointersRow.holds Try.pinned (OpenSpec.ofChange fnPointersWrong)

/-- 'laws.FnProgram': WHATEVER THE INPUT: true; the input reads as it did. -/
def fnProgramSpec : ChangeSpec := { name := "fnProgram", fn := fun _ => fun
  | [d] => { results := [.lit (.bool true)], args := [d] }
  | _ => none }
def fnProgramRow : OpenClaim := { program := "ytnkkpdpjkfjmnaa", sum := "b6894bca8a94f1b4db9c3cd0164f2d26c07f92751b98c96eec0e040419cffdf9", func := "bobbinlace/laws.FnProgram", spec := "fnProgram", unfollowed := true, recurses := true, apart := false }
def FnProgramSaid : Prop := fnProgramRow.holds Try.pinned (OpenSpec.ofChange fnProgramSpec)

/-- ITS FALSE NEIGHBOUR: 'it returns false'. Refute it at one input. -/
def fnProgramWrong : ChangeSpec := { name := "fnProgram", fn := fun _ => fun
  | [d] => { results := [.lit (.bool false)], args := [d] }
  | _ => none }
def FnProgramWrongFalsely : Prop := fnProgramRow.holds Try.pinned (OpenSpec.ofChange fnProgramWrong)

/-- 'laws.FnRepeated': WHATEVER THE INPUT: true; the input reads as it did. -/
def fnRepeatedSpec : ChangeSpec := { name := "fnRepeated", fn := fun _ => fun
  | [d1, d2, d3] => { results := [.lit (.bool true)], args := [d1, d2, d3] }
  | _ => none }
def fnRepeatedRow : OpenClaim := { program := "ytnkkpdpjkfjmnaa", sum := "b6894bca8a94f1b4db9c3cd0164f2d26c07f92751b98c96eec0e040419cffdf9", func := "bobbinlace/laws.FnRepeated", spec := "fnRepeated", unfollowed := true, recurses := true, apart := false }
def FnRepeatedSaid : Prop := fnRepeatedRow.holds Try.pinned (OpenSpec.ofChange fnRepeatedSpec)

/-- ITS FALSE NEIGHBOUR: 'it returns false'. Refute it at one input. -/
def fnRepeatedWrong : ChangeSpec := { name := "fnRepeated", fn := fun _ => fun
  | [d1, d2, d3] => { results := [.lit (.bool false)], args := [d1, d2, d3] }
  | _ => none }
def FnRepeatedWrongFalsely : Prop := fnRepeatedRow.holds Try.pinned (OpenSpec.ofChange fnRepeatedWrong)

/-- 'laws.FnRepeatedNever': WHATEVER THE INPUT: true; the input reads as it did. -/
def fnRepeatedNeverSpec : ChangeSpec := { name := "fnRepeatedNever", fn := fun _ => fun
  | [d1, d2] => { results := [.lit (.bool true)], args := [d1, d2] }
  | _ => none }
def fnRepeatedNeverRow : OpenClaim := { program := "ytnkkpdpjkfjmnaa", sum := "b6894bca8a94f1b4db9c3cd0164f2d26c07f92751b98c96eec0e040419cffdf9", func := "bobbinlace/laws.FnRepeatedNever", spec := "fnRepeatedNever", unfollowed := true, recurses := true, apart := false }
def FnRepeatedNeverSaid : Prop := fnRepeatedNeverRow.holds Try.pinned (OpenSpec.ofChange fnRepeatedNeverSpec)

/-- ITS FALSE NEIGHBOUR: 'it returns false'. Refute it at one input. -/
def fnRepeatedNeverWrong : ChangeSpec := { name := "fnRepeatedNever", fn := fun _ => fun
  | [d1, d2] => { results := [.lit (.bool false)], args := [d1, d2] }
  | _ => none }
def FnRepeatedNeverWrongFalsely : Prop := fnRepeatedNeverRow.holds Try.pinned (OpenSpec.ofChange fnRepeatedNeverWrong)

/-- 'laws.FnRepeatedTwice': WHATEVER THE INPUT: true; the input reads as it did. -/
def fnRepeatedTwiceSpec : ChangeSpec := { name := "fnRepeatedTwice", fn := fun _ => fun
  | [d1, d2, d3] => { results := [.lit (.bool true)], args := [d1, d2, d3] }
  | _ => none }
def fnRepeatedTwiceRow : OpenClaim := { program := "ytnkkpdpjkfjmnaa", sum := "b6894bca8a94f1b4db9c3cd0164f2d26c07f92751b98c96eec0e040419cffdf9", func := "bobbinlace/laws.FnRepeatedTwice", spec := "fnRepeatedTwice", unfollowed := true, recurses := true, apart := false }
def FnRepeatedTwiceSaid : Prop := fnRepeatedTwiceRow.holds Try.pinned (OpenSpec.ofChange fnRepeatedTwiceSpec)

/-- ITS FALSE NEIGHBOUR: 'it returns false'. Refute it at one input. -/
def fnRepeatedTwiceWrong : ChangeSpec := { name := "fnRepeatedTwice", fn := fun _ => fun
  | [d1, d2, d3] => { results := [.lit (.bool false)], args := [d1, d2, d3] }
  | _ => none }
def FnRepeatedTwiceWrongFalsely : Prop := fnRepeatedTwiceRow.holds Try.pinned (OpenSpec.ofChange fnRepeatedTwiceWrong)

/-- 'laws.FnZeros': WHATEVER THE INPUT: true; the input reads as it did. -/
def fnZerosSpec : ChangeSpec := { name := "fnZeros", fn := fun _ => fun
  | [d1, d2] => { results := [.lit (.bool true)], args := [d1, d2] }
  | _ => none }
def fnZerosRow : OpenClaim := { program := "ytnkkpdpjkfjmnaa", sum := "b6894bca8a94f1b4db9c3cd0164f2d26c07f92751b98c96eec0e040419cffdf9", func := "bobbinlace/laws.FnZeros", spec := "fnZeros", unfollowed := true, recurses := true, apart := false }
def FnZerosSaid : Prop := fnZerosRow.holds Try.pinned (OpenSpec.ofChange fnZerosSpec)

/-- ITS FALSE NEIGHBOUR: 'it returns false'. Refute it at one input. -/
def fnZerosWrong : ChangeSpec := { name := "fnZeros", fn := fun _ => fun
  | [d1, d2] => { results := [.lit (.bool false)], args := [d1, d2] }
  | _ => none }
def FnZerosWrongFalsely : Prop := fnZerosRow.holds Try.pinned (OpenSpec.ofChange fnZerosWrong)

/-- 'laws.FnZerosTwice': WHATEVER THE INPUT: true; the input reads as it did. -/
def fnZerosTwiceSpec : ChangeSpec := { name := "fnZerosTwice", fn := fun _ => fun
  | [d1, d2, d3] => { results := [.lit (.bool true)], args := [d1, d2, d3] }
  | _ => none }
def fnZerosTwiceRow : OpenClaim := { program := "ytnkkpdpjkfjmnaa", sum := "b6894bca8a94f1b4db9c3cd0164f2d26c07f92751b98c96eec0e040419cffdf9", func := "bobbinlace/laws.FnZerosTwice", spec := "fnZerosTwice", unfollowed := true, recurses := true, apart := false }
def FnZerosTwiceSaid : Prop := fnZerosTwiceRow.holds Try.pinned (OpenSpec.ofChange fnZerosTwiceSpec)

/-- ITS FALSE NEIGHBOUR: 'it returns false'. Refute it at one input. -/
def fnZerosTwiceWrong : ChangeSpec := { name := "fnZerosTwice", fn := fun _ => fun
  | [d1, d2, d3] => { results := [.lit (.bool false)], args := [d1, d2, d3] }
  | _ => none }
def FnZerosTwiceWrongFalsely : Prop := fnZerosTwiceRow.holds Try.pinned (OpenSpec.ofChange fnZerosTwiceWrong)

/-- 'laws.FnLength': WHATEVER THE INPUT: true; the input reads as it did. -/
def fnLengthSpec : ChangeSpec := { name := "fnLength", fn := fun _ => fun
  | [d] => { results := [.lit (.bool true)], args := [d] }
  | _ => none }
def fnLengthRow : OpenClaim := { program := "ytnkkpdpjkfjmnaa", sum := "b6894bca8a94f1b4db9c3cd0164f2d26c07f92751b98c96eec0e040419cffdf9", func := "bobbinlace/laws.FnLength", spec := "fnLength", unfollowed := true, recurses := true, apart := false }
def FnLengthSaid : Prop := fnLengthRow.holds Try.pinned (OpenSpec.ofChange fnLengthSpec)

/-- ITS FALSE NEIGHBOUR: 'it returns false'. Refute it at one input. -/
def fnLengthWrong : ChangeSpec := { name := "fnLength", fn := fun _ => fun
  | [d] => { results := [.lit (.bool false)], args := [d] }
  | _ => none }
def FnLengthWrongFalsely : Prop := fnLengthRow.holds Try.pinned (OpenSpec.ofChange fnLengthWrong)

/-- 'laws.FnLengthPlain': WHATEVER THE INPUT: true; the input reads as it did. -/
def fnLengthPlainSpec : ChangeSpec := { name := "fnLengthPlain", fn := fun _ => fun
  | [d] => { results := [.lit (.bool true)], args := [d] }
  | _ => none }
def fnLengthPlainRow : OpenClaim := { program := "ytnkkpdpjkfjmnaa", sum := "b6894bca8a94f1b4db9c3cd0164f2d26c07f92751b98c96eec0e040419cffdf9", func := "bobbinlace/laws.FnLengthPlain", spec := "fnLengthPlain", unfollowed := true, recurses := true, apart := false }
def FnLengthPlainSaid : Prop := fnLengthPlainRow.holds Try.pinned (OpenSpec.ofChange fnLengthPlainSpec)

/-- ITS FALSE NEIGHBOUR: 'it returns false'. Refute it at one input. -/
def fnLengthPlainWrong : ChangeSpec := { name := "fnLengthPlain", fn := fun _ => fun
  | [d] => { results := [.lit (.bool false)], args := [d] }
  | _ => none }
def FnLengthPlainWrongFalsely : Prop := fnLengthPlainRow.holds Try.pinned (OpenSpec.ofChange fnLengthPlainWrong)

/- THE SECOND FORM. 'bulk': how many values and letters a reading holds, each counted each time it is reached (what is shared counts as often as it is met; a slice's spare places count too). A statement '..UptoSaid' is the law's where the arguments, and the package variables that the reading takes, are together of bulk at most 1048576: NARROWER than '..Said'. Prove '..Said' where nothing that the law and all that it calls make is longer than what came in: it says more and counts as full. Else prove '..UptoSaid'. A law counts once. -/
mutual
def uptoBulk {H : Type} : DataW H → Nat
  | .lit (.string bytes) => bytes.length + 1
  | .lit _ => 1
  | .nil => 1
  | .ptr d => uptoBulk d + 1
  | .slice elems spare => uptoBulkAll elems + uptoBulkAll spare + 1
  | .agg parts => uptoBulkAll parts + 1
  | .iface _ d => uptoBulk d + 1
  | .map entries => uptoBulkEntries entries + 1
  | .held _ => 1
def uptoBulkAll {H : Type} : List (DataW H) → Nat
  | [] => 0
  | d :: r => uptoBulk d + uptoBulkAll r
def uptoBulkEntries {H : Type} : List (Lit × DataW H) → Nat
  | [] => 0
  | x :: r => uptoBulkEntry x + uptoBulkEntries r
def uptoBulkEntry {H : Type} : Lit × DataW H → Nat
  | (.string bytes, d) => bytes.length + uptoBulk d + 1
  | (_, d) => uptoBulk d + 1
 end
def uptoSmall : (H : Type) → List (DataW H) → Bool := fun _ ds => decide (uptoBulkAll ds ≤ 1048576)
def OpenSpec.upto (s : _root_.Go.ChangeSpec) : _root_.Go.OpenSpec := { _root_.Go.OpenSpec.ofChange s with cond := some uptoSmall }

/-- 'laws.FnVarint', WHERE WHAT IT READS IS OF BULK AT MOST 1048576: true; the input reads as it did. -/
def fnVarintUptoRow : OpenClaim := { program := "ytnkkpdpjkfjmnaa", sum := "b6894bca8a94f1b4db9c3cd0164f2d26c07f92751b98c96eec0e040419cffdf9", func := "bobbinlace/laws.FnVarint", spec := "fnVarint", apart := false, narrowed := true }
def FnVarintUptoSaid : Prop := fnVarintUptoRow.holds Try.pinned (OpenSpec.upto fnVarintSpec)

/-- 'laws.FnLengthAny', WHERE WHAT IT READS IS OF BULK AT MOST 1048576: true; the input reads as it did. -/
def fnLengthAnyUptoRow : OpenClaim := { program := "ytnkkpdpjkfjmnaa", sum := "b6894bca8a94f1b4db9c3cd0164f2d26c07f92751b98c96eec0e040419cffdf9", func := "bobbinlace/laws.FnLengthAny", spec := "fnLengthAny", apart := false, narrowed := true }
def FnLengthAnyUptoSaid : Prop := fnLengthAnyUptoRow.holds Try.pinned (OpenSpec.upto fnLengthAnySpec)

/-- 'laws.FnBitAt', WHERE WHAT IT READS IS OF BULK AT MOST 1048576: true; the input reads as it did. -/
def fnBitAtUptoRow : OpenClaim := { program := "ytnkkpdpjkfjmnaa", sum := "b6894bca8a94f1b4db9c3cd0164f2d26c07f92751b98c96eec0e040419cffdf9", func := "bobbinlace/laws.FnBitAt", spec := "fnBitAt", unfollowed := true, recurses := true, apart := false, narrowed := true }
def FnBitAtUptoSaid : Prop := fnBitAtUptoRow.holds Try.pinned (OpenSpec.upto fnBitAtSpec)

/-- 'laws.FnEnd', WHERE WHAT IT READS IS OF BULK AT MOST 1048576: true; the input reads as it did. -/
def fnEndUptoRow : OpenClaim := { program := "ytnkkpdpjkfjmnaa", sum := "b6894bca8a94f1b4db9c3cd0164f2d26c07f92751b98c96eec0e040419cffdf9", func := "bobbinlace/laws.FnEnd", spec := "fnEnd", unfollowed := true, recurses := true, apart := false, narrowed := true }
def FnEndUptoSaid : Prop := fnEndUptoRow.holds Try.pinned (OpenSpec.upto fnEndSpec)

/-- 'laws.FnMore', WHERE WHAT IT READS IS OF BULK AT MOST 1048576: true; the input reads as it did. -/
def fnMoreUptoRow : OpenClaim := { program := "ytnkkpdpjkfjmnaa", sum := "b6894bca8a94f1b4db9c3cd0164f2d26c07f92751b98c96eec0e040419cffdf9", func := "bobbinlace/laws.FnMore", spec := "fnMore", unfollowed := true, recurses := true, apart := false, narrowed := true }
def FnMoreUptoSaid : Prop := fnMoreUptoRow.holds Try.pinned (OpenSpec.upto fnMoreSpec)

/-- 'laws.FnPointers', WHERE WHAT IT READS IS OF BULK AT MOST 1048576: true; the input reads as it did. -/
def fnPointersUptoRow : OpenClaim := { program := "ytnkkpdpjkfjmnaa", sum := "b6894bca8a94f1b4db9c3cd0164f2d26c07f92751b98c96eec0e040419cffdf9", func := "bobbinlace/laws.FnPointers", spec := "fnPointers", unfollowed := true, recurses := true, apart := false, narrowed := true }
def FnPointersUptoSaid : Prop := fnPointersUptoRow.holds Try.pinned (OpenSpec.upto fnPointersSpec)

/-- 'laws.FnProgram', WHERE WHAT IT READS IS OF BULK AT MOST 1048576: true; the input reads as it did. -/
def fnProgramUptoRow : OpenClaim := { program := "ytnkkpdpjkfjmnaa", sum := "b6894bca8a94f1b4db9c3cd0164f2d26c07f92751b98c96eec0e040419cffdf9", func := "bobbinlace/laws.FnProgram", spec := "fnProgram", unfollowed := true, recurses := true, apart := false, narrowed := true }
def FnProgramUptoSaid : Prop := fnProgramUptoRow.holds Try.pinned (OpenSpec.upto fnProgramSpec)

/-- 'laws.FnRepeated', WHERE WHAT IT READS IS OF BULK AT MOST 1048576: true; the input reads as it did. -/
def fnRepeatedUptoRow : OpenClaim := { program := "ytnkkpdpjkfjmnaa", sum := "b6894bca8a94f1b4db9c3cd0164f2d26c07f92751b98c96eec0e040419cffdf9", func := "bobbinlace/laws.FnRepeated", spec := "fnRepeated", unfollowed := true, recurses := true, apart := false, narrowed := true }
def FnRepeatedUptoSaid : Prop := fnRepeatedUptoRow.holds Try.pinned (OpenSpec.upto fnRepeatedSpec)

/-- 'laws.FnRepeatedNever', WHERE WHAT IT READS IS OF BULK AT MOST 1048576: true; the input reads as it did. -/
def fnRepeatedNeverUptoRow : OpenClaim := { program := "ytnkkpdpjkfjmnaa", sum := "b6894bca8a94f1b4db9c3cd0164f2d26c07f92751b98c96eec0e040419cffdf9", func := "bobbinlace/laws.FnRepeatedNever", spec := "fnRepeatedNever", unfollowed := true, recurses := true, apart := false, narrowed := true }
def FnRepeatedNeverUptoSaid : Prop := fnRepeatedNeverUptoRow.holds Try.pinned (OpenSpec.upto fnRepeatedNeverSpec)

/-- 'laws.FnRepeatedTwice', WHERE WHAT IT READS IS OF BULK AT MOST 1048576: true; the input reads as it did. -/
def fnRepeatedTwiceUptoRow : OpenClaim := { program := "ytnkkpdpjkfjmnaa", sum := "b6894bca8a94f1b4db9c3cd0164f2d26c07f92751b98c96eec0e040419cffdf9", func := "bobbinlace/laws.FnRepeatedTwice", spec := "fnRepeatedTwice", unfollowed := true, recurses := true, apart := false, narrowed := true }
def FnRepeatedTwiceUptoSaid : Prop := fnRepeatedTwiceUptoRow.holds Try.pinned (OpenSpec.upto fnRepeatedTwiceSpec)

/-- 'laws.FnZeros', WHERE WHAT IT READS IS OF BULK AT MOST 1048576: true; the input reads as it did. -/
def fnZerosUptoRow : OpenClaim := { program := "ytnkkpdpjkfjmnaa", sum := "b6894bca8a94f1b4db9c3cd0164f2d26c07f92751b98c96eec0e040419cffdf9", func := "bobbinlace/laws.FnZeros", spec := "fnZeros", unfollowed := true, recurses := true, apart := false, narrowed := true }
def FnZerosUptoSaid : Prop := fnZerosUptoRow.holds Try.pinned (OpenSpec.upto fnZerosSpec)

/-- 'laws.FnZerosTwice', WHERE WHAT IT READS IS OF BULK AT MOST 1048576: true; the input reads as it did. -/
def fnZerosTwiceUptoRow : OpenClaim := { program := "ytnkkpdpjkfjmnaa", sum := "b6894bca8a94f1b4db9c3cd0164f2d26c07f92751b98c96eec0e040419cffdf9", func := "bobbinlace/laws.FnZerosTwice", spec := "fnZerosTwice", unfollowed := true, recurses := true, apart := false, narrowed := true }
def FnZerosTwiceUptoSaid : Prop := fnZerosTwiceUptoRow.holds Try.pinned (OpenSpec.upto fnZerosTwiceSpec)

/-- 'laws.FnLength', WHERE WHAT IT READS IS OF BULK AT MOST 1048576: true; the input reads as it did. -/
def fnLengthUptoRow : OpenClaim := { program := "ytnkkpdpjkfjmnaa", sum := "b6894bca8a94f1b4db9c3cd0164f2d26c07f92751b98c96eec0e040419cffdf9", func := "bobbinlace/laws.FnLength", spec := "fnLength", unfollowed := true, recurses := true, apart := false, narrowed := true }
def FnLengthUptoSaid : Prop := fnLengthUptoRow.holds Try.pinned (OpenSpec.upto fnLengthSpec)

/-- 'laws.FnLengthPlain', WHERE WHAT IT READS IS OF BULK AT MOST 1048576: true; the input reads as it did. -/
def fnLengthPlainUptoRow : OpenClaim := { program := "ytnkkpdpjkfjmnaa", sum := "b6894bca8a94f1b4db9c3cd0164f2d26c07f92751b98c96eec0e040419cffdf9", func := "bobbinlace/laws.FnLengthPlain", spec := "fnLengthPlain", unfollowed := true, recurses := true, apart := false, narrowed := true }
def FnLengthPlainUptoSaid : Prop := fnLengthPlainUptoRow.holds Try.pinned (OpenSpec.upto fnLengthPlainSpec)

end Rows
end Go.Proofs.Ytnkkpdpjkfjmnaa
