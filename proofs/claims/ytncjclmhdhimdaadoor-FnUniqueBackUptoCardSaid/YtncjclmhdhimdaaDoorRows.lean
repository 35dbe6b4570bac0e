/-
  NARROWER THAN 'FOR EVERY INPUT', by the rows' own cells (each row's printed sentence says how): FnAllNew: laid · FnApart: laid · FnBackward: laid · FnBalance: laid · FnForward: laid · FnNames: laid · FnNoNewline: laid · FnNothing: laid · FnTouched: laid · FnUnique: laid · FnUniqueBack: laid.
  DERIVED. THE GIVEN ROWS OF THIS SEAT. 11 by the template 'for every input the law returns true; each argument reads behind the call as it read before'; 0 by the template 'total and deterministic' (their statements: YtncjclmhdhimdaaDoorTotals.lean).
  GIVEN WITH THE SEED: the statements are not yours to turn. If you find one false, say at which input.
  Laid BY PROGRAM, IN A SANDBOX (cutbox-rows.mjs): the forced cells as the released guide's own fill.sh prints them over the translation 2ec0f7457444880d… (all of the seat's roots in one cut). By AI agents, Wed Nov 11 2026. No macro, syntax, notation, axiom, sorry.
-/
import Derived.Test.YtncjclmhdhimdaaDoorChecked
import GoSem.Claim
import GoSem.ClaimJoined
import GoSem.ClaimMapViews
import Derived.JoinedTies
import Derived.KernelRfl
namespace Go.Proofs.YtncjclmhdhimdaaDoor
/- THE CELL 'sum', in the pinned program and in every row, IS THE sha256 OF THE DUMP (.gsa) THAT YtncjclmhdhimdaaDoorProg.lean LOADS. Nothing in Lean hashes anything: it is a label: what it is worth is what the hold of that sum in a sandbox is worth. -/
noncomputable def Tryd.pinned : Pinned := { name := "ytncjclmhdhimdaadoor", sum := "2ec0f7457444880d8dc0d301d5aec0c44a0827e8366a1665b8691f850ea29fc7", checked := Tryd.checked }
namespace Rows
def none {H : Type} : Left H := { results := [], args := [] }

/- WHAT THE LISTED PACKAGE-LEVEL VARIABLES READ AS WHEN THE CALL BEGINS. Each datum BY PROGRAM (the guide's laid-datum.mjs) off the statement by which the dump's own 'gosem.cut.vars' lays the variable. In a bare row this is a premise. The card (YtncjclmhdhimdaaDoorCards.lean) ties it to the program's text. -/
def laid_math_bits_deBruijn32tab {H : Type} : DataW H := .agg [.lit (.int .u8 0), .lit (.int .u8 1), .lit (.int .u8 28), .lit (.int .u8 2), .lit (.int .u8 29), .lit (.int .u8 14), .lit (.int .u8 24), .lit (.int .u8 3), .lit (.int .u8 30), .lit (.int .u8 22), .lit (.int .u8 20), .lit (.int .u8 15), .lit (.int .u8 25), .lit (.int .u8 17), .lit (.int .u8 4), .lit (.int .u8 8), .lit (.int .u8 31), .lit (.int .u8 27), .lit (.int .u8 13), .lit (.int .u8 23), .lit (.int .u8 21), .lit (.int .u8 19), .lit (.int .u8 16), .lit (.int .u8 7), .lit (.int .u8 26), .lit (.int .u8 12), .lit (.int .u8 18), .lit (.int .u8 6), .lit (.int .u8 11), .lit (.int .u8 5), .lit (.int .u8 10), .lit (.int .u8 9)]
def laid_math_bits_deBruijn64tab {H : Type} : DataW H := .agg [.lit (.int .u8 0), .lit (.int .u8 1), .lit (.int .u8 56), .lit (.int .u8 2), .lit (.int .u8 57), .lit (.int .u8 49), .lit (.int .u8 28), .lit (.int .u8 3), .lit (.int .u8 61), .lit (.int .u8 58), .lit (.int .u8 42), .lit (.int .u8 50), .lit (.int .u8 38), .lit (.int .u8 29), .lit (.int .u8 17), .lit (.int .u8 4), .lit (.int .u8 62), .lit (.int .u8 47), .lit (.int .u8 59), .lit (.int .u8 36), .lit (.int .u8 45), .lit (.int .u8 43), .lit (.int .u8 51), .lit (.int .u8 22), .lit (.int .u8 53), .lit (.int .u8 39), .lit (.int .u8 33), .lit (.int .u8 30), .lit (.int .u8 24), .lit (.int .u8 18), .lit (.int .u8 12), .lit (.int .u8 5), .lit (.int .u8 63), .lit (.int .u8 55), .lit (.int .u8 48), .lit (.int .u8 27), .lit (.int .u8 60), .lit (.int .u8 41), .lit (.int .u8 37), .lit (.int .u8 16), .lit (.int .u8 46), .lit (.int .u8 35), .lit (.int .u8 44), .lit (.int .u8 21), .lit (.int .u8 52), .lit (.int .u8 32), .lit (.int .u8 23), .lit (.int .u8 11), .lit (.int .u8 54), .lit (.int .u8 26), .lit (.int .u8 40), .lit (.int .u8 15), .lit (.int .u8 34), .lit (.int .u8 20), .lit (.int .u8 31), .lit (.int .u8 10), .lit (.int .u8 25), .lit (.int .u8 14), .lit (.int .u8 19), .lit (.int .u8 9), .lit (.int .u8 13), .lit (.int .u8 8), .lit (.int .u8 7), .lit (.int .u8 6)]
def laid_internal_strconv_uint64pow10 {H : Type} : DataW H := .agg [.lit (.int .u64 1), .lit (.int .u64 10), .lit (.int .u64 100), .lit (.int .u64 1000), .lit (.int .u64 10000), .lit (.int .u64 100000), .lit (.int .u64 1000000), .lit (.int .u64 10000000), .lit (.int .u64 100000000), .lit (.int .u64 1000000000), .lit (.int .u64 10000000000), .lit (.int .u64 100000000000), .lit (.int .u64 1000000000000), .lit (.int .u64 10000000000000), .lit (.int .u64 100000000000000), .lit (.int .u64 1000000000000000), .lit (.int .u64 10000000000000000), .lit (.int .u64 100000000000000000), .lit (.int .u64 1000000000000000000), .lit (.int .u64 10000000000000000000)]
def laid_bytes_ErrTooLarge {H : Type} : DataW H := .iface "*errors.errorString" (.ptr (.agg [.lit (.string [98, 121, 116, 101, 115, 46, 66, 117, 102, 102, 101, 114, 58, 32, 116, 111, 111, 32, 108, 97, 114, 103, 101])]))

/-- 'laws.FnAllNew': WHATEVER THE INPUT: true; the input reads as it did. -/
def fnAllNewSpec : ChangeSpec := { name := "fnAllNew", fn := fun _ => fun
  | [d] => { results := [.lit (.bool true)], args := [d] }
  | _ => none }
def fnAllNewRow : OpenClaim := { program := "ytncjclmhdhimdaadoor", sum := "2ec0f7457444880d8dc0d301d5aec0c44a0827e8366a1665b8691f850ea29fc7", func := "loop.example/pub-linesandtags/laws.FnAllNew", spec := "fnAllNew", unfollowed := true, recurses := true, named := ["bytes.ErrTooLarge", "internal/strconv.uint64pow10", "math/bits.deBruijn32tab", "math/bits.deBruijn64tab"], apart := false, laid := [("math/bits.deBruijn32tab", laid_math_bits_deBruijn32tab), ("math/bits.deBruijn64tab", laid_math_bits_deBruijn64tab), ("internal/strconv.uint64pow10", laid_internal_strconv_uint64pow10), ("bytes.ErrTooLarge", laid_bytes_ErrTooLarge)] }
def FnAllNewSaid : Prop := fnAllNewRow.holds Tryd.pinned (OpenSpec.ofChange fnAllNewSpec)

/-- ITS FALSE NEIGHBOUR: 'it returns false'. Refute it at one input. -/
def fnAllNewWrong : ChangeSpec := { name := "fnAllNew", fn := fun _ => fun
  | [d] => { results := [.lit (.bool false)], args := [d] }
  | _ => none }
def FnAllNewWrongFalsely : Prop := fnAllNewRow.holds Tryd.pinned (OpenSpec.ofChange fnAllNewWrong)

/-- 'laws.FnApart': WHATEVER THE INPUT: true; the input reads as it did. -/
def fnApartSpec : ChangeSpec := { name := "fnApart", fn := fun _ => fun
  | [d1, d2] => { results := [.lit (.bool true)], args := [d1, d2] }
  | _ => none }
def fnApartRow : OpenClaim := { program := "ytncjclmhdhimdaadoor", sum := "2ec0f7457444880d8dc0d301d5aec0c44a0827e8366a1665b8691f850ea29fc7", func := "loop.example/pub-linesandtags/laws.FnApart", spec := "fnApart", unfollowed := true, recurses := true, named := ["bytes.ErrTooLarge", "internal/strconv.uint64pow10", "math/bits.deBruijn32tab", "math/bits.deBruijn64tab"], apart := false, laid := [("math/bits.deBruijn32tab", laid_math_bits_deBruijn32tab), ("math/bits.deBruijn64tab", laid_math_bits_deBruijn64tab), ("internal/strconv.uint64pow10", laid_internal_strconv_uint64pow10), ("bytes.ErrTooLarge", laid_bytes_ErrTooLarge)] }
def FnApartSaid : Prop := fnApartRow.holds Tryd.pinned (OpenSpec.ofChange fnApartSpec)

/-- ITS FALSE NEIGHBOUR: 'it returns false'. Refute it at one input. -/
def fnApartWrong : ChangeSpec := { name := "fnApart", fn := fun _ => fun
  | [d1, d2] => { results := [.lit (.bool false)], args := [d1, d2] }
  | _ => none }
def FnApartWrongFalsely : Prop := fnApartRow.holds Tryd.pinned (OpenSpec.ofChange fnApartWrong)

/-- 'laws.FnBackward': WHATEVER THE INPUT: true; the input reads as it did. -/
def fnBackwardSpec : ChangeSpec := { name := "fnBackward", fn := fun _ => fun
  | [d1, d2] => { results := [.lit (.bool true)], args := [d1, d2] }
  | _ => none }
def fnBackwardRow : OpenClaim := { program := "ytncjclmhdhimdaadoor", sum := "2ec0f7457444880d8dc0d301d5aec0c44a0827e8366a1665b8691f850ea29fc7", func := "loop.example/pub-linesandtags/laws.FnBackward", spec := "fnBackward", unfollowed := true, recurses := true, named := ["bytes.ErrTooLarge", "internal/strconv.uint64pow10", "math/bits.deBruijn32tab", "math/bits.deBruijn64tab"], apart := false, laid := [("math/bits.deBruijn32tab", laid_math_bits_deBruijn32tab), ("math/bits.deBruijn64tab", laid_math_bits_deBruijn64tab), ("internal/strconv.uint64pow10", laid_internal_strconv_uint64pow10), ("bytes.ErrTooLarge", laid_bytes_ErrTooLarge)] }
def FnBackwardSaid : Prop := fnBackwardRow.holds Tryd.pinned (OpenSpec.ofChange fnBackwardSpec)

/-- ITS FALSE NEIGHBOUR: 'it returns false'. Refute it at one input. -/
def fnBackwardWrong : ChangeSpec := { name := "fnBackward", fn := fun _ => fun
  | [d1, d2] => { results := [.lit (.bool false)], args := [d1, d2] }
  | _ => none }
def FnBackwardWrongFalsely : Prop := fnBackwardRow.holds Tryd.pinned (OpenSpec.ofChange fnBackwardWrong)

/-- 'laws.FnBalance': WHATEVER THE INPUT: true; the input reads as it did. -/
def fnBalanceSpec : ChangeSpec := { name := "fnBalance", fn := fun _ => fun
  | [d1, d2] => { results := [.lit (.bool true)], args := [d1, d2] }
  | _ => none }
def fnBalanceRow : OpenClaim := { program := "ytncjclmhdhimdaadoor", sum := "2ec0f7457444880d8dc0d301d5aec0c44a0827e8366a1665b8691f850ea29fc7", func := "loop.example/pub-linesandtags/laws.FnBalance", spec := "fnBalance", unfollowed := true, recurses := true, named := ["bytes.ErrTooLarge", "internal/strconv.uint64pow10", "math/bits.deBruijn32tab", "math/bits.deBruijn64tab"], apart := false, laid := [("math/bits.deBruijn32tab", laid_math_bits_deBruijn32tab), ("math/bits.deBruijn64tab", laid_math_bits_deBruijn64tab), ("internal/strconv.uint64pow10", laid_internal_strconv_uint64pow10), ("bytes.ErrTooLarge", laid_bytes_ErrTooLarge)] }
def FnBalanceSaid : Prop := fnBalanceRow.holds Tryd.pinned (OpenSpec.ofChange fnBalanceSpec)

/-- ITS FALSE NEIGHBOUR: 'it returns false'. Refute it at one input. -/
def fnBalanceWrong : ChangeSpec := { name := "fnBalance", fn := fun _ => fun
  | [d1, d2] => { results := [.lit (.bool false)], args := [d1, d2] }
  | _ => none }
def FnBalanceWrongFalsely : Prop := fnBalanceRow.holds Tryd.pinned (OpenSpec.ofChange fnBalanceWrong)

/-- 'laws.FnForward': WHATEVER THE INPUT: true; the input reads as it did. -/
def fnForwardSpec : ChangeSpec := { name := "fnForward", fn := fun _ => fun
  | [d1, d2] => { results := [.lit (.bool true)], args := [d1, d2] }
  | _ => none }
def fnForwardRow : OpenClaim := { program := "ytncjclmhdhimdaadoor", sum := "2ec0f7457444880d8dc0d301d5aec0c44a0827e8366a1665b8691f850ea29fc7", func := "loop.example/pub-linesandtags/laws.FnForward", spec := "fnForward", unfollowed := true, recurses := true, named := ["bytes.ErrTooLarge", "internal/strconv.uint64pow10", "math/bits.deBruijn32tab", "math/bits.deBruijn64tab"], apart := false, laid := [("math/bits.deBruijn32tab", laid_math_bits_deBruijn32tab), ("math/bits.deBruijn64tab", laid_math_bits_deBruijn64tab), ("internal/strconv.uint64pow10", laid_internal_strconv_uint64pow10), ("bytes.ErrTooLarge", laid_bytes_ErrTooLarge)] }
def FnForwardSaid : Prop := fnForwardRow.holds Tryd.pinned (OpenSpec.ofChange fnForwardSpec)

/-- ITS FALSE NEIGHBOUR: 'it returns false'. Refute it at one input. -/
def fnForwardWrong : ChangeSpec := { name := "fnForward", fn := fun _ => fun
  | [d1, d2] => { results := [.lit (.bool false)], args := [d1, d2] }
  | _ => none }
def FnForwardWrongFalsely : Prop := fnForwardRow.holds Tryd.pinned (OpenSpec.ofChange fnForwardWrong)

/-- 'laws.FnNames': WHATEVER THE INPUT: true; the input reads as it did. -/
def fnNamesSpec : ChangeSpec := { name := "fnNames", fn := fun _ => fun
  | [d1, d2, d3, d4] => { results := [.lit (.bool true)], args := [d1, d2, d3, d4] }
  | _ => none }
def fnNamesRow : OpenClaim := { program := "ytncjclmhdhimdaadoor", sum := "2ec0f7457444880d8dc0d301d5aec0c44a0827e8366a1665b8691f850ea29fc7", func := "loop.example/pub-linesandtags/laws.FnNames", spec := "fnNames", unfollowed := true, recurses := true, named := ["bytes.ErrTooLarge", "internal/strconv.uint64pow10", "math/bits.deBruijn32tab", "math/bits.deBruijn64tab"], apart := false, laid := [("math/bits.deBruijn32tab", laid_math_bits_deBruijn32tab), ("math/bits.deBruijn64tab", laid_math_bits_deBruijn64tab), ("internal/strconv.uint64pow10", laid_internal_strconv_uint64pow10), ("bytes.ErrTooLarge", laid_bytes_ErrTooLarge)] }
def FnNamesSaid : Prop := fnNamesRow.holds Tryd.pinned (OpenSpec.ofChange fnNamesSpec)

/-- ITS FALSE NEIGHBOUR: 'it returns false'. Refute it at one input. -/
def fnNamesWrong : ChangeSpec := { name := "fnNames", fn := fun _ => fun
  | [d1, d2, d3, d4] => { results := [.lit (.bool false)], args := [d1, d2, d3, d4] }
  | _ => none }
def FnNamesWrongFalsely : Prop := fnNamesRow.holds Tryd.pinned (OpenSpec.ofChange fnNamesWrong)

/-- 'laws.FnNoNewline': WHATEVER THE INPUT: true; the input reads as it did. -/
def fnNoNewlineSpec : ChangeSpec := { name := "fnNoNewline", fn := fun _ => fun
  | [d] => { results := [.lit (.bool true)], args := [d] }
  | _ => none }
def fnNoNewlineRow : OpenClaim := { program := "ytncjclmhdhimdaadoor", sum := "2ec0f7457444880d8dc0d301d5aec0c44a0827e8366a1665b8691f850ea29fc7", func := "loop.example/pub-linesandtags/laws.FnNoNewline", spec := "fnNoNewline", unfollowed := true, recurses := true, named := ["bytes.ErrTooLarge", "internal/strconv.uint64pow10", "math/bits.deBruijn32tab", "math/bits.deBruijn64tab"], apart := false, laid := [("math/bits.deBruijn32tab", laid_math_bits_deBruijn32tab), ("math/bits.deBruijn64tab", laid_math_bits_deBruijn64tab), ("internal/strconv.uint64pow10", laid_internal_strconv_uint64pow10), ("bytes.ErrTooLarge", laid_bytes_ErrTooLarge)] }
def FnNoNewlineSaid : Prop := fnNoNewlineRow.holds Tryd.pinned (OpenSpec.ofChange fnNoNewlineSpec)

/-- ITS FALSE NEIGHBOUR: 'it returns false'. Refute it at one input. -/
def fnNoNewlineWrong : ChangeSpec := { name := "fnNoNewline", fn := fun _ => fun
  | [d] => { results := [.lit (.bool false)], args := [d] }
  | _ => none }
def FnNoNewlineWrongFalsely : Prop := fnNoNewlineRow.holds Tryd.pinned (OpenSpec.ofChange fnNoNewlineWrong)

/-- 'laws.FnNothing': WHATEVER THE INPUT: true; the input reads as it did. -/
def fnNothingSpec : ChangeSpec := { name := "fnNothing", fn := fun _ => fun
  | [d1, d2, d3, d4] => { results := [.lit (.bool true)], args := [d1, d2, d3, d4] }
  | _ => none }
def fnNothingRow : OpenClaim := { program := "ytncjclmhdhimdaadoor", sum := "2ec0f7457444880d8dc0d301d5aec0c44a0827e8366a1665b8691f850ea29fc7", func := "loop.example/pub-linesandtags/laws.FnNothing", spec := "fnNothing", unfollowed := true, recurses := true, named := ["bytes.ErrTooLarge", "internal/strconv.uint64pow10", "math/bits.deBruijn32tab", "math/bits.deBruijn64tab"], apart := false, laid := [("math/bits.deBruijn32tab", laid_math_bits_deBruijn32tab), ("math/bits.deBruijn64tab", laid_math_bits_deBruijn64tab), ("internal/strconv.uint64pow10", laid_internal_strconv_uint64pow10), ("bytes.ErrTooLarge", laid_bytes_ErrTooLarge)] }
def FnNothingSaid : Prop := fnNothingRow.holds Tryd.pinned (OpenSpec.ofChange fnNothingSpec)

/-- ITS FALSE NEIGHBOUR: 'it returns false'. Refute it at one input. -/
def fnNothingWrong : ChangeSpec := { name := "fnNothing", fn := fun _ => fun
  | [d1, d2, d3, d4] => { results := [.lit (.bool false)], args := [d1, d2, d3, d4] }
  | _ => none }
def FnNothingWrongFalsely : Prop := fnNothingRow.holds Tryd.pinned (OpenSpec.ofChange fnNothingWrong)

/-- 'laws.FnTouched': WHATEVER THE INPUT: true; the input reads as it did. -/
def fnTouchedSpec : ChangeSpec := { name := "fnTouched", fn := fun _ => fun
  | [d1, d2] => { results := [.lit (.bool true)], args := [d1, d2] }
  | _ => none }
def fnTouchedRow : OpenClaim := { program := "ytncjclmhdhimdaadoor", sum := "2ec0f7457444880d8dc0d301d5aec0c44a0827e8366a1665b8691f850ea29fc7", func := "loop.example/pub-linesandtags/laws.FnTouched", spec := "fnTouched", unfollowed := true, recurses := true, named := ["bytes.ErrTooLarge", "internal/strconv.uint64pow10", "math/bits.deBruijn32tab", "math/bits.deBruijn64tab"], apart := false, laid := [("math/bits.deBruijn32tab", laid_math_bits_deBruijn32tab), ("math/bits.deBruijn64tab", laid_math_bits_deBruijn64tab), ("internal/strconv.uint64pow10", laid_internal_strconv_uint64pow10), ("bytes.ErrTooLarge", laid_bytes_ErrTooLarge)] }
def FnTouchedSaid : Prop := fnTouchedRow.holds Tryd.pinned (OpenSpec.ofChange fnTouchedSpec)

/-- ITS FALSE NEIGHBOUR: 'it returns false'. Refute it at one input. -/
def fnTouchedWrong : ChangeSpec := { name := "fnTouched", fn := fun _ => fun
  | [d1, d2] => { results := [.lit (.bool false)], args := [d1, d2] }
  | _ => none }
def FnTouchedWrongFalsely : Prop := fnTouchedRow.holds Tryd.pinned (OpenSpec.ofChange fnTouchedWrong)

/-- 'laws.FnUnique': WHATEVER THE INPUT: true; the input reads as it did. -/
def fnUniqueSpec : ChangeSpec := { name := "fnUnique", fn := fun _ => fun
  | [d1, d2] => { results := [.lit (.bool true)], args := [d1, d2] }
  | _ => none }
def fnUniqueRow : OpenClaim := { program := "ytncjclmhdhimdaadoor", sum := "2ec0f7457444880d8dc0d301d5aec0c44a0827e8366a1665b8691f850ea29fc7", func := "loop.example/pub-linesandtags/laws.FnUnique", spec := "fnUnique", unfollowed := true, recurses := true, named := ["bytes.ErrTooLarge", "internal/strconv.uint64pow10", "math/bits.deBruijn32tab", "math/bits.deBruijn64tab"], apart := false, laid := [("math/bits.deBruijn32tab", laid_math_bits_deBruijn32tab), ("math/bits.deBruijn64tab", laid_math_bits_deBruijn64tab), ("internal/strconv.uint64pow10", laid_internal_strconv_uint64pow10), ("bytes.ErrTooLarge", laid_bytes_ErrTooLarge)] }
def FnUniqueSaid : Prop := fnUniqueRow.holds Tryd.pinned (OpenSpec.ofChange fnUniqueSpec)

/-- ITS FALSE NEIGHBOUR: 'it returns false'. Refute it at one input. -/
def fnUniqueWrong : ChangeSpec := { name := "fnUnique", fn := fun _ => fun
  | [d1, d2] => { results := [.lit (.bool false)], args := [d1, d2] }
  | _ => none }
def FnUniqueWrongFalsely : Prop := fnUniqueRow.holds Tryd.pinned (OpenSpec.ofChange fnUniqueWrong)

/-- 'laws.FnUniqueBack': WHATEVER THE INPUT: true; the input reads as it did. -/
def fnUniqueBackSpec : ChangeSpec := { name := "fnUniqueBack", fn := fun _ => fun
  | [d1, d2] => { results := [.lit (.bool true)], args := [d1, d2] }
  | _ => none }
def fnUniqueBackRow : OpenClaim := { program := "ytncjclmhdhimdaadoor", sum := "2ec0f7457444880d8dc0d301d5aec0c44a0827e8366a1665b8691f850ea29fc7", func := "loop.example/pub-linesandtags/laws.FnUniqueBack", spec := "fnUniqueBack", unfollowed := true, recurses := true, named := ["bytes.ErrTooLarge", "internal/strconv.uint64pow10", "math/bits.deBruijn32tab", "math/bits.deBruijn64tab"], apart := false, laid := [("math/bits.deBruijn32tab", laid_math_bits_deBruijn32tab), ("math/bits.deBruijn64tab", laid_math_bits_deBruijn64tab), ("internal/strconv.uint64pow10", laid_internal_strconv_uint64pow10), ("bytes.ErrTooLarge", laid_bytes_ErrTooLarge)] }
def FnUniqueBackSaid : Prop := fnUniqueBackRow.holds Tryd.pinned (OpenSpec.ofChange fnUniqueBackSpec)

/-- ITS FALSE NEIGHBOUR: 'it returns false'. Refute it at one input. -/
def fnUniqueBackWrong : ChangeSpec := { name := "fnUniqueBack", fn := fun _ => fun
  | [d1, d2] => { results := [.lit (.bool false)], args := [d1, d2] }
  | _ => none }
def FnUniqueBackWrongFalsely : Prop := fnUniqueBackRow.holds Tryd.pinned (OpenSpec.ofChange fnUniqueBackWrong)

/- THE SECOND FORM. 'bulk': how many values and letters a reading holds, each counted each time it is reached (what is shared counts as often as it is met; a slice's spare places count too). A statement '..UptoSaid' is the law's where the arguments, and the package variables that the reading takes, are together of bulk at most 1048576: NARROWER than '..Said'. Prove '..Said' where nothing that the law and all that it calls make is longer than what came in: it says more and counts as full. Else prove '..UptoSaid'. A law counts once. -/
mutual
def uptoBulk {H : Type} : DataW H → Nat
  | .lit (.string bytes) => bytes.length + 1
  | .lit _ => 1
  | .nil => 1
  | .ptr d => uptoBulk d + 1
  | .slice elems spare => uptoBulkAll elems + uptoBulkAll spare + 1
  | .agg parts => uptoBulkAll parts + 1
  | .iface _ d => uptoBulk d + 1
  | .map entries => uptoBulkEntries entries + 1
  | .held _ => 1
def uptoBulkAll {H : Type} : List (DataW H) → Nat
  | [] => 0
  | d :: r => uptoBulk d + uptoBulkAll r
def uptoBulkEntries {H : Type} : List (Lit × DataW H) → Nat
  | [] => 0
  | x :: r => uptoBulkEntry x + uptoBulkEntries r
def uptoBulkEntry {H : Type} : Lit × DataW H → Nat
  | (.string bytes, d) => bytes.length + uptoBulk d + 1
  | (_, d) => uptoBulk d + 1
 end
def uptoSmall : (H : Type) → List (DataW H) → Bool := fun _ ds => decide (uptoBulkAll ds ≤ 1048576)
def OpenSpec.upto (s : _root_.Go.ChangeSpec) : _root_.Go.OpenSpec := { _root_.Go.OpenSpec.ofChange s with cond := some uptoSmall }

/-- 'laws.FnAllNew', WHERE WHAT IT READS IS OF BULK AT MOST 1048576: true; the input reads as it did. -/
def fnAllNewUptoRow : OpenClaim := { program := "ytncjclmhdhimdaadoor", sum := "2ec0f7457444880d8dc0d301d5aec0c44a0827e8366a1665b8691f850ea29fc7", func := "loop.example/pub-linesandtags/laws.FnAllNew", spec := "fnAllNew", unfollowed := true, recurses := true, named := ["bytes.ErrTooLarge", "internal/strconv.uint64pow10", "math/bits.deBruijn32tab", "math/bits.deBruijn64tab"], apart := false, laid := [("math/bits.deBruijn32tab", laid_math_bits_deBruijn32tab), ("math/bits.deBruijn64tab", laid_math_bits_deBruijn64tab), ("internal/strconv.uint64pow10", laid_internal_strconv_uint64pow10), ("bytes.ErrTooLarge", laid_bytes_ErrTooLarge)], narrowed := true }
def FnAllNewUptoSaid : Prop := fnAllNewUptoRow.holds Tryd.pinned (OpenSpec.upto fnAllNewSpec)

/-- 'laws.FnApart', WHERE WHAT IT READS IS OF BULK AT MOST 1048576: true; the input reads as it did. -/
def fnApartUptoRow : OpenClaim := { program := "ytncjclmhdhimdaadoor", sum := "2ec0f7457444880d8dc0d301d5aec0c44a0827e8366a1665b8691f850ea29fc7", func := "loop.example/pub-linesandtags/laws.FnApart", spec := "fnApart", unfollowed := true, recurses := true, named := ["bytes.ErrTooLarge", "internal/strconv.uint64pow10", "math/bits.deBruijn32tab", "math/bits.deBruijn64tab"], apart := false, laid := [("math/bits.deBruijn32tab", laid_math_bits_deBruijn32tab), ("math/bits.deBruijn64tab", laid_math_bits_deBruijn64tab), ("internal/strconv.uint64pow10", laid_internal_strconv_uint64pow10), ("bytes.ErrTooLarge", laid_bytes_ErrTooLarge)], narrowed := true }
def FnApartUptoSaid : Prop := fnApartUptoRow.holds Tryd.pinned (OpenSpec.upto fnApartSpec)

/-- 'laws.FnBackward', WHERE WHAT IT READS IS OF BULK AT MOST 1048576: true; the input reads as it did. -/
def fnBackwardUptoRow : OpenClaim := { program := "ytncjclmhdhimdaadoor", sum := "2ec0f7457444880d8dc0d301d5aec0c44a0827e8366a1665b8691f850ea29fc7", func := "loop.example/pub-linesandtags/laws.FnBackward", spec := "fnBackward", unfollowed := true, recurses := true, named := ["bytes.ErrTooLarge", "internal/strconv.uint64pow10", "math/bits.deBruijn32tab", "math/bits.deBruijn64tab"], apart := false, laid := [("math/bits.deBruijn32tab", laid_math_bits_deBruijn32tab), ("math/bits.deBruijn64tab", laid_math_bits_deBruijn64tab), ("internal/strconv.uint64pow10", laid_internal_strconv_uint64pow10), ("bytes.ErrTooLarge", laid_bytes_ErrTooLarge)], narrowed := true }
def FnBackwardUptoSaid : Prop := fnBackwardUptoRow.holds Tryd.pinned (OpenSpec.upto fnBackwardSpec)

/-- 'laws.FnBalance', WHERE WHAT IT READS IS OF BULK AT MOST 1048576: true; the input reads as it did. -/
def fnBalanceUptoRow : OpenClaim := { program := "ytncjclmhdhimdaadoor", sum := "2ec0f7457444880d8dc0d301d5aec0c44a0827e8366a1665b8691f850ea29fc7", func := "loop.example/pub-linesandtags/laws.FnBalance", spec := "fnBalance", unfollowed := true, recurses := true, named := ["bytes.ErrTooLarge", "internal/strconv.uint64pow10", "math/bits.deBruijn32tab", "math/bits.deBruijn64tab"], apart := false, laid := [("math/bits.deBruijn32tab", laid_math_bits_deBruijn32tab), ("math/bits.deBruijn64tab", laid_math_bits_deBruijn64tab), ("internal/strconv.uint64pow10", laid_internal_strconv_uint64pow10), ("bytes.ErrTooLarge", laid_bytes_ErrTooLarge)], narrowed := true }
def FnBalanceUptoSaid : Prop := fnBalanceUptoRow.holds Tryd.pinned (OpenSpec.upto fnBalanceSpec)

/-- 'laws.FnForward', WHERE WHAT IT READS IS OF BULK AT MOST 1048576: true; the input reads as it did. -/
def fnForwardUptoRow : OpenClaim := { program := "ytncjclmhdhimdaadoor", sum := "2ec0f7457444880d8dc0d301d5aec0c44a0827e8366a1665b8691f850ea29fc7", func := "loop.example/pub-linesandtags/laws.FnForward", spec := "fnForward", unfollowed := true, recurses := true, named := ["bytes.ErrTooLarge", "internal/strconv.uint64pow10", "math/bits.deBruijn32tab", "math/bits.deBruijn64tab"], apart := false, laid := [("math/bits.deBruijn32tab", laid_math_bits_deBruijn32tab), ("math/bits.deBruijn64tab", laid_math_bits_deBruijn64tab), ("internal/strconv.uint64pow10", laid_internal_strconv_uint64pow10), ("bytes.ErrTooLarge", laid_bytes_ErrTooLarge)], narrowed := true }
def FnForwardUptoSaid : Prop := fnForwardUptoRow.holds Tryd.pinned (OpenSpec.upto fnForwardSpec)

/-- 'laws.FnNames', WHERE WHAT IT READS IS OF BULK AT MOST 1048576: true; the input reads as it did. -/
def fnNamesUptoRow : OpenClaim := { program := "ytncjclmhdhimdaadoor", sum := "2ec0f7457444880d8dc0d301d5aec0c44a0827e8366a1665b8691f850ea29fc7", func := "loop.example/pub-linesandtags/laws.FnNames", spec := "fnNames", unfollowed := true, recurses := true, named := ["bytes.ErrTooLarge", "internal/strconv.uint64pow10", "math/bits.deBruijn32tab", "math/bits.deBruijn64tab"], apart := false, laid := [("math/bits.deBruijn32tab", laid_math_bits_deBruijn32tab), ("math/bits.deBruijn64tab", laid_math_bits_deBruijn64tab), ("internal/strconv.uint64pow10", laid_internal_strconv_uint64pow10), ("bytes.ErrTooLarge", laid_bytes_ErrTooLarge)], narrowed := true }
def FnNamesUptoSaid : Prop := fnNamesUptoRow.holds Tryd.pinned (OpenSpec.upto fnNamesSpec)

/-- 'laws.FnNoNewline', WHERE WHAT IT READS IS OF BULK AT MOST 1048576: true; the input reads as it did. -/
def fnNoNewlineUptoRow : OpenClaim := { program := "ytncjclmhdhimdaadoor", sum := "2ec0f7457444880d8dc0d301d5aec0c44a0827e8366a1665b8691f850ea29fc7", func := "loop.example/pub-linesandtags/laws.FnNoNewline", spec := "fnNoNewline", unfollowed := true, recurses := true, named := ["bytes.ErrTooLarge", "internal/strconv.uint64pow10", "math/bits.deBruijn32tab", "math/bits.deBruijn64tab"], apart := false, laid := [("math/bits.deBruijn32tab", laid_math_bits_deBruijn32tab), ("math/bits.deBruijn64tab", laid_math_bits_deBruijn64tab), ("internal/strconv.uint64pow10", laid_internal_strconv_uint64pow10), ("bytes.ErrTooLarge", laid_bytes_ErrTooLarge)], narrowed := true }
def FnNoNewlineUptoSaid : Prop := fnNoNewlineUptoRow.holds Tryd.pinned (OpenSpec.upto fnNoNewlineSpec)

/-- 'laws.FnNothing', WHERE WHAT IT READS IS OF BULK AT MOST 1048576: true; the input reads as it did. -/
def fnNothingUptoRow : OpenClaim := { program := "ytncjclmhdhimdaadoor", sum := "2ec0f7457444880d8dc0d301d5aec0c44a0827e8366a1665b8691f850ea29fc7", func := "loop.example/pub-linesandtags/laws.FnNothing", spec := "fnNothing", unfollowed := true, recurses := true, named := ["bytes.ErrTooLarge", "internal/strconv.uint64pow10", "math/bits.deBruijn32tab", "math/bits.deBruijn64tab"], apart := false, laid := [("math/bits.deBruijn32tab", laid_math_bits_deBruijn32tab), ("math/bits.deBruijn64tab", laid_math_bits_deBruijn64tab), ("internal/strconv.uint64pow10", laid_internal_strconv_uint64pow10), ("bytes.ErrTooLarge", laid_bytes_ErrTooLarge)], narrowed := true }
def FnNothingUptoSaid : Prop := fnNothingUptoRow.holds Tryd.pinned (OpenSpec.upto fnNothingSpec)

/-- 'laws.FnTouched', WHERE WHAT IT READS IS OF BULK AT MOST 1048576: true; the input reads as it did. -/
def fnTouchedUptoRow : OpenClaim := { program := "ytncjclmhdhimdaadoor", sum := "2ec0f7457444880d8dc0d301d5aec0c44a0827e8366a1665b8691f850ea29fc7", func := "loop.example/pub-linesandtags/laws.FnTouched", spec := "fnTouched", unfollowed := true, recurses := true, named := ["bytes.ErrTooLarge", "internal/strconv.uint64pow10", "math/bits.deBruijn32tab", "math/bits.deBruijn64tab"], apart := false, laid := [("math/bits.deBruijn32tab", laid_math_bits_deBruijn32tab), ("math/bits.deBruijn64tab", laid_math_bits_deBruijn64tab), ("internal/strconv.uint64pow10", laid_internal_strconv_uint64pow10), ("bytes.ErrTooLarge", laid_bytes_ErrTooLarge)], narrowed := true }
def FnTouchedUptoSaid : Prop := fnTouchedUptoRow.holds Tryd.pinned (OpenSpec.upto fnTouchedSpec)

/-- 'laws.FnUnique', WHERE WHAT IT READS IS OF BULK AT MOST 1048576: true; the input reads as it did. -/
def fnUniqueUptoRow : OpenClaim := { program := "ytncjclmhdhimdaadoor", sum := "2ec0f7457444880d8dc0d301d5aec0c44a0827e8366a1665b8691f850ea29fc7", func := "loop.example/pub-linesandtags/laws.FnUnique", spec := "fnUnique", unfollowed := true, recurses := true, named := ["bytes.ErrTooLarge", "internal/strconv.uint64pow10", "math/bits.deBruijn32tab", "math/bits.deBruijn64tab"], apart := false, laid := [("math/bits.deBruijn32tab", laid_math_bits_deBruijn32tab), ("math/bits.deBruijn64tab", laid_math_bits_deBruijn64tab), ("internal/strconv.uint64pow10", laid_internal_strconv_uint64pow10), ("bytes.ErrTooLarge", laid_bytes_ErrTooLarge)], narrowed := true }
def FnUniqueUptoSaid : Prop := fnUniqueUptoRow.holds Tryd.pinned (OpenSpec.upto fnUniqueSpec)

/-- 'laws.FnUniqueBack', WHERE WHAT IT READS IS OF BULK AT MOST 1048576: true; the input reads as it did. -/
def fnUniqueBackUptoRow : OpenClaim := { program := "ytncjclmhdhimdaadoor", sum := "2ec0f7457444880d8dc0d301d5aec0c44a0827e8366a1665b8691f850ea29fc7", func := "loop.example/pub-linesandtags/laws.FnUniqueBack", spec := "fnUniqueBack", unfollowed := true, recurses := true, named := ["bytes.ErrTooLarge", "internal/strconv.uint64pow10", "math/bits.deBruijn32tab", "math/bits.deBruijn64tab"], apart := false, laid := [("math/bits.deBruijn32tab", laid_math_bits_deBruijn32tab), ("math/bits.deBruijn64tab", laid_math_bits_deBruijn64tab), ("internal/strconv.uint64pow10", laid_internal_strconv_uint64pow10), ("bytes.ErrTooLarge", laid_bytes_ErrTooLarge)], narrowed := true }
def FnUniqueBackUptoSaid : Prop := fnUniqueBackUptoRow.holds Tryd.pinned (OpenSpec.upto fnUniqueBackSpec)

end Rows
end Go.Proofs.YtncjclmhdhimdaaDoor
