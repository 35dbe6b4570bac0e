/-
  NARROWER THAN 'FOR EVERY INPUT', by the rows' own cells (each row's printed sentence says how): FnEval: loops · FnEvalOther: loops · FnBuildText: loops.
  DERIVED. THE GIVEN ROWS OF THIS SEAT. 3 by the template 'for every input the law returns true; each argument reads behind the call as it read before'; 0 by the template 'total and deterministic' (their statements: YteemenhinhkonaaTotals.lean).
  GIVEN WITH THE SEED: the statements are not yours to turn. If you find one false, say at which input.
  Laid BY PROGRAM, IN A SANDBOX (cutbox-rows.mjs): the forced cells as the released guide's own fill.sh prints them over the translation 186828ded265344b… (all of the seat's roots in one cut). By AI agents, Wed Nov 11 2026. No macro, syntax, notation, axiom, sorry.
-/
import Derived.Test.YteemenhinhkonaaChecked
import GoSem.Claim
import GoSem.ClaimJoined
import GoSem.ClaimMapViews
import Derived.JoinedTies
import Derived.KernelRfl
namespace Go.Proofs.Yteemenhinhkonaa
/- THE CELL 'sum', in the pinned program and in every row, IS THE sha256 OF THE DUMP (.gsa) THAT YteemenhinhkonaaProg.lean LOADS. Nothing in Lean hashes anything: it is a label: what it is worth is what the hold of that sum in a sandbox is worth. -/
noncomputable def Try.pinned : Pinned := { name := "yteemenhinhkonaa", sum := "186828ded265344b7e8b44d21d9da5c5ae92239285c258e4ef0ab178ae4d3026", checked := Try.checked }
namespace Rows
def none {H : Type} : Left H := { results := [], args := [] }

/-- 'laws.FnEval': WHATEVER THE INPUT: true; the input reads as it did. -/
def fnEvalSpec : ChangeSpec := { name := "fnEval", fn := fun _ => fun
  | [d] => { results := [.lit (.bool true)], args := [d] }
  | _ => none }
def fnEvalRow : OpenClaim := { program := "yteemenhinhkonaa", sum := "186828ded265344b7e8b44d21d9da5c5ae92239285c258e4ef0ab178ae4d3026", func := "loop.example/pub-linesandtags/laws.FnEval", spec := "fnEval", unfollowed := true, recurses := true, loops := true, apart := false }
def FnEvalSaid : Prop := fnEvalRow.holds Try.pinned (OpenSpec.ofChange fnEvalSpec)

/-- ITS FALSE NEIGHBOUR: 'it returns false'. Refute it at one input. -/
def fnEvalWrong : ChangeSpec := { name := "fnEval", fn := fun _ => fun
  | [d] => { results := [.lit (.bool false)], args := [d] }
  | _ => none }
def FnEvalWrongFalsely : Prop := fnEvalRow.holds Try.pinned (OpenSpec.ofChange fnEvalWrong)

/-- 'laws.FnEvalOther': WHATEVER THE INPUT: true; the input reads as it did. -/
def fnEvalOtherSpec : ChangeSpec := { name := "fnEvalOther", fn := fun _ => fun
  | [d1, d2] => { results := [.lit (.bool true)], args := [d1, d2] }
  | _ => none }
def fnEvalOtherRow : OpenClaim := { program := "yteemenhinhkonaa", sum := "186828ded265344b7e8b44d21d9da5c5ae92239285c258e4ef0ab178ae4d3026", func := "loop.example/pub-linesandtags/laws.FnEvalOther", spec := "fnEvalOther", unfollowed := true, recurses := true, loops := true, apart := false }
def FnEvalOtherSaid : Prop := fnEvalOtherRow.holds Try.pinned (OpenSpec.ofChange fnEvalOtherSpec)

/-- ITS FALSE NEIGHBOUR: 'it returns false'. Refute it at one input. -/
def fnEvalOtherWrong : ChangeSpec := { name := "fnEvalOther", fn := fun _ => fun
  | [d1, d2] => { results := [.lit (.bool false)], args := [d1, d2] }
  | _ => none }
def FnEvalOtherWrongFalsely : Prop := fnEvalOtherRow.holds Try.pinned (OpenSpec.ofChange fnEvalOtherWrong)

/-- 'laws.FnBuildText': WHATEVER THE INPUT: true; the input reads as it did. -/
def fnBuildTextSpec : ChangeSpec := { name := "fnBuildText", fn := fun _ => fun
  | [d] => { results := [.lit (.bool true)], args := [d] }
  | _ => none }
def fnBuildTextRow : OpenClaim := { program := "yteemenhinhkonaa", sum := "186828ded265344b7e8b44d21d9da5c5ae92239285c258e4ef0ab178ae4d3026", func := "loop.example/pub-linesandtags/laws.FnBuildText", spec := "fnBuildText", unfollowed := true, recurses := true, loops := true, apart := false }
def FnBuildTextSaid : Prop := fnBuildTextRow.holds Try.pinned (OpenSpec.ofChange fnBuildTextSpec)

/-- ITS FALSE NEIGHBOUR: 'it returns false'. Refute it at one input. -/
def fnBuildTextWrong : ChangeSpec := { name := "fnBuildText", fn := fun _ => fun
  | [d] => { results := [.lit (.bool false)], args := [d] }
  | _ => none }
def FnBuildTextWrongFalsely : Prop := fnBuildTextRow.holds Try.pinned (OpenSpec.ofChange fnBuildTextWrong)

/- THE SECOND FORM. 'bulk': how many values and letters a reading holds, each counted each time it is reached (what is shared counts as often as it is met; a slice's spare places count too). A statement '..UptoSaid' is the law's where the arguments, and the package variables that the reading takes, are together of bulk at most 1048576: NARROWER than '..Said'. Prove '..Said' where nothing that the law and all that it calls make is longer than what came in: it says more and counts as full. Else prove '..UptoSaid'. A law counts once. -/
mutual
def uptoBulk {H : Type} : DataW H → Nat
  | .lit (.string bytes) => bytes.length + 1
  | .lit _ => 1
  | .nil => 1
  | .ptr d => uptoBulk d + 1
  | .slice elems spare => uptoBulkAll elems + uptoBulkAll spare + 1
  | .agg parts => uptoBulkAll parts + 1
  | .iface _ d => uptoBulk d + 1
  | .map entries => uptoBulkEntries entries + 1
  | .held _ => 1
def uptoBulkAll {H : Type} : List (DataW H) → Nat
  | [] => 0
  | d :: r => uptoBulk d + uptoBulkAll r
def uptoBulkEntries {H : Type} : List (Lit × DataW H) → Nat
  | [] => 0
  | x :: r => uptoBulkEntry x + uptoBulkEntries r
def uptoBulkEntry {H : Type} : Lit × DataW H → Nat
  | (.string bytes, d) => bytes.length + uptoBulk d + 1
  | (_, d) => uptoBulk d + 1
 end
def uptoSmall : (H : Type) → List (DataW H) → Bool := fun _ ds => decide (uptoBulkAll ds ≤ 1048576)
def OpenSpec.upto (s : _root_.Go.ChangeSpec) : _root_.Go.OpenSpec := { _root_.Go.OpenSpec.ofChange s with cond := some uptoSmall }

/-- 'laws.FnEval', WHERE WHAT IT READS IS OF BULK AT MOST 1048576: true; the input reads as it did. -/
def fnEvalUptoRow : OpenClaim := { program := "yteemenhinhkonaa", sum := "186828ded265344b7e8b44d21d9da5c5ae92239285c258e4ef0ab178ae4d3026", func := "loop.example/pub-linesandtags/laws.FnEval", spec := "fnEval", unfollowed := true, recurses := true, loops := true, apart := false, narrowed := true }
def FnEvalUptoSaid : Prop := fnEvalUptoRow.holds Try.pinned (OpenSpec.upto fnEvalSpec)

/-- 'laws.FnEvalOther', WHERE WHAT IT READS IS OF BULK AT MOST 1048576: true; the input reads as it did. -/
def fnEvalOtherUptoRow : OpenClaim := { program := "yteemenhinhkonaa", sum := "186828ded265344b7e8b44d21d9da5c5ae92239285c258e4ef0ab178ae4d3026", func := "loop.example/pub-linesandtags/laws.FnEvalOther", spec := "fnEvalOther", unfollowed := true, recurses := true, loops := true, apart := false, narrowed := true }
def FnEvalOtherUptoSaid : Prop := fnEvalOtherUptoRow.holds Try.pinned (OpenSpec.upto fnEvalOtherSpec)

/-- 'laws.FnBuildText', WHERE WHAT IT READS IS OF BULK AT MOST 1048576: true; the input reads as it did. -/
def fnBuildTextUptoRow : OpenClaim := { program := "yteemenhinhkonaa", sum := "186828ded265344b7e8b44d21d9da5c5ae92239285c258e4ef0ab178ae4d3026", func := "loop.example/pub-linesandtags/laws.FnBuildText", spec := "fnBuildText", unfollowed := true, recurses := true, loops := true, apart := false, narrowed := true }
def FnBuildTextUptoSaid : Prop := fnBuildTextUptoRow.holds Try.pinned (OpenSpec.upto fnBuildTextSpec)

end Rows
end Go.Proofs.Yteemenhinhkonaa
