/- From what the rows list to the library's table of powers of ten. -/
import Derived.Test.YtncjclmhdhimdaaDoorRows
import Derived.Test.YtncjclmhdhimdaaDoorDImpl
import Derived.Lib.LaidU8
import Derived.PinnedBridge
import Derived.MakeChecks
namespace Go.Proofs.YtncjclmhdhimdaaDoor
open Go.RowKit Go.Lib

theorem tabIs_of_reads {P : Program} {W : World} {name : String} {k : IntKind} {zs : List Int} {g : Nat} {t e : TypeId} {n : Nat}
    (hg : P.globalNamed name = some g) (hty : (P.globals[g]?).map (·.type) = some t) (ht : P.underlying t = some (.array n e)) (he : P.underlying e = some (.int k)) (hce : P.cellsOf e = 1) (hct : P.cellsOf t = n)
    (h : VarReads P W name (tabData k zs)) : TabIs P W name k zs := by
  obtain ⟨g', t', cs, fuel, p, hg', ht', hvar, hd⟩ := h
  obtain rfl := Option.some.inj (hg.symm.trans hg')
  obtain rfl := Option.some.inj (hty.symm.trans ht')
  unfold TabIs
  rw [hvar, ← cells_of_tab ht he hce hct hd]
theorem d_pow : (Rows.laid_internal_strconv_uint64pow10 : DataW Unit) = tabData .u64 pow10Tab := by kernel_rfl
theorem tab_of_laid {laid : List (String × DataW Unit)} {W : World} (h : laidMetH Tryd.prog laid W) (hp : (laid.all fun x => x.2.handleName?.isNone) = true)
    (m1 : ("internal/strconv.uint64pow10", Rows.laid_internal_strconv_uint64pow10) ∈ laid) : Lib.TabIs Tryd.prog W "internal/strconv.uint64pow10" .u64 Lib.pow10Tab := by
  rw [MakeChecks.laidMetH_plain _ _ _ hp] at h
  obtain ⟨ps, hl, _, _⟩ := h
  have r1 := LaidVars_reads hl _ _ m1
  rw [d_pow] at r1
  exact tabIs_of_reads (g := 1) (t := 84) (e := 78) (n := 20) (by kernel_rfl) (by kernel_rfl) (by kernel_rfl) (by kernel_rfl) (by kernel_rfl) (by kernel_rfl) r1
end Go.Proofs.YtncjclmhdhimdaaDoor
