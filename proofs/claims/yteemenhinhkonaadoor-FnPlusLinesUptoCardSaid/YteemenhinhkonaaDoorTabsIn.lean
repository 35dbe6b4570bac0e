/- From what the rows list to the library's tables. -/
import Derived.Test.YteemenhinhkonaaDoorRows
import Derived.Test.YteemenhinhkonaaDoorTabs
import Derived.Lib.LaidU8
import Derived.Lib.LaidRTab
import Derived.PinnedBridge
import Derived.MakeChecks
namespace Go.Proofs.YteemenhinhkonaaDoor
open Go.RowKit Go.Lib

theorem tabIs_of_reads {P : Program} {W : World} {name : String} {k : IntKind} {zs : List Int} {g : Nat} {t e : TypeId} {n : Nat}
    (hg : P.globalNamed name = some g) (hty : (P.globals[g]?).map (·.type) = some t) (ht : P.underlying t = some (.array n e)) (he : P.underlying e = some (.int k)) (hce : P.cellsOf e = 1) (hct : P.cellsOf t = n)
    (h : VarReads P W name (tabData k zs)) : TabIs P W name k zs := by
  obtain ⟨g', t', cs, fuel, p, hg', ht', hvar, hd⟩ := h
  obtain rfl := Option.some.inj (hg.symm.trans hg')
  obtain rfl := Option.some.inj (hty.symm.trans ht')
  unfold TabIs
  rw [hvar, ← cells_of_tab ht he hce hct hd]
theorem u8x : U8Extra Tryd.prog Tryd.lays260_ren := ⟨by kernel_rfl, by kernel_rfl, by kernel_rfl, by kernel_rfl, by kernel_rfl, by kernel_rfl, by kernel_rfl⟩
theorem whx : WhiteExtra Tryd.prog Tryd.lays199_ren := ⟨by kernel_rfl, by kernel_rfl, by kernel_rfl, by kernel_rfl, by kernel_rfl, by kernel_rfl, by kernel_rfl, by kernel_rfl⟩
theorem rx : RExtra Tryd.prog Tryd.lays261_ren := ⟨by kernel_rfl, by kernel_rfl, by kernel_rfl, by kernel_rfl, by kernel_rfl, by kernel_rfl, by kernel_rfl, by kernel_rfl⟩
set_option maxRecDepth 100000 in
theorem d_prop : (Rows.laid_unicode_properties : DataW Unit) = tabData .u8 propertiesTab := by kernel_rfl
set_option maxRecDepth 100000 in
theorem d_space : (Rows.laid_strings_asciiSpace : DataW Unit) = tabData .u8 asciiSpaceTab := by kernel_rfl
theorem d_acc : (Rows.laid_unicode_utf8_acceptRanges : DataW Unit) = acceptData := by kernel_rfl
theorem d_white : (Rows.laid_unicode_White_Space : DataW Unit) = whiteData := by kernel_rfl

theorem tabs_of_laid {laid : List (String × DataW Unit)} {W : World} (h : laidMetH Tryd.prog laid W) (hp : (laid.all fun x => x.2.handleName?.isNone) = true)
    (m1 : ("unicode.properties", Rows.laid_unicode_properties) ∈ laid) (m2 : ("strings.asciiSpace", Rows.laid_strings_asciiSpace) ∈ laid) (m3 : ("unicode.Letter", Rows.laid_unicode_Letter) ∈ laid) (m4 : ("unicode.Digit", Rows.laid_unicode_Digit) ∈ laid)
    (m5 : ("unicode/utf8.first", Rows.laid_unicode_utf8_first) ∈ laid) (m6 : ("unicode/utf8.acceptRanges", Rows.laid_unicode_utf8_acceptRanges) ∈ laid) (m7 : ("unicode.White_Space", Rows.laid_unicode_White_Space) ∈ laid) : Tabs W := by
  rw [MakeChecks.laidMetH_plain _ _ _ hp] at h
  obtain ⟨ps, hl, _, _⟩ := h
  have hr := LaidVars_reads hl
  have r1 := hr _ _ m1
  have r2 := hr _ _ m2
  have r3 := hr _ _ m3
  have r4 := hr _ _ m4
  have r5 := hr _ _ m5
  have r6 := hr _ _ m6
  have r7 := hr _ _ m7
  rw [d_prop] at r1
  rw [d_space] at r2
  rw [show Rows.laid_unicode_Letter = rtabData letterT from Pinned.letter_eq] at r3
  rw [show Rows.laid_unicode_Digit = rtabData digitT from Pinned.digit_eq] at r4
  rw [show Rows.laid_unicode_utf8_first = firstData from Pinned.utf8First_eq] at r5
  rw [d_acc] at r6
  rw [d_white] at r7
  refine ⟨tabIs_of_reads (g := 4) (t := Tryd.lays260_ren.t 119) (e := Tryd.lays260_ren.t 5) (n := 256) (by kernel_rfl) (by kernel_rfl) (by kernel_rfl) (by kernel_rfl) (by kernel_rfl) (by kernel_rfl) r1,
    tabIs_of_reads (g := 2) (t := Tryd.lays260_ren.t 119) (e := Tryd.lays260_ren.t 5) (n := 256) (by kernel_rfl) (by kernel_rfl) (by kernel_rfl) (by kernel_rfl) (by kernel_rfl) (by kernel_rfl) r2,
    rvar_of_reads Tryd.lays261 rx (by kernel_rfl) (by kernel_rfl) r3, rvar_of_reads Tryd.lays261 rx (by kernel_rfl) (by kernel_rfl) r4,
    utf8Tabs_of_reads Tryd.lays260 u8x r5 r6, whiteTab_of_reads Tryd.lays199 whx r7⟩
end Go.Proofs.YteemenhinhkonaaDoor
