/- FnPlusLines: from the walk to what the row of the second form asks of a call. -/
import Derived.Test.YteemenhinhkonaaDoorRows
import Derived.Test.YteemenhinhkonaaDoorFnPlusLines
import Derived.Test.YteemenhinhkonaaDoorLeaves
import Derived.Test.YteemenhinhkonaaDoorTabsIn
import Derived.Test.YteemenhinhkonaaDoorErrsIn
import Derived.ProofKit
import Derived.SizedLaws
import Derived.OpenShut
import Derived.ChangeMaps5
import Derived.Stop.LaidErr
import Derived.Test.YteemenhinhkonaaDoorCards
import Derived.Test.YteemenhinhkonaaDoorTie
import Derived.LaidMore
import Derived.Lay
import Derived.SevenTiedAt
import Derived.Stop.Joined
import Derived.Deep.DeepHandedRow
namespace Go.Proofs.YteemenhinhkonaaDoor.fnPlusLines
open Go.ChangeShapes Go.WideShapes Go.ChangeAt Go.RowKit
open Go.ChangeMaps (open_string)

theorem own : ownKnob Tryd.prog.godebug = none := by kernel_rfl
theorem laidOut : laidOutB Tryd.prog = true := by kernel_rfl
theorem var_below {W W' : World} {n : String} {g : Nat} {cs : Array Value} (hg : Tryd.prog.globalNamed n = some g) (hb : Below W.heap.size W W') (h : W.var? Tryd.prog n = some cs) : W'.var? Tryd.prog n = some cs := by
  have hlt : g < W.heap.size := by
    simp only [World.var?, hg, Option.bind_some] at h
    rcases Nat.lt_or_ge g W.heap.size with h1 | h1
    · exact h1
    · rw [Array.getElem?_eq_none h1] at h
      cases h
  simp only [World.var?, hg, Option.bind_some] at h ⊢
  rw [hb.block g hlt]
  exact h

theorem bulk_part {H : Type} {d : DataW H} : ∀ {l : List (DataW H)}, d ∈ l → Rows.uptoBulk d ≤ Rows.uptoBulkAll l := by
  intro l
  induction l with
  | nil => intro h; cases h
  | cons x r ih =>
    intro h
    simp only [Rows.uptoBulkAll]
    rcases List.mem_cons.1 h with rfl | h
    · omega
    · have := ih h
      omega
theorem bulk_string {H : Type} {l : List (DataW H)} {s : ByteArray} (hk : Rows.uptoSmall H l = true) (h : DataW.lit (.string s.data.toList) ∈ l) : s.size ≤ 1048576 := by
  have h1 := bulk_part h
  have h2 : Rows.uptoBulkAll l ≤ 1048576 := of_decide_eq_true hk
  simp only [Rows.uptoBulk] at h1
  have h3 : s.data.toList.length = s.size := by simp
  omega

set_option maxRecDepth 100000 in
theorem contract (H : Type) (enc : TypeId × Value → H) (W : World) (args : Array Value) (ds gs : List (DataW H)) (before : List MemPlace)
    (base : Nat) (hval : ∀ (j : Nat) t v, Tryd.f5.params[j]? = some t → args[j]? = some v → Value.okWide Tryd.prog W .any base t v)
    (hW : DataW.Whole enc Tryd.prog Tryd.f5.params.toList Rows.fnPlusLinesSpec.vars false W args.toList ds gs before)
    (hk : Rows.uptoSmall H (ds ++ gs) = true) (hL : laidMetH Tryd.prog Rows.fnPlusLinesUptoRow.laid W) :
    Calls Tryd.prog 5 args W fun e W' => ∃ v, e = .returned v ∧ Rows.fnPlusLinesSpec.post enc Tryd.prog Tryd.f5 false true false false W args v W' := by
  have hW' := hW
  obtain ⟨pp, qq, hA0, hV0, rfl, hfz, hnd⟩ := hW
  have hA : DataW.TrodAll enc Tryd.prog W 0 (fun _ => true) true Tryd.f5.params.toList args.toList ds pp := hA0
  have hV : DataW.TrodVars enc Tryd.prog W (fun _ => true) ["loop.example/pub-linesandtags/pub/constraint.errComplex", "loop.example/pub-linesandtags/pub/constraint.errNotConstraint"] gs qq := hV0
  rw [Tryd.params5] at hA hval
  obtain ⟨v0, vs0, d0, ds0, p0, q0, hargs, rfl, rfl, h0, r0⟩ := trodAll_cons hA
  obtain ⟨rfl, rfl, rfl⟩ := trodAll_nil r0
  obtain rfl : args = #[v0] := by cases args; simp_all
  obtain ⟨g0, t0, cs0, f0, e0, u0, g1, t1, cs1, f1, e1, u1, rfl, hg0, ht0, hv0, hd0, hg1, ht1, hv1, hd1, rfl⟩ := trodVars_two hV
  obtain rfl := Option.some.inj ((show Tryd.prog.globalNamed "loop.example/pub-linesandtags/pub/constraint.errComplex" = some 1 by kernel_rfl).symm.trans hg0)
  obtain rfl := Option.some.inj ((show (Tryd.prog.globals[1]?).map (·.type) = some 65 by kernel_rfl).symm.trans ht0)
  obtain rfl := Option.some.inj ((show Tryd.prog.globalNamed "loop.example/pub-linesandtags/pub/constraint.errNotConstraint" = some 0 by kernel_rfl).symm.trans hg1)
  obtain rfl := Option.some.inj ((show (Tryd.prog.globals[0]?).map (·.type) = some 65 by kernel_rfl).symm.trans ht1)
  obtain ⟨o0, rfl, ho0, rfl, rfl, hc0⟩ := token_of hg0 Tryd.underlying65 hv0 hd0
  obtain ⟨o1, rfl, ho1, rfl, rfl, hc1⟩ := token_of hg1 Tryd.underlying65 hv1 hd1
  have hT : Tabs W := tabs_of_laid hL (by kernel_rfl) (by simp [Rows.fnPlusLinesUptoRow]) (by simp [Rows.fnPlusLinesUptoRow]) (by simp [Rows.fnPlusLinesUptoRow]) (by simp [Rows.fnPlusLinesUptoRow]) (by simp [Rows.fnPlusLinesUptoRow]) (by simp [Rows.fnPlusLinesUptoRow]) (by simp [Rows.fnPlusLinesUptoRow])
  have hE : Errs W := errs_of_laid (r := _) hL (by kernel_rfl)
  have h0k := h0
  obtain ⟨fuel0, hf0⟩ := h0
  have b0 : Rows.uptoBulk d0 ≤ 1048576 := by
    have h1 := Nat.le_trans (bulk_part (show d0 ∈ [d0] ++ [tok enc o0, tok enc o1] by simp)) (of_decide_eq_true hk)
    exact h1
  obtain ⟨c00, c01, c02, e0, hcs0, hE0, hS0⟩ := EIs_of_bulk fuel0 fuel0 (Nat.le_refl _) _ _ hf0 b0
  obtain rfl : v0 = .agg #[c00, c01, c02] := agg_of_cells hcs0
  have hlt0 : ∀ x ∈ p0, x.block < W.heap.size := fun x hx => hW'.lt x (by simp [hx])
  clear hA0 hV0
  refine (fnPlusLines_any fuel0 e0 c00 c01 c02 W hE0 hS0 hT hE).mono fun en W' ⟨he, hb⟩ => ?_
  subst he
  refine ⟨_, rfl, [d0], [tok enc o0, tok enc o1], _, [], p0, _, hW', trodAll_cons_mk (shut_bool Tryd.underlying4 true) trodAll_mk0, ?_, vars_read2 enc hg0 ht0 Tryd.underlying65 (var_below hg0 hb hv0) ho0 hg1 ht1 Tryd.underlying65 (var_below hg1 hb hv1) ho1 _, hb.frame _, fun h => by cases h⟩
  have := (trodAll_cons_mk (Below.trod laidOut (by kernel_rfl) (of_decide_eq_true (by kernel_rfl)) h0k hb hlt0) trodAll_mk0)
  simp only [List.append_nil] at this
  exact this

theorem witness_row_shaped {H : Type} {enc : TypeId × Value → H} {C : Checked} {os : Os} {f : FuncId} {fn : Func} {s : OpenSpec} {conds : List PathCond} {apart : Bool} {laid : List (String × DataW Unit)} (modest : Bool) (w0 : World) (args : Array Value) (hos : w0.os = os)
    (hsh : (w0.forCall (fun _ _ => 0) ⟨#[], args, []⟩).Shaped C.prog) (hok : Input.okWideB C.prog (w0.forCall (fun _ _ => 0) ⟨#[], args, []⟩) f ⟨#[], args, []⟩ = true)
    (hrow : s.preRow enc C.prog fn conds apart laid (w0.forCall (fun _ _ => 0) ⟨#[], args, []⟩).memory args) :
    ∃ (w : World) (tape : Tape) (i : Input), w.os = os ∧ (w.forCall tape i).Shaped C.prog ∧ i.vars = [] ∧ Input.okWide C.prog (w.forCall tape i) .any w.heap.size f i ∧
      s.preRow enc C.prog fn conds apart laid (w.forCall tape i).memory i.args ∧ ({ modest := modest } : Assume).holds C.prog (lone (Frame.enter C.prog f i.args .normal) [] (w.forCall tape i)) :=
  ⟨w0, fun _ _ => 0, ⟨#[], args, []⟩, hos, hsh, (Input.okWide_of_okWideB (base := 0) hok).1, (Input.okWide_of_okWideB hok).2, hrow, by
    simp only [Assume.holds]
    exact ⟨by simp, by simp, fun _ => Modest.zero, by simp, by simp⟩⟩

set_option maxRecDepth 100000 in
theorem met (os : Os) (H : Type) (enc : TypeId × Value → H) : ((DataW.whole enc Tryd.prog ((World.laidAll Tryd.prog os Rows.fnPlusLinesUptoRow.laid).forCall (fun _ _ => 0) ⟨#[], #[.agg #[.int .i64 0, .string ByteArray.empty, .slice none 0 0]], []⟩).memory Tryd.f5.params.toList Rows.fnPlusLinesSpec.vars false #[.agg #[.int .i64 0, .string ByteArray.empty, .slice none 0 0]].toList 8).map fun x => Rows.uptoSmall H (x.1 ++ x.2.1)) = some true := by kernel_rfl
set_option maxRecDepth 100000 in
theorem shaped (os : Os) : ((World.laidAll Tryd.prog os Rows.fnPlusLinesUptoRow.laid).forCall (fun _ _ => 0) ⟨#[], #[.agg #[.int .i64 0, .string ByteArray.empty, .slice none 0 0]], []⟩).Shaped Tryd.prog := World.shaped_of_ZipB (by kernel_rfl) (by kernel_rfl)
set_option maxRecDepth 100000 in
theorem wide (os : Os) : Input.okWideB Tryd.prog ((World.laidAll Tryd.prog os Rows.fnPlusLinesUptoRow.laid).forCall (fun _ _ => 0) ⟨#[], #[.agg #[.int .i64 0, .string ByteArray.empty, .slice none 0 0]], []⟩) 5 ⟨#[], #[.agg #[.int .i64 0, .string ByteArray.empty, .slice none 0 0]], []⟩ = true := by kernel_rfl

set_option maxRecDepth 100000 in
theorem lifted (os : Os) (started : os.Started) (H : Type) (enc : TypeId × Value → H) (F : Stop.Interp) :
    ReturnsInHanded {} Tryd.checked os 5 .any ((Rows.OpenSpec.upto Rows.fnPlusLinesSpec).preRow enc Tryd.prog Tryd.f5 Rows.fnPlusLinesUptoRow.domain false Rows.fnPlusLinesUptoRow.laid) (((Rows.OpenSpec.upto Rows.fnPlusLinesSpec).at F).post enc Tryd.prog Tryd.f5 false true false false) := by
  obtain ⟨x, hx, hu⟩ := Option.map_eq_some_iff.1 (met os H enc)
  refine returnsInHanded_of_row (C := Tryd.checked) (s := Rows.OpenSpec.upto Rows.fnPlusLinesSpec) own started (by kernel_rfl) Tryd.func5
    (witness_row_shaped (enc := enc) (C := Tryd.checked) false (World.laidAll Tryd.prog os Rows.fnPlusLinesUptoRow.laid) #[.agg #[.int .i64 0, .string ByteArray.empty, .slice none 0 0]] (World.laidAll_os _ _ _)
      (shaped os) (wide os)
      (OpenSpec.preRow_of_cond 8 hx rfl (fun k hk => by cases hk; exact hu) (by kernel_rfl)
        (by rw [MakeChecks.laidMetH_plain _ _ _ (by kernel_rfl)]; exact laidMet_laidAll _ (by kernel_rfl) (by kernel_rfl)))) ?_
  intro W base args ds gs before hval hW _ hcond _ hL _ _
  exact contract H enc W args ds gs before base hval hW (hcond _ rfl) hL
end Go.Proofs.YteemenhinhkonaaDoor.fnPlusLines
