/- FnIsBuild: from the walk to what the row of the second form asks of a call. -/
import Derived.Test.YteemenhinhkonaaDoorRows
import Derived.Test.YteemenhinhkonaaDoorFnIsBuild
import Derived.Test.YteemenhinhkonaaDoorTabsIn
import Derived.Test.YteemenhinhkonaaDoorErrsIn
import Derived.ProofKit
import Derived.SizedLaws
import Derived.OpenShut
import Derived.ChangeMaps5
import Derived.Stop.LaidErr
namespace Go.Proofs.YteemenhinhkonaaDoor.fnIsBuild
open Go.ChangeShapes Go.WideShapes Go.ChangeAt Go.RowKit
open Go.ChangeMaps (open_string)

theorem own : ownKnob Tryd.prog.godebug = none := by kernel_rfl
theorem laidOut : laidOutB Tryd.prog = true := by kernel_rfl
theorem var_below {W W' : World} {n : String} {g : Nat} {cs : Array Value} (hg : Tryd.prog.globalNamed n = some g) (hb : Below W.heap.size W W') (h : W.var? Tryd.prog n = some cs) : W'.var? Tryd.prog n = some cs := by
  have hlt : g < W.heap.size := by
    simp only [World.var?, hg, Option.bind_some] at h
    rcases Nat.lt_or_ge g W.heap.size with h1 | h1
    · exact h1
    · rw [Array.getElem?_eq_none h1] at h
      cases h
  simp only [World.var?, hg, Option.bind_some] at h ⊢
  rw [hb.block g hlt]
  exact h

theorem bulk_part {H : Type} {d : DataW H} : ∀ {l : List (DataW H)}, d ∈ l → Rows.uptoBulk d ≤ Rows.uptoBulkAll l := by
  intro l
  induction l with
  | nil => intro h; cases h
  | cons x r ih =>
    intro h
    simp only [Rows.uptoBulkAll]
    rcases List.mem_cons.1 h with rfl | h
    · omega
    · have := ih h
      omega
theorem bulk_string {H : Type} {l : List (DataW H)} {s : ByteArray} (hk : Rows.uptoSmall H l = true) (h : DataW.lit (.string s.data.toList) ∈ l) : s.size ≤ 1048576 := by
  have h1 := bulk_part h
  have h2 : Rows.uptoBulkAll l ≤ 1048576 := of_decide_eq_true hk
  simp only [Rows.uptoBulk] at h1
  have h3 : s.data.toList.length = s.size := by simp
  omega

set_option maxRecDepth 100000 in
theorem contract (H : Type) (enc : TypeId × Value → H) (W : World) (args : Array Value) (ds gs : List (DataW H)) (before : List MemPlace)
    (base : Nat) (hval : ∀ (j : Nat) t v, Tryd.f12.params[j]? = some t → args[j]? = some v → Value.okWide Tryd.prog W .any base t v)
    (hW : DataW.Whole enc Tryd.prog Tryd.f12.params.toList Rows.fnIsBuildSpec.vars false W args.toList ds gs before)
    (hk : Rows.uptoSmall H (ds ++ gs) = true) (hL : laidMetH Tryd.prog Rows.fnIsBuildUptoRow.laid W) :
    Calls Tryd.prog 12 args W fun e W' => ∃ v, e = .returned v ∧ Rows.fnIsBuildSpec.post enc Tryd.prog Tryd.f12 false true false false W args v W' := by
  have hW' := hW
  obtain ⟨pp, qq, hA0, hV0, rfl, hfz, hnd⟩ := hW
  have hA : DataW.TrodAll enc Tryd.prog W 0 (fun _ => true) true Tryd.f12.params.toList args.toList ds pp := hA0
  have hV : DataW.TrodVars enc Tryd.prog W (fun _ => true) ["loop.example/pub-linesandtags/pub/constraint.errNotConstraint", "loop.example/pub-linesandtags/pub/constraint.errComplex"] gs qq := hV0
  rw [Tryd.params12] at hA hval
  obtain ⟨v0, vs0, d0, ds0, p0, q0, hargs, rfl, rfl, h0, r0⟩ := trodAll_cons hA
  obtain ⟨v1, vs1, d1, ds1, p1, q1, rfl, rfl, rfl, h1, r1⟩ := trodAll_cons r0
  obtain ⟨rfl, rfl, rfl⟩ := trodAll_nil r1
  obtain rfl : args = #[v0, v1] := by cases args; simp_all
  have h0k := h0
  obtain ⟨s, rfl, rfl, rfl, -⟩ := open_string Tryd.underlying9 (hval 0 9 v0 rfl rfl) h0
  have h1k := h1
  obtain ⟨r, rfl, rfl, rfl, -⟩ := open_string Tryd.underlying9 (hval 1 9 v1 rfl rfl) h1
  have b0 : s.size ≤ 1048576 := bulk_string hk (by simp)
  have b1 : r.size ≤ 1048576 := bulk_string hk (by simp)
  obtain ⟨g0, t0, cs0, f0, e0, u0, g1, t1, cs1, f1, e1, u1, rfl, hg0, ht0, hv0, hd0, hg1, ht1, hv1, hd1, rfl⟩ := trodVars_two hV
  obtain rfl := Option.some.inj ((show Tryd.prog.globalNamed "loop.example/pub-linesandtags/pub/constraint.errNotConstraint" = some 0 by kernel_rfl).symm.trans hg0)
  obtain rfl := Option.some.inj ((show (Tryd.prog.globals[0]?).map (·.type) = some 65 by kernel_rfl).symm.trans ht0)
  obtain rfl := Option.some.inj ((show Tryd.prog.globalNamed "loop.example/pub-linesandtags/pub/constraint.errComplex" = some 1 by kernel_rfl).symm.trans hg1)
  obtain rfl := Option.some.inj ((show (Tryd.prog.globals[1]?).map (·.type) = some 65 by kernel_rfl).symm.trans ht1)
  obtain ⟨o0, rfl, ho0, rfl, rfl, hc0⟩ := token_of hg0 Tryd.underlying65 hv0 hd0
  obtain ⟨o1, rfl, ho1, rfl, rfl, hc1⟩ := token_of hg1 Tryd.underlying65 hv1 hd1
  have hT : Tabs W := tabs_of_laid hL (by kernel_rfl) (by simp [Rows.fnIsBuildUptoRow]) (by simp [Rows.fnIsBuildUptoRow]) (by simp [Rows.fnIsBuildUptoRow]) (by simp [Rows.fnIsBuildUptoRow]) (by simp [Rows.fnIsBuildUptoRow]) (by simp [Rows.fnIsBuildUptoRow]) (by simp [Rows.fnIsBuildUptoRow])
  have hE : Errs W := errs_of_laid (r := _) hL (by kernel_rfl)
  have hlt : ∀ x ∈ ([] : List MemPlace), x.block < W.heap.size := fun x hx => by cases hx
  clear hA0 hV0
  refine (fnIsBuild_any s r W (by omega) (by omega) hT hE).mono fun en W' ⟨he, hb⟩ => ?_
  subst he
  refine ⟨_, rfl, [.lit (.string s.data.toList), .lit (.string r.data.toList)], [tok enc o0, tok enc o1], _, [], [], _, hW', trodAll_cons_mk (shut_bool Tryd.underlying4 true) trodAll_mk0, ?_, vars_read2 enc hg0 ht0 Tryd.underlying65 (var_below hg0 hb hv0) ho0 hg1 ht1 Tryd.underlying65 (var_below hg1 hb hv1) ho1 _, hb.frame _, fun h => by cases h⟩
  have := (trodAll_cons_mk (Below.trod laidOut (by kernel_rfl) (of_decide_eq_true (by kernel_rfl)) h0k hb hlt) (trodAll_cons_mk (Below.trod laidOut (by kernel_rfl) (of_decide_eq_true (by kernel_rfl)) h1k hb hlt) trodAll_mk0))
  simp only [List.append_nil] at this
  exact this
end Go.Proofs.YteemenhinhkonaaDoor.fnIsBuild
