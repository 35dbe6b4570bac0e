/- FnUnique: from the walk to what the row of the second form asks of a call. -/
import Derived.Test.YtncjclmhdhimdaaDoorRows
import Derived.Test.YtncjclmhdhimdaaDoorFnUnique
import Derived.Test.YtncjclmhdhimdaaDoorDTabIn
import Derived.ProofKit
import Derived.SizedLaws
import Derived.OpenShut
import Derived.ChangeMaps5
import Derived.Stop.LaidErr
namespace Go.Proofs.YtncjclmhdhimdaaDoor.fnUnique
open Go.ChangeShapes Go.WideShapes Go.ChangeAt Go.RowKit
open Go.ChangeMaps (open_string)

theorem own : ownKnob Tryd.prog.godebug = none := by kernel_rfl
theorem laidOut : laidOutB Tryd.prog = true := by kernel_rfl

theorem bulk_part {H : Type} {d : DataW H} : ∀ {l : List (DataW H)}, d ∈ l → Rows.uptoBulk d ≤ Rows.uptoBulkAll l := by
  intro l
  induction l with
  | nil => intro h; cases h
  | cons x r ih =>
    intro h
    simp only [Rows.uptoBulkAll]
    rcases List.mem_cons.1 h with rfl | h
    · omega
    · have := ih h
      omega
theorem bulk_string {H : Type} {l : List (DataW H)} {s : ByteArray} (hk : Rows.uptoSmall H l = true) (h : DataW.lit (.string s.data.toList) ∈ l) : s.size ≤ 1048576 := by
  have h1 := bulk_part h
  have h2 : Rows.uptoBulkAll l ≤ 1048576 := of_decide_eq_true hk
  simp only [Rows.uptoBulk] at h1
  have h3 : s.data.toList.length = s.size := by simp
  omega

set_option maxRecDepth 100000 in
theorem contract (H : Type) (enc : TypeId × Value → H) (W : World) (args : Array Value) (ds gs : List (DataW H)) (before : List MemPlace)
    (base : Nat) (hval : ∀ (j : Nat) t v, Tryd.f12.params[j]? = some t → args[j]? = some v → Value.okWide Tryd.prog W .any base t v)
    (hW : DataW.Whole enc Tryd.prog Tryd.f12.params.toList Rows.fnUniqueSpec.vars false W args.toList ds gs before)
    (hk : Rows.uptoSmall H (ds ++ gs) = true) (hL : laidMetH Tryd.prog Rows.fnUniqueUptoRow.laid W) :
    Calls Tryd.prog 12 args W fun e W' => ∃ v, e = .returned v ∧ Rows.fnUniqueSpec.post enc Tryd.prog Tryd.f12 false true false false W args v W' := by
  have hW' := hW
  obtain ⟨pp, qq, hA0, hV0, rfl, hfz, hnd⟩ := hW
  have hA : DataW.TrodAll enc Tryd.prog W 0 (fun _ => true) true Tryd.f12.params.toList args.toList ds pp := hA0
  rw [Tryd.params12] at hA hval
  obtain ⟨v0, vs0, d0, ds0, p0, q0, hargs, rfl, rfl, h0, r0⟩ := trodAll_cons hA
  obtain ⟨v1, vs1, d1, ds1, p1, q1, rfl, rfl, rfl, h1, r1⟩ := trodAll_cons r0
  obtain ⟨rfl, rfl, rfl⟩ := trodAll_nil r1
  obtain rfl : args = #[v0, v1] := by cases args; simp_all
  have h0k := h0
  obtain ⟨s, rfl, rfl, rfl, -⟩ := open_string Tryd.underlying9 (hval 0 9 v0 rfl rfl) h0
  have h1k := h1
  obtain ⟨r, rfl, rfl, rfl, -⟩ := open_string Tryd.underlying9 (hval 1 9 v1 rfl rfl) h1
  have b0 : s.size ≤ 1048576 := bulk_string hk (by simp)
  have b1 : r.size ≤ 1048576 := bulk_string hk (by simp)
  obtain ⟨rfl, rfl⟩ := trodVars_none hV0
  have hlt : ∀ x ∈ ([] : List MemPlace), x.block < W.heap.size := fun x hx => by cases hx
  clear hA0 hV0
  refine (fnUnique_any s r W (by omega) (by omega) (tab_of_laid hL (by kernel_rfl) (by simp [Rows.fnUniqueUptoRow]))).mono fun en W' ⟨he, hb⟩ => ?_
  subst he
  refine ⟨_, rfl, [.lit (.string s.data.toList), .lit (.string r.data.toList)], [], _, [], [], _, hW', trodAll_cons_mk (shut_bool Tryd.underlying4 true) trodAll_mk0, ?_, rfl, hb.frame _, fun h => by cases h⟩
  have := (trodAll_cons_mk (Below.trod laidOut (by kernel_rfl) (of_decide_eq_true (by kernel_rfl)) h0k hb hlt) (trodAll_cons_mk (Below.trod laidOut (by kernel_rfl) (of_decide_eq_true (by kernel_rfl)) h1k hb hlt) trodAll_mk0))
  simp only [List.append_nil] at this
  exact this
end Go.Proofs.YtncjclmhdhimdaaDoor.fnUnique
