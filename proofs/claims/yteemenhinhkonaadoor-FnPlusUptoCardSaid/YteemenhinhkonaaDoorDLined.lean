/- laws.lined: it says yes only of a text without a newline. -/
import Derived.Test.YteemenhinhkonaaDoorProg
import Derived.Test.YteemenhinhkonaaDoorDLines
namespace Go.Proofs.YteemenhinhkonaaDoor
open Go.RowKit

theorem lined_no10 {l : List UInt8} {c : UInt8} (hc : c ≠ 10) (h : (lns (l ++ [c])).length = 1) : 10 ∉ l := by
  have e : spl (l ++ [c]) = ((spl l).1, (spl l).2 ++ [c]) := by rw [spl_snoc]; unfold stp; rw [if_neg hc]
  unfold lns at h
  rw [e] at h
  simp at h
  have hf := spl_flat l
  rw [h] at hf
  rw [← hf]
  simpa using spl_no10 l
theorem lined_yes {l : List UInt8} {c : UInt8} (hc : c ≠ 10) (h : 10 ∉ l) : (lns (l ++ [c])).length = 1 := by
  have e : spl (l ++ [c]) = ((spl l).1, (spl l).2 ++ [c]) := by rw [spl_snoc]; unfold stp; rw [if_neg hc]
  have h1 : (spl l).1 = [] := by
    cases hs : (spl l).1 with
    | nil => rfl
    | cons x xs =>
      exfalso
      obtain ⟨y, hy, _⟩ := spl_ends l x (by rw [hs]; simp)
      have hf := spl_flat l
      apply h
      rw [← hf, hs, hy]
      simp
  unfold lns
  rw [e, h1]
  simp
def LinedPost (l : List UInt8) (w : World) (en : Ending) (w' : World) : Prop := ∃ b, en = .returned (.bool b) ∧ Below w.heap.size w w' ∧ (b = true ↔ 10 ∉ l)
set_option maxHeartbeats 1000000 in
theorem lined_any (s : ByteArray) (w : World) (hs : s.size ≤ 549755813888) : Calls Tryd.prog 37 #[.string s] w (LinedPost s.data.toList w) := by
  have e1 : (ByteArray.mk #[120]).size = 1 := rfl
  have s1 := fun w => run_string_add_sum (P := Tryd.prog) w s { data := #[120] } (by rw [e1]; omega)
  have hsz : (s ++ ByteArray.mk #[120]).size ≤ 1099511627776 := by rw [ByteArray.size_append, e1]; omega
  have hd : (s ++ ByteArray.mk #[120]).data.toList = s.data.toList ++ [120] := by simp [ByteArray.data_append]
  have HD := Lib.hid hd
  have HZ := Lib.hid hsz
  clear e1 hd hsz
  go_enter Tryd.func37, Tryd.ntmps37
  go_wp2_with fail
  refine (lines_any _ w HZ.out).mono ?_
  rw [HD.out]
  rintro e1 w1 ⟨v, rfl, hrow⟩
  obtain ⟨pv, cv, rfl⟩ := ownsRow_slice hrow.1
  have HB := Lib.hid hrow.2
  obtain ⟨n, hn⟩ : ∃ n, n = (lns (s.data.toList ++ [120])).length := ⟨_, rfl⟩
  have hnl : n ≤ s.size + 1 := by rw [hn]; have := lns_len (s.data.toList ++ [120]); simp at this; have h2 : s.data.size = s.size := rfl; omega
  rw [← hn]
  have HN := Lib.hid hn
  clear hrow hn s1
  by_cases h1 : n = 1
  · subst h1
    go_wp2_with fail
    go_ret
    exact ⟨true, rfl, HB.out, fun _ => lined_no10 (by decide) HN.out.symm, fun _ => rfl⟩
  · have hne : ((n : Int) == 1) = false := by simp; omega
    go_wp2_with fail
    go_ret
    exact ⟨false, ret_bool (by first | rfl | (simp; omega)), HB.out, (fun h => by cases h), fun h => absurd (HN.out.trans (lined_yes (by decide) h)) h1⟩
end Go.Proofs.YteemenhinhkonaaDoor
