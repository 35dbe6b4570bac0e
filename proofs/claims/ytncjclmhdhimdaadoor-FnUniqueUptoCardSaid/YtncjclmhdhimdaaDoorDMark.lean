/- Lines as the package takes them: one without a newline bears a remark behind it. Plain definitions. -/
import Derived.Test.YtncjclmhdhimdaaDoorDStr
namespace Go.Proofs.YtncjclmhdhimdaaDoor

def nonl : List UInt8 := [10, 92, 32, 78, 111, 32, 110, 101, 119, 108, 105, 110, 101, 32, 97, 116, 32, 101, 110, 100, 32, 111, 102, 32, 102, 105, 108, 101, 10]
def mark (x : List UInt8) : List UInt8 := if 10 ∈ x then x else x ++ nonl
def dl (l : List UInt8) : List (List UInt8) := (spl l).1 ++ if (spl l).2 = [] then [] else [(spl l).2 ++ nonl]
theorem dl_eq (l : List UInt8) : dl l = (lns l).map mark := by
  unfold dl lns
  rw [List.map_append]
  congr 1
  · conv => lhs; rw [← List.map_id (spl l).1]
    apply List.map_congr_left
    intro x hx
    obtain ⟨y, rfl, _⟩ := spl_ends l x hx
    unfold mark
    simp
  · split
    · rfl
    · simp [mark, spl_no10 l]
theorem dl_len (l : List UInt8) : (dl l).length = (lns l).length := by rw [dl_eq]; simp
/- a line: it ends with its one newline, or has none and is not empty -/
def isLine (x : List UInt8) : Prop := (∃ y, x = y ++ [10] ∧ 10 ∉ y) ∨ (10 ∉ x ∧ x ≠ [])
theorem lns_line {l x : List UInt8} (h : x ∈ lns l) : isLine x := by
  unfold lns at h
  rcases List.mem_append.1 h with h | h
  · exact .inl (spl_ends l x h)
  · split at h
    · cases h
    · rename_i hne
      rw [List.mem_singleton] at h
      subst h
      exact .inr ⟨spl_no10 l, hne⟩
theorem count_of_not {y : List UInt8} (h : 10 ∉ y) : y.count 10 = 0 := List.count_eq_zero.2 h
theorem mark_inj {x y : List UInt8} (hx : isLine x) (hy : isLine y) (h : mark x = mark y) : x = y := by
  have cn : nonl.count 10 = 2 := by decide
  rcases hx with ⟨a, rfl, ha⟩ | ⟨hx, _⟩
  · rcases hy with ⟨b, rfl, hb⟩ | ⟨hy, _⟩
    · unfold mark at h
      simpa using h
    · exfalso
      have := congrArg (List.count 10) h
      unfold mark at this
      rw [if_pos (by simp), if_neg hy, List.count_append, List.count_append, count_of_not ha, count_of_not hy, cn] at this
      simp at this
  · rcases hy with ⟨b, rfl, hb⟩ | ⟨hy, _⟩
    · exfalso
      have := congrArg (List.count 10) h
      unfold mark at this
      rw [if_neg hx, if_pos (by simp), List.count_append, List.count_append, count_of_not hb, count_of_not hx, cn] at this
      simp at this
    · unfold mark at h
      rw [if_neg hx, if_neg hy] at h
      exact List.append_cancel_right h
theorem mark_len (x : List UInt8) : (mark x).length ≤ x.length + 29 := by
  unfold mark
  split
  · omega
  · simp [nonl]
theorem dl_pos {l x : List UInt8} (h : x ∈ dl l) : ∃ y, x = y ++ [10] := by
  rw [dl_eq] at h
  obtain ⟨z, hz, rfl⟩ := List.mem_map.1 h
  rcases lns_line hz with ⟨y, rfl, _⟩ | ⟨h1, _⟩
  · exact ⟨y, by unfold mark; rw [if_pos (by simp)]⟩
  · exact ⟨z ++ [10, 92, 32, 78, 111, 32, 110, 101, 119, 108, 105, 110, 101, 32, 97, 116, 32, 101, 110, 100, 32, 111, 102, 32, 102, 105, 108, 101], by unfold mark; rw [if_neg h1]; simp [nonl]⟩
end Go.Proofs.YtncjclmhdhimdaaDoor
