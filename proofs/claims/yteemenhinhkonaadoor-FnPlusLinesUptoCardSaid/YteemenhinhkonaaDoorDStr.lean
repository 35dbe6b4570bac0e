/- Strings as lists of bytes, and lines of a text: plain definitions. Nothing of the program is in it. -/
import Derived.Test.YteemenhinhkonaaDoorBase
import Derived.Test.YteemenhinhkonaaDoorStr
namespace Go.Proofs.YteemenhinhkonaaDoor
open Go.RowKit

theorem mkB_inj {a b : List UInt8} (h : mkB a = mkB b) : a = b := by rw [← mkB_toList a, h, mkB_toList]
theorem size_len (s : ByteArray) : s.data.toList.length = s.size := by simp
theorem extract_mkB (s : ByteArray) (i j : Nat) : s.extract i j = mkB ((s.data.toList.take j).drop i) := by
  apply toList_inj
  rw [ByteArray.toList_eq, ByteArray.toList_eq, mkB_toList]
  simp [List.take_drop]
  rcases Nat.le_total i j with h | h
  · rw [show i + (j - i) = j by omega]
  · rw [show i + (j - i) = i by omega, List.drop_of_length_le (by simp; omega), List.drop_of_length_le (by simp; omega)]

/- lines: those that end, and what stands behind the last newline -/
def stp (p : List (List UInt8) × List UInt8) (c : UInt8) : List (List UInt8) × List UInt8 := if c = 10 then (p.1 ++ [p.2 ++ [c]], []) else (p.1, p.2 ++ [c])
def spl (l : List UInt8) : List (List UInt8) × List UInt8 := l.foldl stp ([], [])
def lns (l : List UInt8) : List (List UInt8) := (spl l).1 ++ if (spl l).2 = [] then [] else [(spl l).2]
theorem spl_snoc (l : List UInt8) (c : UInt8) : spl (l ++ [c]) = stp (spl l) c := by unfold spl; rw [List.foldl_append]; rfl
theorem snoc_ind {P : List UInt8 → Prop} (h0 : P []) (h1 : ∀ l c, P l → P (l ++ [c])) (l : List UInt8) : P l := by
  have key : ∀ m : List UInt8, P m.reverse := by
    intro m
    induction m with
    | nil => exact h0
    | cons c m ih => rw [List.reverse_cons]; exact h1 _ _ ih
  have := key l.reverse
  rwa [List.reverse_reverse] at this
theorem spl_flat (l : List UInt8) : (spl l).1.flatten ++ (spl l).2 = l := by
  induction l using snoc_ind with
  | h0 => rfl
  | h1 l c ih =>
    rw [spl_snoc]
    unfold stp
    split
    · simp
      rw [← List.append_assoc, ih]
    · simp
      rw [← List.append_assoc, ih]
theorem spl_no10 (l : List UInt8) : 10 ∉ (spl l).2 := by
  induction l using snoc_ind with
  | h0 => simp [spl]
  | h1 l c ih =>
    rw [spl_snoc]
    unfold stp
    split
    · simp
    · rename_i h
      simp only [List.mem_append, List.mem_singleton, not_or]
      exact ⟨ih, fun h2 => h h2.symm⟩
theorem spl_ends (l : List UInt8) : ∀ x ∈ (spl l).1, ∃ y, x = y ++ [10] ∧ 10 ∉ y := by
  induction l using snoc_ind with
  | h0 => intro x hx; simp [spl] at hx
  | h1 l c ih =>
    rw [spl_snoc]
    unfold stp
    split
    · rename_i h
      intro x hx
      rcases List.mem_append.1 hx with hx | hx
      · exact ih x hx
      · rw [List.mem_singleton] at hx
        exact ⟨(spl l).2, by rw [hx, h], spl_no10 l⟩
    · exact ih
theorem spl_len (l : List UInt8) : (spl l).1.length + (spl l).2.length ≤ l.length := by
  induction l using snoc_ind with
  | h0 => simp [spl]
  | h1 l c ih =>
    rw [spl_snoc]
    unfold stp
    split <;> simp <;> omega
theorem lns_len (l : List UInt8) : (lns l).length ≤ l.length := by
  have := spl_len l
  unfold lns
  split
  · simp; omega
  · rename_i h
    have : 0 < (spl l).2.length := List.length_pos_iff.2 h
    simp
    omega
/- the piece that is cut at a newline -/
theorem spl_cut (l : List UInt8) (k : Nat) : (l.take k).drop (k - (spl (l.take k)).2.length) = (spl (l.take k)).2 ∨ l.length < k := by
  rcases Nat.lt_or_ge l.length k with h | h
  · exact .inr h
  · left
    have hf := spl_flat (l.take k)
    have hl := congrArg List.length hf
    rw [List.length_append, List.length_take, Nat.min_eq_left h] at hl
    obtain ⟨a, ha⟩ : ∃ a, a = (spl (l.take k)).1.flatten := ⟨_, rfl⟩
    obtain ⟨b, hb⟩ : ∃ b, b = (spl (l.take k)).2 := ⟨_, rfl⟩
    rw [← ha, ← hb] at hf hl
    rw [← hb, ← hf, show k - b.length = a.length by omega]
    simp
theorem lns_pos {l : List UInt8} (x : List UInt8) (h : x ∈ lns l) : x ≠ [] := by
  unfold lns at h
  rcases List.mem_append.1 h with h | h
  · obtain ⟨y, rfl, _⟩ := spl_ends l x h
    simp
  · split at h
    · cases h
    · rename_i hne
      rw [List.mem_singleton] at h
      rw [h]
      exact hne
theorem lns_flat (l : List UInt8) : (lns l).flatten = l := by
  have := spl_flat l
  unfold lns
  split
  · rename_i h
    rw [h] at this
    simpa using this
  · simpa using this
end Go.Proofs.YteemenhinhkonaaDoor
