/- Tokens once more: a greater bound reads what a lesser one reads; blanks around a text change nothing. Nothing of the program is in it. -/
import Derived.Test.YteemenhinhkonaaDoorTok
namespace Go.Proofs.YteemenhinhkonaaDoor

/- more bound reads what less reads -/
def LeG (p q : GP) : Prop := ∀ z ts r, p z ts = some r → q z ts = some r
theorem atom_leG {p q : GP} (h : LeG p q) : LeG (gAtom p) (gAtom q) := by
  intro z ts r ha
  cases ts with
  | nil => cases ha
  | cons t ts =>
    cases t with
    | sym c =>
      rw [gAtom_sym] at ha ⊢
      by_cases hc : c = 40
      · rw [if_pos hc] at ha ⊢
        cases hp : p z ts with
        | none => rw [hp] at ha; cases ha
        | some a =>
          rw [h z ts a hp]
          rw [hp] at ha
          exact ha
      · rw [if_neg hc] at ha
        cases ha
    | op c => cases ha
    | tag t => exact ha
    | err => cases ha
theorem not_leG {p q : GP} (h : LeG p q) : LeG (gNot p) (gNot q) := by
  intro z ts r ha
  unfold gNot at ha ⊢
  by_cases h1 : 1000 < z + 1
  · rw [if_pos h1] at ha; cases ha
  · rw [if_neg h1] at ha ⊢
    by_cases h2 : bangB ts = true
    · rw [if_pos h2] at ha ⊢
      by_cases h3 : bangB ts.tail = true
      · rw [if_pos h3] at ha; cases ha
      · rw [if_neg h3] at ha ⊢
        cases hp : gAtom p (z + 1) ts.tail with
        | none => rw [hp] at ha; cases ha
        | some a =>
          rw [atom_leG h _ _ a hp]
          rw [hp] at ha
          exact ha
    · rw [if_neg h2] at ha ⊢
      exact atom_leG h _ _ _ ha
theorem loop_leG {c : UInt8} {mk : Ex → Ex → Ex} {p q : GP} (h : LeG p q) : ∀ k x z ts r, gLoop c mk p k x z ts = some r → gLoop c mk q k x z ts = some r := by
  intro k
  induction k with
  | zero => intro x z ts r ha; exact ha
  | succ k ih =>
    intro x z ts r ha
    unfold gLoop at ha ⊢
    by_cases h1 : headOp c ts = true
    · rw [if_pos h1] at ha ⊢
      cases hp : p z ts.tail with
      | none => rw [hp] at ha; cases ha
      | some a =>
        rw [h _ _ a hp]
        rw [hp] at ha
        exact ih _ _ _ _ ha
    · rw [if_neg h1] at ha ⊢
      exact ha
theorem seq_leG {c : UInt8} {mk : Ex → Ex → Ex} {p q : GP} (h : LeG p q) : LeG (gSeq c mk p) (gSeq c mk q) := by
  intro z ts r ha
  unfold gSeq at ha ⊢
  cases hp : p z ts with
  | none => rw [hp] at ha; cases ha
  | some a =>
    rw [h _ _ a hp]
    rw [hp] at ha
    exact loop_leG h _ _ _ _ _ ha
theorem gO_step (n : Nat) : LeG (gO n) (gO (n + 1)) := by
  induction n with
  | zero => intro z ts r h; cases h
  | succ n ih => exact seq_leG (seq_leG (not_leG ih))
theorem gO_le {n m : Nat} (h : n ≤ m) : LeG (gO n) (gO m) := by
  induction m with
  | zero => obtain rfl : n = 0 := by omega
            exact fun z ts r h => h
  | succ m ih =>
    by_cases hm : n = m + 1
    · subst hm; exact fun z ts r h => h
    · exact fun z ts r hr => gO_step m z ts r (ih (by omega) z ts r hr)
theorem gOr_le {n m : Nat} (h : n ≤ m) : LeG (gOr (gO n)) (gOr (gO m)) := gO_le (n := n + 1) (m := m + 1) (by omega)

/- blanks behind a text change nothing -/
theorem skipL_app {a x : List UInt8} (ha : a.all blankB = true) : skipL (a ++ x) = skipL x := by
  induction a with
  | nil => rfl
  | cons c a ih =>
    simp only [List.all_cons, Bool.and_eq_true] at ha
    rw [List.cons_append, skipL, List.dropWhile_cons, if_pos ha.1]
    exact ih ha.2
theorem skipL_behind {l b : List UInt8} (hb : b.all blankB = true) : skipL (l ++ b) = match skipL l with | [] => [] | a :: r => a :: (r ++ b) := by
  induction l with
  | nil =>
    have := skipL_app (x := []) hb
    rw [List.append_nil] at this
    rw [List.nil_append, this]
    rfl
  | cons c l ih =>
    rw [List.cons_append, skipL, List.dropWhile_cons]
    by_cases hc : blankB c = true
    · rw [if_pos hc]
      have e : skipL (c :: l) = skipL l := by rw [skipL, List.dropWhile_cons, if_pos hc]; rfl
      rw [e]
      exact ih
    · rw [if_neg hc]
      have e : skipL (c :: l) = c :: l := by rw [skipL, List.dropWhile_cons, if_neg hc]
      rw [e]
theorem blank_notag {c : UInt8} (h : blankB c = true) : tagB c = false ∧ c ≠ 38 ∧ c ≠ 124 := by
  unfold blankB at h
  rw [Bool.or_eq_true, beq_iff_eq, beq_iff_eq] at h
  rcases h with rfl | rfl <;> decide
theorem while_behind {l b : List UInt8} (hb : b.all blankB = true) : (l ++ b).takeWhile tagB = l.takeWhile tagB ∧ (l ++ b).dropWhile tagB = l.dropWhile tagB ++ b := by
  induction l with
  | nil =>
    cases b with
    | nil => exact ⟨rfl, rfl⟩
    | cons c b =>
      simp only [List.all_cons, Bool.and_eq_true] at hb
      have := (blank_notag hb.1).1
      simp [this]
  | cons c l ih =>
    rw [List.cons_append, List.takeWhile_cons, List.dropWhile_cons, List.takeWhile_cons, List.dropWhile_cons]
    by_cases hc : tagB c = true
    · rw [if_pos hc, if_pos hc, if_pos hc, if_pos hc, ih.1]
      exact ⟨rfl, ih.2⟩
    · rw [if_neg hc, if_neg hc, if_neg hc, if_neg hc]
      exact ⟨rfl, rfl⟩
theorem tA_behind (b : List UInt8) (hb : b.all blankB = true) : ∀ k (l : List UInt8), l.length ≤ k → tA (l ++ b) = tA l := by
  intro k
  induction k with
  | zero =>
    intro l hk
    obtain rfl : l = [] := List.eq_nil_of_length_eq_zero (by omega)
    have := skipL_app (x := []) hb
    rw [List.append_nil] at this
    exact (toks_nil (by rw [List.nil_append, this]; rfl)).trans (toks_nil rfl).symm
  | succ k ih =>
    intro l hk
    have hs := skipL_length l
    have hb2 := skipL_behind (l := l) hb
    cases hl : skipL l with
    | nil =>
      rw [hl] at hb2
      exact (toks_nil hb2).trans (toks_nil hl).symm
    | cons a r =>
      rw [hl] at hb2 hs
      simp only [List.length_cons] at hs
      by_cases h1 : symB a = true
      · rw [show tA (l ++ b) = .sym a :: tA (r ++ b) from toks_sym hb2 h1, show tA l = .sym a :: tA r from toks_sym hl h1, ih r (by omega)]
      · rw [Bool.not_eq_true] at h1
        by_cases h2 : opB a = true
        · cases r with
          | nil =>
            have e1 : tA l = [.err] := toks_opbad hl h2 (by simp)
            rw [e1]
            refine toks_opbad hb2 h2 ?_
            rw [List.nil_append]
            cases b with
            | nil => simp
            | cons c b =>
              simp only [List.all_cons, Bool.and_eq_true] at hb
              have hn := blank_notag hb.1
              rw [List.head?_cons]
              intro e
              injection e with e
              subst e
              unfold opB at h2
              rw [Bool.or_eq_true, beq_iff_eq, beq_iff_eq] at h2
              rcases h2 with h2 | h2
              · exact hn.2.1 h2
              · exact hn.2.2 h2
          | cons c r =>
            by_cases h3 : c = a
            · subst h3
              rw [show tA (l ++ b) = .op c :: tA (r ++ b) from toks_op hb2 h2, show tA l = .op c :: tA r from toks_op hl h2, ih r (by simp at hs; omega)]
            · have e1 : tA l = [.err] := toks_opbad hl h2 (by simpa using h3)
              rw [e1]
              exact toks_opbad hb2 h2 (by simpa using h3)
        · rw [Bool.not_eq_true] at h2
          by_cases h3 : tagB a = true
          · obtain ⟨w1, w2⟩ := while_behind (l := a :: r) hb
            have e2 := tA_tag (l := l ++ b) (r := r ++ b) hb2 h3
            rw [List.cons_append] at w1 w2
            rw [w1, w2] at e2
            rw [e2, tA_tag hl h3, ih]
            rw [List.dropWhile_cons, if_pos h3]
            have := dropWhile_le tagB r
            omega
          · have h3' : tagB a = false := by simpa using h3
            have e1 : tA l = [.err] := toks_none hl h1 h2 (tlA_zero h3')
            rw [e1]
            exact toks_none hb2 h1 h2 (tlA_zero h3')
theorem tA_around {a b l : List UInt8} (ha : a.all blankB = true) (hb : b.all blankB = true) : tA (a ++ (l ++ b)) = tA l := by
  have h1 : tA (a ++ (l ++ b)) = tA (l ++ b) := by
    unfold tA
    rw [← toks_skip, skipL_app ha, toks_skip]
  rw [h1]
  exact tA_behind b hb l.length l (Nat.le_refl _)
end Go.Proofs.YteemenhinhkonaaDoor
