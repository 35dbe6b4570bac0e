/- More on tokens: what stands at their head, and that the grammar only takes away. -/
import Derived.Test.YteemenhinhkonaaDoorPar
namespace Go.Proofs.YteemenhinhkonaaDoor

theorem toks_form (tl : List UInt8 → Nat) (l : List UInt8) : toks tl l = [] ∨ (∃ a r, toks tl l = .sym a :: toks tl r ∧ symB a = true) ∨ (∃ a r, toks tl l = .op a :: toks tl r ∧ opB a = true) ∨
    (∃ a t r, toks tl l = .tag (a :: t) :: toks tl r ∧ symB a = false ∧ opB a = false ∧ (a :: t).length ≤ l.length) ∨ toks tl l = [.err] := by
  cases hl : skipL l with
  | nil => exact .inl (toks_nil hl)
  | cons a r =>
    have hlen := skipL_length l
    rw [hl] at hlen
    by_cases h1 : symB a = true
    · exact .inr (.inl ⟨a, r, toks_sym hl h1, h1⟩)
    · rw [Bool.not_eq_true] at h1
      by_cases h2 : opB a = true
      · by_cases h3 : r.head? = some a
        · cases r with
          | nil => cases h3
          | cons b r =>
            obtain rfl : b = a := by simpa using h3
            exact .inr (.inr (.inl ⟨b, r, toks_op hl h2, h2⟩))
        · exact .inr (.inr (.inr (.inr (toks_opbad hl h2 h3))))
      · rw [Bool.not_eq_true] at h2
        by_cases h3 : tl (a :: r) = 0
        · exact .inr (.inr (.inr (.inr (toks_none hl h1 h2 h3))))
        · obtain ⟨m, hm⟩ : ∃ m, tl (a :: r) = m + 1 := ⟨tl (a :: r) - 1, by omega⟩
          have := toks_tag (tl := tl) hl h1 h2 h3
          rw [hm, List.take_succ_cons] at this
          refine .inr (.inr (.inr (.inl ⟨a, r.take m, _, this, h1, h2, ?_⟩)))
          simp only [List.length_cons, List.length_take] at hlen ⊢
          omega
theorem sym_ne_op {a : UInt8} (h : symB a = true) : opB a = false := by
  unfold symB at h
  unfold opB
  rw [Bool.or_eq_true, Bool.or_eq_true, beq_iff_eq, beq_iff_eq, beq_iff_eq] at h
  rcases h with (rfl | rfl) | rfl <;> rfl
/- the text of the head tells the token -/
def isSym (c : UInt8) : List Tok → Bool
  | .sym d :: _ => d == c
  | _ => false
theorem bang_isSym (ts : List Tok) : bangB ts = isSym 33 ts := by
  cases ts with
  | nil => rfl
  | cons t ts => cases t <;> rfl
theorem head_sym (tl : List UInt8 → Nat) (l : List UInt8) (c : UInt8) (hc : symB c = true) : (headText (toks tl l) = [c]) ↔ isSym c (toks tl l) = true := by
  rcases toks_form tl l with h | ⟨a, r, h, _⟩ | ⟨a, r, h, _⟩ | ⟨a, t, r, h, h1, _⟩ | h
  · rw [h]; simp [headText, isSym]
  · rw [h]; simp [headText, isSym]
  · rw [h]; simp [headText, isSym]
  · rw [h]
    simp only [headText, isSym, Bool.false_eq_true, iff_false]
    intro e
    injection e with e1 _
    subst e1
    rw [hc] at h1
    cases h1
  · rw [h]; simp [headText, isSym]
theorem head_op (tl : List UInt8 → Nat) (l : List UInt8) (c : UInt8) (hc : opB c = true) : (headText (toks tl l) = [c, c]) ↔ headOp c (toks tl l) = true := by
  rcases toks_form tl l with h | ⟨a, r, h, _⟩ | ⟨a, r, h, _⟩ | ⟨a, t, r, h, _, h1, _⟩ | h
  · rw [h]; simp [headText, headOp]
  · rw [h]; simp [headText, headOp]
  · rw [h]; simp [headText, headOp]
  · rw [h]
    simp only [headText, headOp, Bool.false_eq_true, iff_false]
    intro e
    injection e with e1 _
    subst e1
    rw [hc] at h1
    cases h1
  · rw [h]; simp [headText, headOp]
theorem head_nil (tl : List UInt8 → Nat) (l : List UInt8) (he : errB (toks tl l) = false) : (headText (toks tl l) = []) ↔ toks tl l = [] := by
  rcases toks_form tl l with h | ⟨a, r, h, _⟩ | ⟨a, r, h, _⟩ | ⟨a, t, r, h, _⟩ | h
  · rw [h]; simp [headText]
  · rw [h]; simp [headText]
  · rw [h]; simp [headText]
  · rw [h]; simp [headText]
  · rw [h] at he; cases he
theorem head_tag (tl : List UInt8 → Nat) (l : List UInt8) (he : headTag (toks tl l) = true) : ∃ r, toks tl l = .tag (headText (toks tl l)) :: toks tl r ∧ (headText (toks tl l)).length ≤ l.length := by
  rcases toks_form tl l with h | ⟨a, r, h, _⟩ | ⟨a, r, h, _⟩ | ⟨a, t, r, h, _, _, hl⟩ | h
  · rw [h] at he; cases he
  · rw [h] at he; cases he
  · rw [h] at he; cases he
  · refine ⟨r, ?_⟩
    rw [h]
    exact ⟨rfl, hl⟩
  · rw [h] at he; cases he
theorem atom_notag (o : GP) (z : Nat) (ts : List Tok) (h : headTag ts = false) (h2 : isSym 40 ts = false) : gAtom o z ts = none := by
  cases ts with
  | nil => rfl
  | cons t ts =>
    cases t with
    | sym c =>
      rw [gAtom_sym, if_neg]
      intro e
      subst e
      simp [isSym] at h2
    | op c => rfl
    | tag t => cases h
    | err => rfl
theorem atom_err (o : GP) (z : Nat) (ts : List Tok) (h : errB ts = true) : gAtom o z ts = none := by
  cases ts with
  | nil => cases h
  | cons t ts => cases t with
    | err => rfl
    | _ => cases h
theorem bang_err {ts : List Tok} (h : errB ts = true) : bangB ts = false := by
  cases ts with
  | nil => cases h
  | cons t ts => cases t with
    | err => rfl
    | _ => cases h

/- what is left is not longer -/
def Less (p : GP) : Prop := ∀ z ts x q z', p z ts = some (x, q, z') → q.length ≤ ts.length
theorem atom_less {o : GP} (h : Less o) : Less (gAtom o) := by
  intro z ts x q z' ha
  unfold gAtom at ha
  split at ha
  · split at ha
    · split at ha
      · rename_i hh
        split at ha
        · simp only [Option.some.injEq, Prod.mk.injEq] at ha
          obtain ⟨_, rfl, _⟩ := ha
          have := h _ _ _ _ _ hh
          simp at this ⊢
          omega
        · cases ha
      · cases ha
    · cases ha
  · split at ha
    · cases ha
    · simp only [Option.some.injEq, Prod.mk.injEq] at ha
      obtain ⟨_, rfl, _⟩ := ha
      simp
  · cases ha
theorem not_less {o : GP} (h : Less o) : Less (gNot o) := by
  intro z ts x q z' ha
  unfold gNot at ha
  split at ha
  · cases ha
  · split at ha
    · split at ha
      · cases ha
      · split at ha
        · rename_i hh
          simp only [Option.some.injEq, Prod.mk.injEq] at ha
          obtain ⟨_, rfl, _⟩ := ha
          have := atom_less h _ _ _ _ _ hh
          rw [List.length_tail] at this
          omega
        · cases ha
    · exact atom_less h _ _ _ _ _ ha
theorem loop_less {c : UInt8} {mk : Ex → Ex → Ex} {p : GP} (h : Less p) : ∀ k x z ts y q z', gLoop c mk p k x z ts = some (y, q, z') → q.length ≤ ts.length := by
  intro k
  induction k with
  | zero =>
    intro x z ts y q z' ha
    unfold gLoop at ha
    split at ha
    · cases ha
    · simp only [Option.some.injEq, Prod.mk.injEq] at ha
      obtain ⟨_, rfl, _⟩ := ha
      omega
  | succ k ih =>
    intro x z ts y q z' ha
    unfold gLoop at ha
    split at ha
    · split at ha
      · cases ha
      · rename_i hh
        have h1 := h _ _ _ _ _ hh
        have h2 := ih _ _ _ _ _ _ ha
        rw [List.length_tail] at h1
        omega
    · simp only [Option.some.injEq, Prod.mk.injEq] at ha
      obtain ⟨_, rfl, _⟩ := ha
      omega
theorem seq_less {c : UInt8} {mk : Ex → Ex → Ex} {p : GP} (h : Less p) : Less (gSeq c mk p) := by
  intro z ts x q z' ha
  unfold gSeq at ha
  split at ha
  · cases ha
  · rename_i hh
    have h1 := h _ _ _ _ _ hh
    have h2 := loop_less h _ _ _ _ _ _ _ ha
    omega
theorem gO_less (n : Nat) : Less (gO n) := by
  induction n with
  | zero => intro z ts x q z' h; cases h
  | succ n ih => exact seq_less (seq_less (not_less ih))
theorem notG_less (n : Nat) : Less (gNot (gO n)) := not_less (gO_less n)
theorem andG_less (n : Nat) : Less (gAnd (gO n)) := seq_less (notG_less n)
end Go.Proofs.YteemenhinhkonaaDoor
