/- An expression that was read has tags that are ones, and its text is at most three times as long. Nothing of the program is in it. -/
import Derived.Test.YteemenhinhkonaaDoorJoin
namespace Go.Proofs.YteemenhinhkonaaDoor

structure Nice (x : Ex) (m : Nat) : Prop where
  ok : x.tagsOk
  len : x.text.length + 2 ≤ 3 * m
  pos : 1 ≤ x.text.length
  lv : x.leaves ≤ m
def Inv (p : Pr) : Prop := ∀ l x q, p l = some (x, q) → q.length < l.length ∧ Nice x (l.length - q.length)
theorem brk_length (b : Bool) (l : List UInt8) : (brk b l).length ≤ l.length + 2 ∧ l.length ≤ (brk b l).length := by
  unfold brk
  cases b
  · simp
  · simp; omega
theorem Nice.mono {x : Ex} {m k : Nat} (h : Nice x m) (hk : m ≤ k) : Nice x k := ⟨h.ok, by have := h.len; omega, h.pos, Nat.le_trans h.lv hk⟩
theorem Nice.not {x : Ex} {m : Nat} (h : Nice x m) : Nice (.not x) (m + 1) := by
  have h1 := brk_length (x.kind == 3 || x.kind == 4) x.text
  refine ⟨h.ok, ?_, ?_, ?_⟩
  · have := h.len; simp only [Ex.text, List.length_cons]; omega
  · simp only [Ex.text, List.length_cons]; omega
  · have := h.lv; simp only [Ex.leaves]; omega
theorem Nice.and {x y : Ex} {m k : Nat} (h : Nice x m) (g : Nice y k) : Nice (.and x y) (m + k + 2) := by
  have h1 := brk_length (x.kind == 4) x.text
  have h2 := brk_length (y.kind == 4) y.text
  refine ⟨⟨h.ok, g.ok⟩, ?_, ?_, ?_⟩
  · have := h.len; have := g.len; simp only [Ex.text, List.length_append, List.length_cons, List.length_nil]; omega
  · simp only [Ex.text, List.length_append, List.length_cons, List.length_nil]; omega
  · have := h.lv; have := g.lv; simp only [Ex.leaves]; omega
theorem Nice.or {x y : Ex} {m k : Nat} (h : Nice x m) (g : Nice y k) : Nice (.or x y) (m + k + 2) := by
  have h1 := brk_length (x.kind == 3) x.text
  have h2 := brk_length (y.kind == 3) y.text
  refine ⟨⟨h.ok, g.ok⟩, ?_, ?_, ?_⟩
  · have := h.len; have := g.len; simp only [Ex.text, List.length_append, List.length_cons, List.length_nil]; omega
  · simp only [Ex.text, List.length_append, List.length_cons, List.length_nil]; omega
  · have := h.lv; have := g.lv; simp only [Ex.leaves]; omega
theorem while_sum (p : UInt8 → Bool) (l : List UInt8) : (l.takeWhile p).length + (l.dropWhile p).length = l.length := by
  have := congrArg List.length (List.takeWhile_append_dropWhile (p := p) (l := l))
  rw [List.length_append] at this
  exact this
theorem inv_atom {o : Pr} (ho : Inv o) : Inv (atomP o) := by
  intro l x q h
  have hs := skipL_length l
  unfold atomP at h
  cases hl : skipL l with
  | nil => rw [hl] at h; cases h
  | cons a r =>
    rw [hl] at h hs
    simp only at h
    rw [List.length_cons] at hs
    by_cases h40 : a = 40
    · rw [if_pos h40] at h
      cases hr : o r with
      | none => rw [hr] at h; cases h
      | some y =>
        obtain ⟨y, q'⟩ := y
        rw [hr] at h
        simp only at h
        by_cases hc : (skipL q').head? = some 41
        · rw [if_pos hc] at h
          injection h with h
          injection h with h1 h2
          subst h1 h2
          obtain ⟨k1, k2⟩ := ho _ _ _ hr
          have k3 := skipL_length q'
          rw [List.length_tail]
          exact ⟨by omega, k2.mono (by omega)⟩
        · rw [if_neg hc] at h; cases h
    · rw [if_neg h40] at h
      cases hg : tagB a
      · rw [hg] at h; cases h
      · rw [hg] at h
        simp only [if_true] at h
        injection h with h
        injection h with h1 h2
        have hw := while_sum tagB (a :: r)
        have hpos : 1 ≤ ((a :: r).takeWhile tagB).length := by rw [List.takeWhile_cons, hg]; simp
        subst h1 h2
        rw [List.length_cons] at hw
        refine ⟨by omega, ?_, ?_, ?_, ?_⟩
        · unfold Ex.tagsOk tagOkB
          rw [Bool.and_eq_true]
          refine ⟨?_, ?_⟩
          · show ((a :: r).takeWhile tagB).all tagB = true
            exact List.all_takeWhile
          · rw [decide_eq_true_eq]; show 0 < ((a :: r).takeWhile tagB).toArray.size; rw [List.size_toArray]; exact hpos
        · show ((a :: r).takeWhile tagB).length + 2 ≤ _
          omega
        · exact hpos
        · show 1 ≤ _
          omega
theorem inv_not {o : Pr} (ho : Inv o) : Inv (notP o) := by
  have hA := inv_atom ho
  intro l x q h
  have hs := skipL_length l
  unfold notP at h
  cases hl : skipL l with
  | nil => rw [hl] at h; cases h
  | cons a r =>
    rw [hl] at h hs
    simp only at h
    rw [List.length_cons] at hs
    by_cases e33 : a = 33
    · rw [if_pos e33] at h
      by_cases h2 : (skipL r).head? = some 33
      · rw [if_pos h2] at h; cases h
      · rw [if_neg h2] at h
        cases hr : atomP o r with
        | none => rw [hr] at h; cases h
        | some y =>
          obtain ⟨y, q'⟩ := y
          rw [hr] at h
          simp only at h
          injection h with h
          injection h with h1 h2
          subst h1 h2
          obtain ⟨k1, k2⟩ := hA _ _ _ hr
          exact ⟨by omega, k2.not.mono (by omega)⟩
    · rw [if_neg e33] at h
      obtain ⟨k1, k2⟩ := hA _ _ _ h
      rw [List.length_cons] at k1 k2
      exact ⟨by omega, k2.mono (by omega)⟩
theorem inv_loop {c : UInt8} {mk : Ex → Ex → Ex} {p : Pr} (hs : Shr p) (hp : Inv p) (hmk : ∀ x y m k, Nice x m → Nice y k → Nice (mk x y) (m + k + 2)) : ∀ k x l y q m, l.length ≤ k → loopL c mk p x l = some (y, q) → Nice x m → q.length ≤ l.length ∧ Nice y (m + (l.length - q.length)) := by
  intro k
  induction k with
  | zero =>
    intro x l y q m hk h hx
    obtain rfl : l = [] := List.eq_nil_of_length_eq_zero (by omega)
    rw [loopL_end (by simp [skipL])] at h
    injection h with h
    injection h with h1 h2
    subst h1 h2
    exact ⟨by simp [skipL], hx.mono (by omega)⟩
  | succ k ih =>
    intro x l y q m hk h hx
    have hsl := skipL_length l
    by_cases h2 : (skipL l).take 2 = [c, c]
    · rw [loopL_go hs h2] at h
      cases hr : p ((skipL l).drop 2) with
      | none => rw [hr] at h; cases h
      | some z =>
        obtain ⟨z, q'⟩ := z
        rw [hr] at h
        simp only at h
        obtain ⟨k1, k2⟩ := hp _ _ _ hr
        have h4 : 2 ≤ (skipL l).length := by
          have := congrArg List.length h2
          simp at this
          omega
        rw [List.length_drop] at k1 k2
        obtain ⟨k3, k4⟩ := ih _ _ _ _ _ (by omega) h (hmk _ _ _ _ hx k2)
        exact ⟨by omega, k4.mono (by omega)⟩
    · rw [loopL_end h2] at h
      injection h with h
      injection h with h1 h3
      subst h1 h3
      exact ⟨hsl, hx.mono (by omega)⟩
theorem inv_seq {c : UInt8} {mk : Ex → Ex → Ex} {p : Pr} (hs : Shr p) (hp : Inv p) (hmk : ∀ x y m k, Nice x m → Nice y k → Nice (mk x y) (m + k + 2)) : Inv (seqP c mk p) := by
  intro l x q h
  rw [seqP_eq] at h
  cases hl : p l with
  | none => rw [hl] at h; cases h
  | some y =>
    obtain ⟨y, q'⟩ := y
    rw [hl] at h
    simp only at h
    obtain ⟨k1, k2⟩ := hp _ _ _ hl
    obtain ⟨k3, k4⟩ := inv_loop hs hp hmk q'.length _ _ _ _ _ (Nat.le_refl _) h k2
    exact ⟨by omega, k4.mono (by omega)⟩
theorem inv_pOr (n : Nat) : Inv (pOr n) := by
  induction n with
  | zero => intro l x q h; cases h
  | succ n ih => exact inv_seq (andN_shr n) (inv_seq (notN_shr n) (inv_not ih) fun _ _ _ _ h g => h.and g) fun _ _ _ _ h g => h.or g
theorem Rd.nice {n : Nat} {l : List UInt8} {x : Ex} (h : Rd n l x) : Nice x l.length := by
  have := (inv_pOr (n + 1) l x [] h).2
  simpa using this
/- the text of what was read -/
theorem Rd.text {n : Nat} {l : List UInt8} {x : Ex} (h : Rd n l x) (hd : x.dbl = false) : ∃ x' m, SameEx x' x ∧ Rd m x.text x' := by
  obtain ⟨x', h1, h2⟩ := text_read (x := x) (n := x.deep) (by omega) hd h.nice.ok
  exact ⟨x', x.deep, h1, h2⟩
end Go.Proofs.YteemenhinhkonaaDoor
