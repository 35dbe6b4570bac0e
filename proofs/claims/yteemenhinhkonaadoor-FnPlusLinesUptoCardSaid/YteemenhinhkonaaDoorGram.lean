/- The grammar of the lines, as a function on what is left of a text: how deep the brackets go is bounded by a number. Nothing of the program is in it. -/
import Derived.Test.YteemenhinhkonaaDoorEx
namespace Go.Proofs.YteemenhinhkonaaDoor

def blankB (c : UInt8) : Bool := c == 32 || c == 9
def skipL (l : List UInt8) : List UInt8 := l.dropWhile blankB
def dropB (s : ByteArray) (k : Nat) : List UInt8 := s.data.toList.drop k
theorem dropB_cons (s : ByteArray) (k : Nat) (h : k < s.size) : dropB s k = s[k] :: dropB s (k + 1) := by
  unfold dropB
  rw [List.drop_eq_getElem_cons (by simpa using h)]
  rfl
theorem dropB_nil (s : ByteArray) (k : Nat) (h : s.size ≤ k) : dropB s k = [] := List.drop_eq_nil_of_le (by simpa using h)
theorem dropB_length (s : ByteArray) (k : Nat) : (dropB s k).length = s.size - k := by
  unfold dropB
  simp
theorem dropB_drop (s : ByteArray) (k n : Nat) : (dropB s k).drop n = dropB s (k + n) := by
  unfold dropB
  rw [List.drop_drop]
theorem skipL_blank (s : ByteArray) (k : Nat) (h : k < s.size) (hb : blankB s[k] = true) : skipL (dropB s k) = skipL (dropB s (k + 1)) := by
  rw [dropB_cons s k h, skipL, List.dropWhile_cons, if_pos hb]
  rfl
theorem skipL_stop (s : ByteArray) (k : Nat) (h : k < s.size) (hb : blankB s[k] = false) : skipL (dropB s k) = dropB s k := by
  rw [dropB_cons s k h, skipL, List.dropWhile_cons, if_neg (by simp [hb])]
theorem dropWhile_le (p : UInt8 → Bool) (l : List UInt8) : (l.dropWhile p).length ≤ l.length := (List.dropWhile_suffix p).length_le
theorem skipL_length (l : List UInt8) : (skipL l).length ≤ l.length := dropWhile_le _ _
theorem skipL_skipL (l : List UInt8) : skipL (skipL l) = skipL l := by
  unfold skipL
  induction l with
  | nil => rfl
  | cons a l ih =>
    rw [List.dropWhile_cons]
    split
    · exact ih
    · rename_i h
      rw [List.dropWhile_cons, if_neg h]
theorem skipL_cons {a : UInt8} {l r : List UInt8} (h : skipL l = a :: r) : blankB a = false := by
  unfold skipL at h
  induction l with
  | nil => cases h
  | cons b l ih =>
    rw [List.dropWhile_cons] at h
    split at h
    · exact ih h
    · rename_i hb
      injection h with h1 _
      subst h1
      simpa using hb

abbrev Pr := List UInt8 → Option (Ex × List UInt8)
def atomP (o : Pr) (l : List UInt8) : Option (Ex × List UInt8) :=
  match skipL l with
  | [] => none
  | a :: r =>
    if a = 40 then
      match o r with
      | none => none
      | some (x, q) => if (skipL q).head? = some 41 then some (x, (skipL q).tail) else none
    else if tagB a then some (.tag ⟨((a :: r).takeWhile tagB).toArray⟩, (a :: r).dropWhile tagB) else none
def notP (o : Pr) (l : List UInt8) : Option (Ex × List UInt8) :=
  match skipL l with
  | [] => none
  | a :: r =>
    if a = 33 then
      if (skipL r).head? = some 33 then none
      else match atomP o r with
        | none => none
        | some (x, q) => some (.not x, q)
    else atomP o (a :: r)
def loopP (c : UInt8) (mk : Ex → Ex → Ex) (p : Pr) : Nat → Ex → Pr
  | 0, x, l => some (x, skipL l)
  | k + 1, x, l =>
    if (skipL l).take 2 = [c, c] then
      match p ((skipL l).drop 2) with
      | none => none
      | some (y, q) => loopP c mk p k (mk x y) q
    else some (x, skipL l)
def seqP (c : UInt8) (mk : Ex → Ex → Ex) (p : Pr) (l : List UInt8) : Option (Ex × List UInt8) :=
  match p l with
  | none => none
  | some (x, q) => loopP c mk p q.length x q
def andP (o : Pr) : Pr := seqP 38 .and (notP o)
def orP (o : Pr) : Pr := seqP 124 .or (andP o)
def pOr : Nat → Pr
  | 0 => fun _ => none
  | n + 1 => orP (pOr n)

/- what one reads, more bound reads too -/
def LeP (p q : Pr) : Prop := ∀ l a, p l = some a → q l = some a
def Shr (p : Pr) : Prop := ∀ l x r, p l = some (x, r) → r.length < l.length
theorem atomP_le {p q : Pr} (h : LeP p q) : LeP (atomP p) (atomP q) := by
  intro l a ha
  unfold atomP at ha ⊢
  cases hl : skipL l with
  | nil => simp [hl] at ha
  | cons b r =>
    simp only [hl] at ha ⊢
    by_cases h40 : b = 40
    · rw [if_pos h40] at ha ⊢
      cases hp : p r with
      | none => simp [hp] at ha
      | some y => rw [h r y hp]; rw [hp] at ha; exact ha
    · rw [if_neg h40] at ha ⊢
      exact ha
theorem notP_le {p q : Pr} (h : LeP p q) : LeP (notP p) (notP q) := by
  intro l a ha
  unfold notP at ha ⊢
  cases hl : skipL l with
  | nil => simp [hl] at ha
  | cons b r =>
    simp only [hl] at ha ⊢
    by_cases h33 : b = 33
    · rw [if_pos h33] at ha ⊢
      by_cases h2 : (skipL r).head? = some 33
      · rw [if_pos h2] at ha; cases ha
      · rw [if_neg h2] at ha ⊢
        cases hp : atomP p r with
        | none => simp [hp] at ha
        | some y => rw [atomP_le h r y hp]; rw [hp] at ha; exact ha
    · rw [if_neg h33] at ha ⊢
      exact atomP_le h _ _ ha
theorem loopP_le {c : UInt8} {mk : Ex → Ex → Ex} {p q : Pr} (h : LeP p q) : ∀ k x, LeP (loopP c mk p k x) (loopP c mk q k x) := by
  intro k
  induction k with
  | zero => intro x l a ha; exact ha
  | succ k ih =>
    intro x l a ha
    unfold loopP at ha ⊢
    by_cases h2 : (skipL l).take 2 = [c, c]
    · rw [if_pos h2] at ha ⊢
      cases hp : p ((skipL l).drop 2) with
      | none => simp [hp] at ha
      | some y => rw [h _ y hp]; rw [hp] at ha; exact ih _ _ _ ha
    · rw [if_neg h2] at ha ⊢
      exact ha
theorem seqP_le {c : UInt8} {mk : Ex → Ex → Ex} {p q : Pr} (h : LeP p q) : LeP (seqP c mk p) (seqP c mk q) := by
  intro l a ha
  unfold seqP at ha ⊢
  cases hp : p l with
  | none => simp [hp] at ha
  | some y => rw [h l y hp]; rw [hp] at ha; exact loopP_le h _ _ _ _ ha
theorem andP_le {p q : Pr} (h : LeP p q) : LeP (andP p) (andP q) := seqP_le (notP_le h)
theorem orP_le {p q : Pr} (h : LeP p q) : LeP (orP p) (orP q) := seqP_le (andP_le h)
theorem pOr_step (n : Nat) : LeP (pOr n) (pOr (n + 1)) := by
  induction n with
  | zero => intro l a h; cases h
  | succ n ih => exact orP_le ih
theorem pOr_le {n m : Nat} (h : n ≤ m) : LeP (pOr n) (pOr m) := by
  induction m with
  | zero => obtain rfl : n = 0 := by omega
            exact fun l a h => h
  | succ m ih =>
    by_cases hm : n = m + 1
    · subst hm; exact fun l a h => h
    · exact fun l a ha => pOr_step m l a (ih (by omega) l a ha)

/- each reads at least one letter -/
theorem atomP_shr {p : Pr} (h : Shr p) : Shr (atomP p) := by
  intro l x r ha
  unfold atomP at ha
  have hs := skipL_length l
  cases hl : skipL l with
  | nil => simp [hl] at ha
  | cons b q =>
    simp only [hl] at ha
    rw [hl] at hs
    simp at hs
    by_cases h40 : b = 40
    · rw [if_pos h40] at ha
      cases hp : p q with
      | none => simp [hp] at ha
      | some y =>
        obtain ⟨y, q'⟩ := y
        rw [hp] at ha
        simp only at ha
        split at ha
        · injection ha with ha
          injection ha with _ hr
          have h1 := h q y q' hp
          have h2 := skipL_length q'
          rw [← hr, List.length_tail]
          omega
        · cases ha
    · rw [if_neg h40] at ha
      split at ha
      · rename_i ht
        injection ha with ha
        injection ha with _ hr
        rw [← hr, List.dropWhile_cons, if_pos ht]
        have := dropWhile_le tagB q
        omega
      · cases ha
theorem notP_shr {p : Pr} (h : Shr p) : Shr (notP p) := by
  intro l x r ha
  unfold notP at ha
  have hs := skipL_length l
  cases hl : skipL l with
  | nil => simp [hl] at ha
  | cons b q =>
    simp only [hl] at ha
    rw [hl] at hs
    simp at hs
    by_cases h33 : b = 33
    · rw [if_pos h33] at ha
      split at ha
      · cases ha
      · cases hp : atomP p q with
        | none => simp [hp] at ha
        | some y =>
          obtain ⟨y, q'⟩ := y
          rw [hp] at ha
          injection ha with ha
          injection ha with _ hr
          have := atomP_shr h q y q' hp
          rw [← hr]
          omega
    · rw [if_neg h33] at ha
      have := atomP_shr h _ _ _ ha
      simp at this
      omega
theorem loopP_shr {c : UInt8} {mk : Ex → Ex → Ex} {p : Pr} (h : Shr p) : ∀ k x l y r, loopP c mk p k x l = some (y, r) → r.length ≤ l.length := by
  intro k
  induction k with
  | zero =>
    intro x l y r ha
    simp only [loopP, Option.some.injEq, Prod.mk.injEq] at ha
    rw [← ha.2]
    exact skipL_length l
  | succ k ih =>
    intro x l y r ha
    have hs := skipL_length l
    unfold loopP at ha
    split at ha
    · cases hp : p ((skipL l).drop 2) with
      | none => simp [hp] at ha
      | some z =>
        obtain ⟨z, q⟩ := z
        rw [hp] at ha
        have h1 := h _ z q hp
        have h2 := ih _ _ _ _ ha
        simp at h1
        omega
    · simp only [Option.some.injEq, Prod.mk.injEq] at ha
      rw [← ha.2]
      exact hs
theorem seqP_shr {c : UInt8} {mk : Ex → Ex → Ex} {p : Pr} (h : Shr p) : Shr (seqP c mk p) := by
  intro l x r ha
  unfold seqP at ha
  cases hp : p l with
  | none => simp [hp] at ha
  | some y =>
    obtain ⟨y, q⟩ := y
    rw [hp] at ha
    have h1 := h l y q hp
    have h2 := loopP_shr h _ _ _ _ _ ha
    omega
theorem pOr_shr (n : Nat) : Shr (pOr n) := by
  induction n with
  | zero => intro l x r h; cases h
  | succ n ih => exact seqP_shr (seqP_shr (notP_shr ih))
theorem notN_shr (n : Nat) : Shr (notP (pOr n)) := notP_shr (pOr_shr n)
theorem andN_shr (n : Nat) : Shr (andP (pOr n)) := seqP_shr (notN_shr n)

/- the loop's own bound does not matter -/
theorem loopP_bound {c : UInt8} {mk : Ex → Ex → Ex} {p : Pr} (h : Shr p) : ∀ k x l m, l.length ≤ k → l.length ≤ m → loopP c mk p k x l = loopP c mk p m x l := by
  intro k
  induction k with
  | zero =>
    intro x l m hk hm
    obtain rfl : l = [] := List.eq_nil_of_length_eq_zero (by omega)
    cases m with
    | zero => rfl
    | succ m => simp [loopP, skipL]
  | succ k ih =>
    intro x l m hk hm
    cases m with
    | zero =>
      obtain rfl : l = [] := List.eq_nil_of_length_eq_zero (by omega)
      simp [loopP, skipL]
    | succ m =>
      have hs := skipL_length l
      unfold loopP
      split
      · cases hp : p ((skipL l).drop 2) with
        | none => rfl
        | some y =>
          obtain ⟨y, q⟩ := y
          have h1 := h _ y q hp
          simp at h1
          exact ih _ _ _ (by omega) (by omega)
      · rfl
/- one round of the loop, with its bound taken from what is left -/
def loopL (c : UInt8) (mk : Ex → Ex → Ex) (p : Pr) (x : Ex) (l : List UInt8) : Option (Ex × List UInt8) := loopP c mk p l.length x l
theorem loopL_go {c : UInt8} {mk : Ex → Ex → Ex} {p : Pr} (h : Shr p) {x : Ex} {l : List UInt8} (h2 : (skipL l).take 2 = [c, c]) :
    loopL c mk p x l = match p ((skipL l).drop 2) with | none => none | some (y, q) => loopL c mk p (mk x y) q := by
  have hs := skipL_length l
  have hlen : 2 ≤ (skipL l).length := by
    have := congrArg List.length h2
    simp at this
    omega
  obtain ⟨k, hk⟩ : ∃ k, l.length = k + 1 := ⟨l.length - 1, by omega⟩
  unfold loopL
  rw [hk, loopP, if_pos h2]
  cases hp : p ((skipL l).drop 2) with
  | none => rfl
  | some y =>
    obtain ⟨y, q⟩ := y
    have h1 := h _ y q hp
    simp at h1
    exact loopP_bound h k (mk x y) q q.length (by omega) (Nat.le_refl _)
theorem loopL_end {c : UInt8} {mk : Ex → Ex → Ex} {p : Pr} {x : Ex} {l : List UInt8} (h2 : (skipL l).take 2 ≠ [c, c]) : loopL c mk p x l = some (x, skipL l) := by
  unfold loopL
  cases l.length with
  | zero => rfl
  | succ k => rw [loopP, if_neg h2]
theorem seqP_eq {c : UInt8} {mk : Ex → Ex → Ex} {p : Pr} {l : List UInt8} : seqP c mk p l = match p l with | none => none | some (x, q) => loopL c mk p x q := rfl
end Go.Proofs.YteemenhinhkonaaDoor
