/- What stands behind an expression does not change how it is read; brackets, !, && and || around expressions that are read. Nothing of the program is in it. -/
import Derived.Test.YteemenhinhkonaaDoorText
import Derived.Test.YteemenhinhkonaaDoorTok
namespace Go.Proofs.YteemenhinhkonaaDoor

def Ext (r : List UInt8) (p : Pr) : Prop := ∀ l x q, p l = some (x, q) → p (l ++ r) = some (x, q ++ r)
theorem skipL_ext {a : UInt8} {t : List UInt8} (ha : blankB a = false) (l : List UInt8) : skipL (l ++ a :: t) = skipL l ++ a :: t := by
  induction l with
  | nil => exact skipL_nb ha
  | cons b l ih =>
    cases hb : blankB b
    · rw [List.cons_append, skipL_nb hb, skipL_nb hb]; rfl
    · unfold skipL at ih ⊢
      rw [List.cons_append, List.dropWhile_cons, if_pos hb, List.dropWhile_cons, if_pos hb]
      exact ih
theorem while_ext {a : UInt8} {t : List UInt8} (ha : tagB a = false) (l : List UInt8) : (l ++ a :: t).takeWhile tagB = l.takeWhile tagB ∧ (l ++ a :: t).dropWhile tagB = l.dropWhile tagB ++ a :: t := by
  induction l with
  | nil => simp [ha]
  | cons b l ih =>
    cases hb : tagB b
    · simp [hb]
    · simp [hb, ih]
def OkQ (q : List UInt8) : Prop := (skipL q).head? = some 41 ∨ 2 ≤ (skipL q).length
def ExtN (r : List UInt8) (p : Pr) : Prop := ∀ l x q, p l = some (x, q) → OkQ q → p (l ++ r) = some (x, q ++ r)
theorem Ext.n {r : List UInt8} {p : Pr} (h : Ext r p) : ExtN r p := fun l x q e _ => h l x q e
theorem atom_ext {a : UInt8} {t : List UInt8} {o : Pr} (hb : blankB a = false) (ht : tagB a = false) (ho : ExtN (a :: t) o) : Ext (a :: t) (atomP o) := by
  intro l x q h
  unfold atomP at h ⊢
  rw [skipL_ext hb]
  cases hl : skipL l with
  | nil => rw [hl] at h; cases h
  | cons b r =>
    rw [hl] at h
    simp only [List.cons_append] at h ⊢
    by_cases h40 : b = 40
    · rw [if_pos h40] at h ⊢
      cases hr : o r with
      | none => rw [hr] at h; cases h
      | some y =>
        obtain ⟨y, q'⟩ := y
        rw [hr] at h
        simp only at h
        by_cases hc : (skipL q').head? = some 41
        · rw [ho r y q' hr (.inl hc)]
          simp only
          rw [if_pos hc] at h
          rw [skipL_ext hb]
          cases hq : skipL q' with
          | nil => rw [hq] at hc; cases hc
          | cons c s =>
            rw [hq] at h hc
            rw [if_pos (show ((c :: s) ++ a :: t).head? = some 41 from hc)]
            injection h with h
            injection h with h1 h2
            rw [h1, ← h2]
            rfl
        · rw [if_neg hc] at h; cases h
    · rw [if_neg h40] at h ⊢
      cases hg : tagB b
      · rw [hg] at h; cases h
      · rw [hg] at h
        obtain ⟨e1, e2⟩ := while_ext ht (t := t) (b :: r)
        rw [List.cons_append] at e1 e2
        simp only [if_true] at h ⊢
        rw [e1, e2]
        injection h with h
        injection h with h1 h2
        rw [h1, h2]
theorem not_ext {a : UInt8} {t : List UInt8} {o : Pr} (hb : blankB a = false) (ht : tagB a = false) (h33 : a ≠ 33) (ho : ExtN (a :: t) o) : Ext (a :: t) (notP o) := by
  have hA := atom_ext hb ht ho
  intro l x q h
  unfold notP at h ⊢
  rw [skipL_ext hb]
  cases hl : skipL l with
  | nil => rw [hl] at h; cases h
  | cons b r =>
    rw [hl] at h
    simp only [List.cons_append] at h ⊢
    by_cases e33 : b = 33
    · rw [if_pos e33] at h ⊢
      have hh : (skipL (r ++ a :: t)).head? = some 33 ↔ (skipL r).head? = some 33 := by
        rw [skipL_ext hb]
        cases skipL r with
        | nil => simp [h33]
        | cons c s => simp
      by_cases h2 : (skipL r).head? = some 33
      · rw [if_pos h2] at h; cases h
      · rw [if_neg h2] at h
        rw [if_neg (fun e => h2 (hh.1 e))]
        cases hr : atomP o r with
        | none => rw [hr] at h; cases h
        | some y =>
          obtain ⟨y, q'⟩ := y
          rw [hr] at h
          rw [hA r y q' hr]
          simp only at h ⊢
          injection h with h
          injection h with h1 h2
          rw [h1, h2]
    · rw [if_neg e33] at h ⊢
      exact hA _ _ _ h
theorem take2_ext {a c : UInt8} {t l : List UInt8} (hc : a ≠ c) (h : l.take 2 ≠ [c, c]) : (l ++ a :: t).take 2 ≠ [c, c] := by
  match l with
  | [] => intro e; simp at e; exact hc e.1
  | [b] => intro e; simp at e; exact hc e.2
  | b :: d :: l => simpa using h
theorem take2_same {c : UInt8} {u l : List UInt8} (h : l.take 2 = [c, c]) : (l ++ u).take 2 = [c, c] ∧ (l ++ u).drop 2 = l.drop 2 ++ u := by
  match l with
  | [] => cases h
  | [b] => cases h
  | b :: d :: l => exact ⟨by simpa using h, rfl⟩
theorem loop_ext {a c : UInt8} {t : List UInt8} {mk : Ex → Ex → Ex} {p : Pr} (hs : Shr p) (hb : blankB a = false) (hc : a ≠ c) (hp : Ext (a :: t) p) : ∀ k x l y q, l.length ≤ k → loopL c mk p x l = some (y, q) → loopL c mk p x (l ++ a :: t) = some (y, q ++ a :: t) := by
  intro k
  induction k with
  | zero =>
    intro x l y q hk h
    obtain rfl : l = [] := List.eq_nil_of_length_eq_zero (by omega)
    rw [loopL_end (by simp [skipL])] at h
    rw [loopL_end (by rw [skipL_ext hb]; exact take2_ext hc (by simp [skipL])), skipL_ext hb]
    injection h with h
    injection h with h1 h2
    rw [h1, h2]
  | succ k ih =>
    intro x l y q hk h
    by_cases h2 : (skipL l).take 2 = [c, c]
    · rw [loopL_go hs h2] at h
      obtain ⟨e1, e2⟩ := take2_same (u := a :: t) h2
      rw [loopL_go hs (by rw [skipL_ext hb]; exact e1), skipL_ext hb, e2]
      cases hr : p ((skipL l).drop 2) with
      | none => rw [hr] at h; cases h
      | some z =>
        obtain ⟨z, q'⟩ := z
        rw [hr] at h
        rw [hp _ z q' hr]
        simp only at h ⊢
        have h3 := hs _ z q' hr
        have h4 := skipL_length l
        simp at h3
        exact ih _ _ _ _ (by omega) h
    · rw [loopL_end h2] at h
      rw [loopL_end (by rw [skipL_ext hb]; exact take2_ext hc h2), skipL_ext hb]
      injection h with h
      injection h with h1 h2
      rw [h1, h2]
theorem seq_ext {a c : UInt8} {t : List UInt8} {mk : Ex → Ex → Ex} {p : Pr} (hs : Shr p) (hb : blankB a = false) (hc : a ≠ c) (hp : Ext (a :: t) p) : Ext (a :: t) (seqP c mk p) := by
  intro l x q h
  rw [seqP_eq] at h ⊢
  cases hl : p l with
  | none => rw [hl] at h; cases h
  | some y =>
    obtain ⟨y, q'⟩ := y
    rw [hl] at h
    rw [hp l y q' hl]
    exact loop_ext hs hb hc hp q'.length _ _ _ _ (Nat.le_refl _) h
theorem pOr_ext (t : List UInt8) (n : Nat) : Ext (41 :: t) (pOr n) := by
  induction n with
  | zero => intro l x q h; cases h
  | succ n ih => exact seq_ext (andN_shr n) (by rfl) (by decide) (seq_ext (notN_shr n) (by rfl) (by decide) (not_ext (by rfl) (by decide) (by decide) ih.n))
/- where what is left is no single sign -/
theorem loopN_ext {a c : UInt8} {t : List UInt8} {mk : Ex → Ex → Ex} {p : Pr} (hs : Shr p) (hb : blankB a = false) (hc : c ≠ 41) (hp : Ext (a :: t) p) : ∀ k x l y q, l.length ≤ k → loopL c mk p x l = some (y, q) → OkQ q → loopL c mk p x (l ++ a :: t) = some (y, q ++ a :: t) := by
  intro k
  induction k with
  | zero =>
    intro x l y q hk h ho
    obtain rfl : l = [] := List.eq_nil_of_length_eq_zero (by omega)
    rw [loopL_end (by simp [skipL])] at h
    injection h with h
    injection h with h1 h2
    subst h2
    rcases ho with ho | ho
    · cases ho
    · simp [skipL] at ho
  | succ k ih =>
    intro x l y q hk h ho
    by_cases h2 : (skipL l).take 2 = [c, c]
    · rw [loopL_go hs h2] at h
      obtain ⟨e1, e2⟩ := take2_same (u := a :: t) h2
      rw [loopL_go hs (by rw [skipL_ext hb]; exact e1), skipL_ext hb, e2]
      cases hr : p ((skipL l).drop 2) with
      | none => rw [hr] at h; cases h
      | some z =>
        obtain ⟨z, q'⟩ := z
        rw [hr] at h
        rw [hp _ z q' hr]
        simp only at h ⊢
        have h3 := hs _ z q' hr
        have h4 := skipL_length l
        simp at h3
        exact ih _ _ _ _ (by omega) h ho
    · rw [loopL_end h2] at h
      injection h with h
      injection h with h1 h3
      subst h3
      unfold OkQ at ho
      rw [skipL_skipL] at ho
      have h5 : (skipL l ++ a :: t).take 2 ≠ [c, c] := by
        match hl : skipL l, h2, ho with
        | [], _, ho => rcases ho with ho | ho <;> simp at ho
        | [b], _, ho =>
          rcases ho with ho | ho
          · intro e; simp at e ho; exact hc (e.1.symm.trans ho)
          · simp at ho
        | b :: d :: l', h2, _ => simpa using h2
      rw [loopL_end (by rw [skipL_ext hb]; exact h5), skipL_ext hb, h1]
theorem seqN_ext {a c : UInt8} {t : List UInt8} {mk : Ex → Ex → Ex} {p : Pr} (hs : Shr p) (hb : blankB a = false) (hc : c ≠ 41) (hp : Ext (a :: t) p) : ExtN (a :: t) (seqP c mk p) := by
  intro l x q h ho
  rw [seqP_eq] at h ⊢
  cases hl : p l with
  | none => rw [hl] at h; cases h
  | some y =>
    obtain ⟨y, q'⟩ := y
    rw [hl] at h
    rw [hp l y q' hl]
    exact loopN_ext hs hb hc hp q'.length _ _ _ _ (Nat.le_refl _) h ho
theorem and_ext124 {t : List UInt8} {n : Nat} (ih : ExtN (124 :: t) (pOr n)) : Ext (124 :: t) (andP (pOr n)) := seq_ext (notN_shr n) (by rfl) (by decide) (not_ext (by rfl) (by decide) (by decide) ih)
theorem pOr_ext124 (t : List UInt8) (n : Nat) : ExtN (124 :: t) (pOr n) := by
  induction n with
  | zero => intro l x q h; cases h
  | succ n ih => exact seqN_ext (andN_shr n) (by rfl) (by decide) (and_ext124 ih)

/- what is read whole -/
def Rd (n : Nat) (l : List UInt8) (x : Ex) : Prop := orP (pOr n) l = some (x, [])
theorem Rd.le {n m : Nat} {l : List UInt8} {x : Ex} (h : Rd n l x) (hm : n ≤ m) : Rd m l x := pOr_le (n := n + 1) (m := m + 1) (by omega) _ _ h
theorem or_of_not {n : Nat} {l : List UInt8} {x : Ex} (h : notP (pOr n) l = some (x, [])) : Rd n l x := by
  unfold Rd orP andP
  rw [seqP_eq, seqP_eq, h]
  simp only
  rw [loopL_end (by simp [skipL])]
  simp only
  rw [show skipL [] = [] from rfl, loopL_end (by simp [skipL])]
  rfl
theorem or_of_and {n : Nat} {l : List UInt8} {x : Ex} (h : andP (pOr n) l = some (x, [])) : Rd n l x := by
  unfold Rd orP
  rw [seqP_eq, h]
  simp only
  rw [loopL_end (by simp [skipL])]
  rfl
theorem Rd.atom {n : Nat} {l : List UInt8} {x : Ex} (h : Rd n l x) (r : List UInt8) : atomP (pOr (n + 1)) (40 :: (l ++ 41 :: r)) = some (x, r) := by
  refine atomP_brk ?_
  have := pOr_ext r (n + 1) l x [] h
  exact this
theorem Rd.not {n : Nat} {l : List UInt8} {x : Ex} (h : Rd n l x) (r : List UInt8) : notP (pOr (n + 1)) (40 :: (l ++ 41 :: r)) = some (x, r) := by
  refine notP_brk ?_
  exact pOr_ext r (n + 1) l x [] h
theorem Rd.brk {n : Nat} {l : List UInt8} {x : Ex} (h : Rd n l x) : Rd (n + 1) (40 :: (l ++ [41])) x := or_of_not (h.not [])
theorem Rd.neg {n : Nat} {l : List UInt8} {x : Ex} (h : Rd n l x) : Rd (n + 1) (33 :: 40 :: (l ++ [41])) (.not x) :=
  or_of_not (notP_33 (by rw [skipL_nb (by rfl)]; simp) (h.atom []))
theorem Rd.and0 {n : Nat} {l m : List UInt8} {x y : Ex} (hx : Rd n l x) (hy : Rd n m y) (g : List UInt8) (hg : skipL (g ++ 38 :: 38 :: (40 :: (m ++ [41]))) = 38 :: 38 :: (40 :: (m ++ [41]))) : Rd (n + 1) (40 :: (l ++ 41 :: (g ++ 38 :: 38 :: (40 :: (m ++ [41]))))) (.and x y) := by
  refine or_of_and ?_
  unfold andP
  rw [seqP_eq, hx.not]
  simp only
  rw [loopL_go (notN_shr (n + 1)) (by rw [hg]; rfl), hg]
  simp only [List.drop_succ_cons, List.drop_zero]
  rw [hy.not []]
  simp only
  rw [loopL_end (by simp [skipL])]
  rfl
theorem Rd.and {n : Nat} {l m : List UInt8} {x y : Ex} (hx : Rd n l x) (hy : Rd n m y) : Rd (n + 1) (40 :: (l ++ 41 :: 38 :: 38 :: 40 :: (m ++ [41]))) (.and x y) := hx.and0 hy [] (skipL_nb (by rfl))
theorem notP_space (o : Pr) (l : List UInt8) : notP o (32 :: l) = notP o l := notP_32 o l
theorem Rd.and2 {n : Nat} {l m : List UInt8} {x y : Ex} (hx : Rd n l x) (hy : Rd n m y) : Rd (n + 1) (40 :: (l ++ 41 :: 32 :: 38 :: 38 :: 32 :: 40 :: (m ++ [41]))) (.and x y) := by
  refine or_of_and ?_
  unfold andP
  rw [seqP_eq, hx.not]
  simp only
  have hg : skipL (32 :: 38 :: 38 :: 32 :: 40 :: (m ++ [41])) = 38 :: 38 :: 32 :: 40 :: (m ++ [41]) := by rw [skipL_32, skipL_nb (by rfl)]
  rw [loopL_go (notN_shr (n + 1)) (by rw [hg]; rfl), hg]
  simp only [List.drop_succ_cons, List.drop_zero]
  rw [notP_space, hy.not []]
  simp only
  rw [loopL_end (by simp [skipL])]
  rfl
/- two with || between: read as an expression of the same meaning -/
theorem loop_two {n : Nat} {m : List UInt8} : ∀ k (l : List UInt8) (x y : Ex), l.length ≤ k → loopL 124 .or (andP (pOr n)) x l = some (y, []) → loopL 124 .or (andP (pOr n)) x (l ++ 124 :: 124 :: m) = loopL 124 .or (andP (pOr n)) y (124 :: 124 :: m) := by
  have hE : Ext (124 :: 124 :: m) (andP (pOr n)) := and_ext124 (pOr_ext124 _ n)
  have hs := andN_shr n
  have hb : blankB 124 = false := by rfl
  intro k
  induction k with
  | zero =>
    intro l x y hk h
    obtain rfl : l = [] := List.eq_nil_of_length_eq_zero (by omega)
    rw [loopL_end (by simp [skipL])] at h
    injection h with h
    injection h with h1 h2
    rw [h1]
    rfl
  | succ k ih =>
    intro l x y hk h
    by_cases h2 : (skipL l).take 2 = [124, 124]
    · rw [loopL_go hs h2] at h
      obtain ⟨e1, e2⟩ := take2_same (u := 124 :: 124 :: m) h2
      rw [loopL_go hs (by rw [skipL_ext hb]; exact e1), skipL_ext hb, e2]
      cases hr : andP (pOr n) ((skipL l).drop 2) with
      | none => rw [hr] at h; cases h
      | some z =>
        obtain ⟨z, q'⟩ := z
        rw [hr] at h
        rw [hE _ z q' hr]
        simp only at h ⊢
        have h3 := hs _ z q' hr
        have h4 := skipL_length l
        simp at h3
        exact ih _ _ _ (by omega) h
    · rw [loopL_end h2] at h
      injection h with h
      injection h with h1 h3
      rw [← loopL_skip hs x (l ++ 124 :: 124 :: m), skipL_ext hb, h3, h1]
      rfl
theorem loop_acc {n : Nat} {x : Ex} : ∀ k (l : List UInt8) (u v y : Ex) (q : List UInt8), l.length ≤ k → (∀ f, u.eval f = (x.eval f || v.eval f)) → u.leaves = x.leaves + v.leaves → loopL 124 .or (andP (pOr n)) v l = some (y, q) → ∃ z, loopL 124 .or (andP (pOr n)) u l = some (z, q) ∧ (∀ f, z.eval f = (x.eval f || y.eval f)) ∧ z.leaves = x.leaves + y.leaves := by
  have hs := andN_shr n
  intro k
  induction k with
  | zero =>
    intro l u v y q hk hu hlv h
    obtain rfl : l = [] := List.eq_nil_of_length_eq_zero (by omega)
    rw [loopL_end (by simp [skipL])] at h
    injection h with h
    injection h with h1 h2
    subst h1
    exact ⟨u, by rw [loopL_end (by simp [skipL]), h2], hu, hlv⟩
  | succ k ih =>
    intro l u v y q hk hu hlv h
    by_cases h2 : (skipL l).take 2 = [124, 124]
    · rw [loopL_go hs h2] at h
      rw [loopL_go hs h2]
      cases hr : andP (pOr n) ((skipL l).drop 2) with
      | none => rw [hr] at h; cases h
      | some z =>
        obtain ⟨z, q'⟩ := z
        rw [hr] at h
        simp only at h ⊢
        have h3 := hs _ z q' hr
        have h4 := skipL_length l
        simp at h3
        exact ih _ (.or u z) (.or v z) _ _ (by omega) (fun f => by simp [Ex.eval, hu, Bool.or_assoc]) (by simp only [Ex.leaves]; omega) h
    · rw [loopL_end h2] at h
      injection h with h
      injection h with h1 h3
      subst h1
      exact ⟨u, by rw [loopL_end h2, h3], hu, hlv⟩
theorem Rd.two {n : Nat} {l m : List UInt8} {x y : Ex} (hx : Rd n l x) (hy : Rd n m y) : ∃ z, Rd n (l ++ 124 :: 124 :: m) z ∧ (∀ f, z.eval f = (x.eval f || y.eval f)) ∧ z.leaves = x.leaves + y.leaves := by
  have hs := andN_shr n
  unfold Rd orP at hx hy
  rw [seqP_eq] at hx hy
  cases h1 : andP (pOr n) l with
  | none => rw [h1] at hx; cases hx
  | some a =>
    obtain ⟨x0, q0⟩ := a
    rw [h1] at hx
    simp only at hx
    cases h2 : andP (pOr n) m with
    | none => rw [h2] at hy; cases hy
    | some b =>
      obtain ⟨y0, q1⟩ := b
      rw [h2] at hy
      simp only at hy
      obtain ⟨z, hz, he, hl⟩ := loop_acc (x := x) q1.length q1 (.or x y0) y0 y [] (Nat.le_refl _) (fun f => rfl) rfl hy
      refine ⟨z, ?_, he, hl⟩
      unfold Rd orP
      rw [seqP_eq, and_ext124 (pOr_ext124 _ n) l x0 q0 h1]
      simp only
      have e : skipL (124 :: 124 :: m) = 124 :: 124 :: m := skipL_nb (by rfl)
      rw [loop_two q0.length q0 x0 x (Nat.le_refl _) hx, loopL_go hs (by rw [e]; rfl), e]
      simp only [List.drop_succ_cons, List.drop_zero, h2]
      exact hz
end Go.Proofs.YteemenhinhkonaaDoor
