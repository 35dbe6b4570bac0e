/- The text of an expression, and that the grammar reads it as an expression of the same meaning and the same text. Nothing of the program is in it. -/
import Derived.Test.YteemenhinhkonaaDoorGram
namespace Go.Proofs.YteemenhinhkonaaDoor

def Ex.dbl : Ex → Bool
  | .tag _ => false
  | .not x => x.kind == 2 || x.dbl
  | .and x y => x.dbl || y.dbl
  | .or x y => x.dbl || y.dbl
def brk (b : Bool) (l : List UInt8) : List UInt8 := if b then 40 :: (l ++ [41]) else l
def Ex.text : Ex → List UInt8
  | .tag t => t.data.toList
  | .not x => 33 :: brk (x.kind == 3 || x.kind == 4) x.text
  | .and x y => brk (x.kind == 4) x.text ++ ([32, 38, 38, 32] ++ brk (y.kind == 4) y.text)
  | .or x y => brk (x.kind == 3) x.text ++ ([32, 124, 124, 32] ++ brk (y.kind == 3) y.text)

structure SameEx (x' x : Ex) : Prop where
  kind : x'.kind = x.kind
  text : x'.text = x.text
  eval : ∀ f, x'.eval f = x.eval f
  leaves : x'.leaves = x.leaves
theorem SameEx.refl (x : Ex) : SameEx x x := ⟨rfl, rfl, fun _ => rfl, rfl⟩

def StopR (r : List UInt8) : Prop := ∀ a q, r = a :: q → tagB a = false
theorem stop_cons {a : UInt8} {q : List UInt8} (h : tagB a = false) : StopR (a :: q) := by
  intro b p e
  injection e with e1 _
  subst e1
  exact h
theorem skipL_nb {a : UInt8} {q : List UInt8} (h : blankB a = false) : skipL (a :: q) = a :: q := by
  rw [skipL, List.dropWhile_cons, if_neg (by simp [h])]
theorem skipL_32 (q : List UInt8) : skipL (32 :: q) = skipL q := by
  rw [skipL, List.dropWhile_cons, if_pos (by rfl)]
  rfl
theorem atomP_32 (o : Pr) (l : List UInt8) : atomP o (32 :: l) = atomP o l := by
  unfold atomP
  rw [skipL_32]
theorem notP_32 (o : Pr) (l : List UInt8) : notP o (32 :: l) = notP o l := by
  unfold notP
  rw [skipL_32]
theorem tagB_blank {c : UInt8} (h : tagB c = true) : blankB c = false ∧ c ≠ 33 ∧ c ≠ 40 := by
  have hh := tagB_true h
  refine ⟨?_, ?_, ?_⟩
  · unfold blankB
    rw [Bool.or_eq_false_iff]
    constructor
    · rw [beq_eq_false_iff_ne]; rintro rfl; revert hh; decide
    · rw [beq_eq_false_iff_ne]; rintro rfl; revert hh; decide
  · rintro rfl; revert hh; decide
  · rintro rfl; revert hh; decide
theorem takeWhile_stop {l r : List UInt8} (h : l.all tagB = true) (hr : StopR r) : (l ++ r).takeWhile tagB = l ∧ (l ++ r).dropWhile tagB = r := by
  induction l with
  | nil =>
    cases r with
    | nil => exact ⟨rfl, rfl⟩
    | cons a q =>
      have := hr a q rfl
      simp [this]
  | cons a l ih =>
    simp only [List.all_cons, Bool.and_eq_true] at h
    obtain ⟨h1, h2⟩ := ih h.2
    simp only [List.cons_append, List.takeWhile_cons, List.dropWhile_cons, h.1, if_true]
    exact ⟨by rw [h1], h2⟩
theorem atomP_tag (o : Pr) (t : ByteArray) (ht : tagOkB t = true) (r : List UInt8) (hr : StopR r) : atomP o (t.data.toList ++ r) = some (.tag t, r) := by
  unfold tagOkB at ht
  rw [Bool.and_eq_true] at ht
  obtain ⟨h1, h2⟩ := ht
  obtain ⟨k1, k2⟩ := takeWhile_stop h1 hr
  have h3 : 0 < t.data.toList.length := by simpa using of_decide_eq_true h2
  cases hl : t.data.toList with
  | nil => rw [hl] at h3; simp at h3
  | cons a l =>
    rw [hl] at h1 k1 k2
    simp only [List.all_cons, Bool.and_eq_true] at h1
    obtain ⟨b1, b2, b3⟩ := tagB_blank h1.1
    unfold atomP
    rw [List.cons_append, skipL_nb b1]
    simp only [if_neg b3, h1.1, if_true]
    rw [List.cons_append] at k1 k2
    rw [k1, k2, ← hl]
theorem notP_tagR (o : Pr) (t : ByteArray) (ht : tagOkB t = true) (r : List UInt8) (hr : StopR r) : notP o (t.data.toList ++ r) = some (.tag t, r) := by
  have h := atomP_tag o t ht r hr
  have ht' := ht
  unfold tagOkB at ht'
  rw [Bool.and_eq_true] at ht'
  obtain ⟨h1, h2⟩ := ht'
  have h3 : 0 < t.data.toList.length := by simpa using of_decide_eq_true h2
  cases hl : t.data.toList with
  | nil => rw [hl] at h3; simp at h3
  | cons a l =>
    rw [hl] at h1 h
    simp only [List.all_cons, Bool.and_eq_true] at h1
    obtain ⟨b1, b2, b3⟩ := tagB_blank h1.1
    unfold notP
    rw [List.cons_append, skipL_nb b1]
    simp only [if_neg b2]
    rw [List.cons_append] at h
    exact h
theorem atomP_brk {o : Pr} {l r : List UInt8} {x : Ex} (h : o (l ++ 41 :: r) = some (x, 41 :: r)) : atomP o (40 :: (l ++ 41 :: r)) = some (x, r) := by
  unfold atomP
  rw [skipL_nb (by rfl)]
  simp only [if_true, h]
  rw [skipL_nb (by rfl)]
  rfl
theorem notP_brk {o : Pr} {l r : List UInt8} {x : Ex} (h : o (l ++ 41 :: r) = some (x, 41 :: r)) : notP o (40 :: (l ++ 41 :: r)) = some (x, r) := by
  have := atomP_brk h
  unfold notP
  rw [skipL_nb (by rfl)]
  simp only [if_neg (by decide : ¬ (40 : UInt8) = 33)]
  exact this
theorem notP_33 {o : Pr} {l q : List UInt8} {x : Ex} (hl : (skipL l).head? ≠ some 33) (h : atomP o l = some (x, q)) : notP o (33 :: l) = some (.not x, q) := by
  unfold notP
  rw [skipL_nb (by rfl)]
  simp only [if_true, if_neg hl, h]
theorem loop_go {c : UInt8} {mk : Ex → Ex → Ex} {p : Pr} (hp : Shr p) (hc : blankB c = false) {acc y : Ex} {l q : List UInt8} (h : p (32 :: l) = some (y, q)) : loopL c mk p acc (32 :: c :: c :: 32 :: l) = loopL c mk p (mk acc y) q := by
  have e : skipL (32 :: c :: c :: 32 :: l) = c :: c :: 32 :: l := by rw [skipL_32, skipL_nb hc]
  rw [loopL_go hp (by rw [e]; rfl), e]
  simp only [List.drop_succ_cons, List.drop_zero, h]

def EndA (r : List UInt8) : Prop := StopR r ∧ (skipL r).take 2 ≠ [38, 38]
def EndO (r : List UInt8) : Prop := EndA r ∧ (skipL r).take 2 ≠ [124, 124]
theorem endO_nil : EndO [] := ⟨⟨(fun a q h => by cases h), by simp [skipL]⟩, by simp [skipL]⟩
theorem endO_41 (r : List UInt8) : EndO (41 :: r) := by
  have e : skipL (41 :: r) = 41 :: r := skipL_nb (by rfl)
  refine ⟨⟨stop_cons (by decide), ?_⟩, ?_⟩
  · rw [e]; cases r <;> simp
  · rw [e]; cases r <;> simp

/- what is read of one part -/
def andA (x : Ex) : List UInt8 := brk (x.kind == 4) x.text
def orA (x : Ex) : List UInt8 := brk (x.kind == 3) x.text
def sAnd : List UInt8 := [32, 38, 38, 32]
def sOr : List UInt8 := [32, 124, 124, 32]
theorem stop_and (r : List UInt8) : StopR (sAnd ++ r) := stop_cons (by decide)
theorem endA_or (r : List UInt8) : EndA (sOr ++ r) := by
  refine ⟨stop_cons (by decide), ?_⟩
  show List.take 2 (skipL (32 :: 124 :: 124 :: 32 :: r)) ≠ [38, 38]
  rw [skipL_32, skipL_nb (by rfl)]
  simp
theorem text_and (x y : Ex) : (Ex.and x y).text = andA x ++ (sAnd ++ andA y) := rfl
theorem text_or (x y : Ex) : (Ex.or x y).text = orA x ++ (sOr ++ orA y) := rfl
theorem andA_id {x : Ex} (h : x.kind ≠ 4) : andA x = x.text := by
  unfold andA
  rw [show (x.kind == 4) = false from by simpa using h]
  rfl
theorem orA_id {x : Ex} (h : x.kind ≠ 3) : orA x = x.text := by
  unfold orA
  rw [show (x.kind == 3) = false from by simpa using h]
  rfl
theorem SameEx.andA {x' x : Ex} (h : SameEx x' x) : andA x' = andA x := by unfold Proofs.YteemenhinhkonaaDoor.andA; rw [h.kind, h.text]
theorem SameEx.orA {x' x : Ex} (h : SameEx x' x) : orA x' = orA x := by unfold Proofs.YteemenhinhkonaaDoor.orA; rw [h.kind, h.text]
def ReadsN (n : Nat) (l : List UInt8) (x : Ex) : Prop := ∃ x', SameEx x' x ∧ ∀ r, StopR r → notP (pOr n) (l ++ r) = some (x', r)
def ReadsA (n : Nat) (l : List UInt8) (x : Ex) : Prop := ∃ x', SameEx x' x ∧ ∀ r, EndA r → andP (pOr n) (l ++ r) = some (x', skipL r)
/- the three levels -/
def LevA (n : Nat) (x : Ex) : Prop :=
  (∃ x', SameEx x' x ∧ ∀ r, StopR r → andP (pOr n) (andA x ++ r) = loopL 38 .and (notP (pOr n)) x' r) ∧
  (∀ acc : Ex, ∃ acc' : Ex, acc'.kind = 3 ∧ acc'.text = andA acc ++ (sAnd ++ andA x) ∧ (∀ f, acc'.eval f = (acc.eval f && x.eval f)) ∧ acc'.leaves = acc.leaves + x.leaves ∧
    ∀ r, StopR r → loopL 38 .and (notP (pOr n)) acc (sAnd ++ (andA x ++ r)) = loopL 38 .and (notP (pOr n)) acc' r)
def LevO (n : Nat) (x : Ex) : Prop :=
  (∃ x', SameEx x' x ∧ ∀ r, EndA r → orP (pOr n) (orA x ++ r) = loopL 124 .or (andP (pOr n)) x' r) ∧
  (∀ acc : Ex, ∃ acc' : Ex, acc'.kind = 4 ∧ acc'.text = orA acc ++ (sOr ++ orA x) ∧ (∀ f, acc'.eval f = (acc.eval f || x.eval f)) ∧ acc'.leaves = acc.leaves + x.leaves ∧
    ∀ r, EndA r → loopL 124 .or (andP (pOr n)) acc (sOr ++ (orA x ++ r)) = loopL 124 .or (andP (pOr n)) acc' r)
def Whole (n : Nat) (x : Ex) : Prop := ∃ x', SameEx x' x ∧ ∀ r, EndO r → orP (pOr n) (x.text ++ r) = some (x', skipL r)
theorem loopL_skip {c : UInt8} {mk : Ex → Ex → Ex} {p : Pr} (hp : Shr p) (x : Ex) (l : List UInt8) : loopL c mk p x (skipL l) = loopL c mk p x l := by
  by_cases h : (skipL l).take 2 = [c, c]
  · rw [loopL_go hp h, loopL_go hp (by rw [skipL_skipL]; exact h), skipL_skipL]
  · rw [loopL_end h, loopL_end (by rw [skipL_skipL]; exact h), skipL_skipL]
theorem andP_32 (o : Pr) (l : List UInt8) : andP o (32 :: l) = andP o l := by
  unfold andP seqP
  rw [notP_32]

/- a part in brackets -/
theorem reads_brk {m : Nat} {x : Ex} (h : Whole m x) : ReadsN (m + 1) (40 :: (x.text ++ [41])) x := by
  obtain ⟨x', hs, hr⟩ := h
  refine ⟨x', hs, fun r _ => ?_⟩
  have := hr (41 :: r) (endO_41 r)
  rw [skipL_nb (by rfl)] at this
  have h2 : notP (pOr (m + 1)) (40 :: (x.text ++ 41 :: r)) = some (x', r) := notP_brk this
  simpa using h2
theorem atom_brk {m : Nat} {x : Ex} (h : Whole m x) : ∃ x', SameEx x' x ∧ ∀ r, atomP (pOr (m + 1)) (40 :: (x.text ++ [41]) ++ r) = some (x', r) := by
  obtain ⟨x', hs, hr⟩ := h
  refine ⟨x', hs, fun r => ?_⟩
  have := hr (41 :: r) (endO_41 r)
  rw [skipL_nb (by rfl)] at this
  have h2 : atomP (pOr (m + 1)) (40 :: (x.text ++ 41 :: r)) = some (x', r) := atomP_brk this
  simpa using h2
theorem readsA_of {n : Nat} {l : List UInt8} {x : Ex} (h : ReadsN n l x) : ReadsA n l x := by
  obtain ⟨x', hs, hr⟩ := h
  refine ⟨x', hs, fun r hr' => ?_⟩
  unfold andP
  rw [seqP_eq, hr r hr'.1]
  exact loopL_end hr'.2
theorem and_of_unit {n : Nat} {x : Ex} (h : ReadsN n (andA x) x) : LevA n x := by
  obtain ⟨x', hs, hr⟩ := h
  constructor
  · refine ⟨x', hs, fun r hr' => ?_⟩
    unfold andP
    rw [seqP_eq, hr r hr']
  · intro acc
    refine ⟨.and acc x', rfl, by rw [text_and, hs.andA], fun f => by simp [Ex.eval, hs.eval], by simp [Ex.leaves, hs.leaves], fun r hr' => ?_⟩
    exact loop_go (notN_shr n) (by rfl) (by rw [notP_32]; exact hr r hr')
theorem and_of_and {n : Nat} {x y : Ex} (hx : LevA n x) (hy : LevA n y) : LevA n (.and x y) := by
  have e0 : andA (.and x y) = andA x ++ (sAnd ++ andA y) := rfl
  obtain ⟨⟨x', hs, hx1⟩, hx2⟩ := hx
  obtain ⟨-, hy2⟩ := hy
  constructor
  · obtain ⟨z, hz1, hz2, hz3, hzl, hz4⟩ := hy2 x'
    refine ⟨z, ⟨hz1, by rw [hz2, hs.andA]; rfl, fun f => by rw [hz3, hs.eval]; rfl, by rw [hzl, hs.leaves]; rfl⟩, fun r hr => ?_⟩
    rw [e0, List.append_assoc, List.append_assoc, hx1 _ (stop_and _), hz4 r hr]
  · intro acc
    obtain ⟨z, hz1, hz2, hz3, hzl, hz4⟩ := hx2 acc
    obtain ⟨u, hu1, hu2, hu3, hul, hu4⟩ := hy2 z
    refine ⟨u, hu1, ?_, fun f => by rw [hu3, hz3, Bool.and_assoc]; rfl, by rw [hul, hzl, Nat.add_assoc]; rfl, fun r hr => ?_⟩
    · rw [hu2, andA_id (by rw [hz1]; decide), hz2, e0]
      simp only [List.append_assoc]
    · rw [e0, List.append_assoc, List.append_assoc, hz4 _ (stop_and _), hu4 r hr]
theorem or_of_unit {n : Nat} {x : Ex} (h : ReadsA n (orA x) x) : LevO n x := by
  obtain ⟨x', hs, hr⟩ := h
  constructor
  · refine ⟨x', hs, fun r hr' => ?_⟩
    unfold orP
    rw [seqP_eq, hr r hr']
    exact loopL_skip (andN_shr n) _ _
  · intro acc
    refine ⟨.or acc x', rfl, by rw [text_or, hs.orA], fun f => by simp [Ex.eval, hs.eval], by simp [Ex.leaves, hs.leaves], fun r hr' => ?_⟩
    rw [← loopL_skip (andN_shr n) (.or acc x') r]
    exact loop_go (andN_shr n) (by rfl) (by rw [andP_32]; exact hr r hr')
theorem or_of_or {n : Nat} {x y : Ex} (hx : LevO n x) (hy : LevO n y) : LevO n (.or x y) := by
  have e0 : orA (.or x y) = orA x ++ (sOr ++ orA y) := rfl
  obtain ⟨⟨x', hs, hx1⟩, hx2⟩ := hx
  obtain ⟨-, hy2⟩ := hy
  constructor
  · obtain ⟨z, hz1, hz2, hz3, hzl, hz4⟩ := hy2 x'
    refine ⟨z, ⟨hz1, by rw [hz2, hs.orA]; rfl, fun f => by rw [hz3, hs.eval]; rfl, by rw [hzl, hs.leaves]; rfl⟩, fun r hr => ?_⟩
    rw [e0, List.append_assoc, List.append_assoc, hx1 _ (endA_or _), hz4 r hr]
  · intro acc
    obtain ⟨z, hz1, hz2, hz3, hzl, hz4⟩ := hx2 acc
    obtain ⟨u, hu1, hu2, hu3, hul, hu4⟩ := hy2 z
    refine ⟨u, hu1, ?_, fun f => by rw [hu3, hz3, Bool.or_assoc]; rfl, by rw [hul, hzl, Nat.add_assoc]; rfl, fun r hr => ?_⟩
    · rw [hu2, orA_id (by rw [hz1]; decide), hz2, e0]
      simp only [List.append_assoc]
    · rw [e0, List.append_assoc, List.append_assoc, hz4 _ (endA_or _), hu4 r hr]
theorem whole_of_readsA {n : Nat} {x : Ex} (h : ReadsA n x.text x) : Whole n x := by
  obtain ⟨x', hs, hr⟩ := h
  refine ⟨x', hs, fun r hr' => ?_⟩
  unfold orP
  rw [seqP_eq, hr r hr'.1]
  simp only
  rw [loopL_skip (andN_shr n), loopL_end hr'.2]
theorem whole_of_levO {n : Nat} {x : Ex} (h4 : x.kind = 4) (h : LevO n x) : Whole n x := by
  obtain ⟨⟨x', hs, hr⟩, -⟩ := h
  refine ⟨x', hs, fun r hr' => ?_⟩
  have := hr r hr'.1
  rw [orA_id (by rw [h4]; decide)] at this
  rw [this, loopL_end hr'.2]
theorem readsA_of_levA {n : Nat} {x : Ex} (h4 : x.kind ≠ 4) (h : LevA n x) : ReadsA n x.text x := by
  obtain ⟨⟨x', hs, hr⟩, -⟩ := h
  refine ⟨x', hs, fun r hr' => ?_⟩
  have := hr r hr'.1
  rw [andA_id h4] at this
  rw [this, loopL_end hr'.2]

/- all of it -/
def AllR (x : Ex) : Prop := ∀ n, x.deep ≤ n + 1 → x.dbl = false → x.tagsOk → Whole n x ∧ LevA n x ∧ LevO n x
theorem allR_of_unit {n : Nat} {x : Ex} (h3 : x.kind ≠ 3) (h4 : x.kind ≠ 4) (h : ReadsN n x.text x) : Whole n x ∧ LevA n x ∧ LevO n x :=
  ⟨whole_of_readsA (readsA_of h), and_of_unit (by rw [andA_id h4]; exact h), or_of_unit (by rw [orA_id h3]; exact readsA_of h)⟩
theorem reads_all (x : Ex) : AllR x := by
  induction x with
  | tag t =>
    intro n _ _ ht
    exact allR_of_unit (by simp [Ex.kind]) (by simp [Ex.kind]) ⟨_, SameEx.refl _, fun r hr => notP_tagR _ t ht r hr⟩
  | not x ih =>
    intro n hd hb ht
    simp only [Ex.deep] at hd
    simp only [Ex.dbl, Bool.or_eq_false_iff] at hb
    refine allR_of_unit (by simp [Ex.kind]) (by simp [Ex.kind]) ?_
    obtain ⟨m, rfl⟩ : ∃ m, n = m + 1 := ⟨n - 1, by have := (leaves_deep x).2; omega⟩
    by_cases hk : (x.kind == 3 || x.kind == 4) = true
    · obtain ⟨x', hs, hr⟩ := atom_brk (ih m (by omega) hb.2 ht).1
      refine ⟨.not x', ⟨rfl, by simp only [Ex.text, hs.kind, hs.text], fun f => by simp only [Ex.eval, hs.eval], by simp only [Ex.leaves, hs.leaves]⟩, fun r _ => ?_⟩
      simp only [Ex.text, hk, brk, if_true]
      exact notP_33 (by show (skipL (40 :: (x.text ++ [41] ++ r))).head? ≠ some 33; rw [skipL_nb (by rfl)]; simp) (hr r)
    · cases x with
      | tag t =>
        refine ⟨.not (.tag t), SameEx.refl _, fun r hr => ?_⟩
        have ha := atomP_tag (pOr (m + 1)) t ht r hr
        refine notP_33 ?_ ha
        intro h33
        replace h33 : (skipL (t.data.toList ++ r)).head? = some 33 := h33
        unfold atomP at ha
        cases hl : skipL (t.data.toList ++ r) with
        | nil => rw [hl] at ha; cases ha
        | cons a q =>
          rw [hl] at ha h33
          obtain rfl : a = 33 := by simpa using h33
          simp only [if_neg (by decide : ¬ (33 : UInt8) = 40), if_neg (by decide : ¬ tagB 33 = true)] at ha
          cases ha
      | not y => simp [Ex.kind] at hb
      | and y z => simp [Ex.kind] at hk
      | or y z => simp [Ex.kind] at hk
  | and x y ihx ihy =>
    intro n hd hb ht
    simp only [Ex.deep] at hd
    simp only [Ex.dbl, Bool.or_eq_false_iff] at hb
    obtain ⟨-, hx, -⟩ := ihx n (by omega) hb.1 ht.1
    obtain ⟨-, hy, -⟩ := ihy n (by omega) hb.2 ht.2
    have ha := and_of_and hx hy
    have hr := readsA_of_levA (by simp [Ex.kind]) ha
    obtain ⟨m, rfl⟩ : ∃ m, n = m + 1 := ⟨n - 1, by have := (leaves_deep x).2; omega⟩
    obtain ⟨-, hx', -⟩ := ihx m (by omega) hb.1 ht.1
    obtain ⟨-, hy', -⟩ := ihy m (by omega) hb.2 ht.2
    exact ⟨whole_of_readsA hr, ha, or_of_unit (readsA_of (reads_brk (whole_of_readsA (readsA_of_levA (by simp [Ex.kind]) (and_of_and hx' hy')))))⟩
  | or x y ihx ihy =>
    intro n hd hb ht
    simp only [Ex.deep] at hd
    simp only [Ex.dbl, Bool.or_eq_false_iff] at hb
    obtain ⟨-, -, hx⟩ := ihx n (by omega) hb.1 ht.1
    obtain ⟨-, -, hy⟩ := ihy n (by omega) hb.2 ht.2
    have ho := or_of_or hx hy
    obtain ⟨m, rfl⟩ : ∃ m, n = m + 1 := ⟨n - 1, by have := (leaves_deep x).2; omega⟩
    obtain ⟨-, -, hx'⟩ := ihx m (by omega) hb.1 ht.1
    obtain ⟨-, -, hy'⟩ := ihy m (by omega) hb.2 ht.2
    exact ⟨whole_of_levO rfl ho, and_of_unit (reads_brk (whole_of_levO rfl (or_of_or hx' hy'))), ho⟩
theorem text_read {x : Ex} {n : Nat} (hd : x.deep ≤ n + 1) (hb : x.dbl = false) (ht : x.tagsOk) : ∃ x', SameEx x' x ∧ orP (pOr n) x.text = some (x', []) := by
  obtain ⟨⟨x', hs, hr⟩, -⟩ := reads_all x n hd hb ht
  refine ⟨x', hs, ?_⟩
  have := hr [] endO_nil
  simpa [skipL] using this
/- how long a text is -/
theorem text_len (x : Ex) (N : Nat) (h : x.tagsLe N) : x.text.length + 8 ≤ x.leaves * (N + 8) + 8 * 2 ^ x.deep := by
  induction x with
  | tag t =>
    simp only [Ex.tagsLe] at h
    simp only [Ex.text, Ex.leaves, Ex.deep]
    have : t.data.toList.length = t.size := by simp
    omega
  | not x ih =>
    have := ih h
    simp only [Ex.text, Ex.leaves, Ex.deep, List.length_cons]
    have h1 : (brk (x.kind == 3 || x.kind == 4) x.text).length ≤ x.text.length + 2 := by cases (x.kind == 3 || x.kind == 4) <;> simp [brk]
    have h2 := Nat.one_le_two_pow (n := x.deep)
    rw [Nat.pow_succ]
    omega
  | and x y ihx ihy | or x y ihx ihy =>
    have hx := ihx h.1
    have hy := ihy h.2
    simp only [Ex.text, Ex.leaves, Ex.deep, List.length_append, List.length_cons, List.length_nil]
    have hb : ∀ (b : Bool) (l : List UInt8), (brk b l).length ≤ l.length + 2 := by intro b l; cases b <;> simp [brk]
    have h1 := hb (x.kind == 4) x.text
    have h2 := hb (y.kind == 4) y.text
    have h3 := hb (x.kind == 3) x.text
    have h4 := hb (y.kind == 3) y.text
    have p1 : 2 ^ x.deep ≤ 2 ^ max x.deep y.deep := Nat.pow_le_pow_right (by omega) (by omega)
    have p2 : 2 ^ y.deep ≤ 2 ^ max x.deep y.deep := Nat.pow_le_pow_right (by omega) (by omega)
    rw [Nat.pow_succ, Nat.add_mul]
    omega
end Go.Proofs.YteemenhinhkonaaDoor
