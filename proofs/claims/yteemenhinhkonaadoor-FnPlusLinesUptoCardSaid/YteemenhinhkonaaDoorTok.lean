/- The grammar of the lines once more, on tokens, with the count of parts that the package bounds; that it reads what the grammar on letters reads. Nothing of the program is in it. -/
import Derived.Test.YteemenhinhkonaaDoorGram
namespace Go.Proofs.YteemenhinhkonaaDoor

inductive Tok where
  | sym (c : UInt8)
  | op (c : UInt8)
  | tag (t : List UInt8)
  | err
def symB (a : UInt8) : Bool := a == 40 || a == 41 || a == 33
def opB (a : UInt8) : Bool := a == 38 || a == 124
def lexT (tl : List UInt8 → Nat) : Nat → List UInt8 → List Tok
  | 0, _ => []
  | k + 1, l =>
    match skipL l with
    | [] => []
    | a :: r =>
      if symB a then .sym a :: lexT tl k r
      else if opB a then (if r.head? = some a then .op a :: lexT tl k r.tail else [.err])
      else if tl (a :: r) = 0 then [.err] else .tag ((a :: r).take (tl (a :: r))) :: lexT tl k ((a :: r).drop (tl (a :: r)))
def toks (tl : List UInt8 → Nat) (l : List UInt8) : List Tok := lexT tl l.length l
theorem lexT_bound (tl : List UInt8 → Nat) : ∀ k m l, l.length ≤ k → l.length ≤ m → lexT tl k l = lexT tl m l := by
  intro k
  induction k with
  | zero =>
    intro m l hk hm
    obtain rfl : l = [] := List.eq_nil_of_length_eq_zero (by omega)
    cases m with
    | zero => rfl
    | succ m => rfl
  | succ k ih =>
    intro m l hk hm
    cases m with
    | zero =>
      obtain rfl : l = [] := List.eq_nil_of_length_eq_zero (by omega)
      rfl
    | succ m =>
      unfold lexT
      have hs := skipL_length l
      cases hl : skipL l with
      | nil => rfl
      | cons a r =>
        rw [hl] at hs
        simp only [List.length_cons] at hs
        simp only
        split
        · rw [ih m r (by omega) (by omega)]
        · split
          · split
            · rw [ih m r.tail (by rw [List.length_tail]; omega) (by rw [List.length_tail]; omega)]
            · rfl
          · split
            · rfl
            · rename_i h0
              rw [ih m _ (by rw [List.length_drop, List.length_cons]; omega) (by rw [List.length_drop, List.length_cons]; omega)]
theorem toks_eq (tl : List UInt8 → Nat) (l : List UInt8) : toks tl l = match skipL l with
    | [] => []
    | a :: r =>
      if symB a then .sym a :: toks tl r
      else if opB a then (if r.head? = some a then .op a :: toks tl r.tail else [.err])
      else if tl (a :: r) = 0 then [.err] else .tag ((a :: r).take (tl (a :: r))) :: toks tl ((a :: r).drop (tl (a :: r))) := by
  have hs := skipL_length l
  unfold toks
  rw [lexT_bound tl l.length (l.length + 1) l (Nat.le_refl _) (by omega), lexT]
  cases hl : skipL l with
  | nil => rfl
  | cons a r =>
    rw [hl] at hs
    simp only [List.length_cons] at hs
    simp only
    rw [lexT_bound tl l.length r.length r (by omega) (Nat.le_refl _), lexT_bound tl l.length r.tail.length r.tail (by rw [List.length_tail]; omega) (Nat.le_refl _), lexT_bound tl l.length _ ((a :: r).drop (tl (a :: r))) (by rw [List.length_drop, List.length_cons]; omega) (Nat.le_refl _)]
theorem toks_skip (tl : List UInt8 → Nat) (l : List UInt8) : toks tl (skipL l) = toks tl l := by
  rw [toks_eq tl (skipL l), toks_eq tl l, skipL_skipL]
theorem toks_nil {tl : List UInt8 → Nat} {l : List UInt8} (h : skipL l = []) : toks tl l = [] := by rw [toks_eq, h]
theorem toks_sym {tl : List UInt8 → Nat} {l r : List UInt8} {a : UInt8} (h : skipL l = a :: r) (ha : symB a = true) : toks tl l = .sym a :: toks tl r := by rw [toks_eq, h]; simp only [ha, if_true]
theorem toks_op {tl : List UInt8 → Nat} {l r : List UInt8} {a : UInt8} (h : skipL l = a :: a :: r) (ha : opB a = true) : toks tl l = .op a :: toks tl r := by
  have hs : symB a = false := by unfold opB at ha; unfold symB; rw [Bool.or_eq_true, beq_iff_eq, beq_iff_eq] at ha; rcases ha with rfl | rfl <;> rfl
  rw [toks_eq, h]
  simp [ha, hs]
theorem toks_opbad {tl : List UInt8 → Nat} {l r : List UInt8} {a : UInt8} (h : skipL l = a :: r) (ha : opB a = true) (hr : r.head? ≠ some a) : toks tl l = [.err] := by
  have hs : symB a = false := by unfold opB at ha; unfold symB; rw [Bool.or_eq_true, beq_iff_eq, beq_iff_eq] at ha; rcases ha with rfl | rfl <;> rfl
  rw [toks_eq, h]
  simp [ha, hs, hr]
theorem toks_tag {tl : List UInt8 → Nat} {l r : List UInt8} {a : UInt8} (h : skipL l = a :: r) (ha : symB a = false) (hb : opB a = false) (hn : tl (a :: r) ≠ 0) : toks tl l = .tag ((a :: r).take (tl (a :: r))) :: toks tl ((a :: r).drop (tl (a :: r))) := by
  rw [toks_eq, h]
  simp [ha, hb, hn]
theorem toks_none {tl : List UInt8 → Nat} {l r : List UInt8} {a : UInt8} (h : skipL l = a :: r) (ha : symB a = false) (hb : opB a = false) (hn : tl (a :: r) = 0) : toks tl l = [.err] := by
  rw [toks_eq, h]
  simp [ha, hb, hn]

/- the grammar -/
abbrev GP := Nat → List Tok → Option (Ex × List Tok × Nat)
def errB : List Tok → Bool
  | .err :: _ => true
  | _ => false
def gAtom (o : GP) (z : Nat) : List Tok → Option (Ex × List Tok × Nat)
  | .sym c :: ts => if c = 40 then (match o z ts with | some (x, .sym d :: q, z') => if d = 41 ∧ errB q = false then some (x, q, z') else none | _ => none) else none
  | .tag t :: ts => if errB ts then none else some (.tag ⟨t.toArray⟩, ts, z)
  | _ => none
theorem gAtom_sym (o : GP) (z : Nat) (c : UInt8) (ts : List Tok) : gAtom o z (.sym c :: ts) = if c = 40 then (match o z ts with | some (x, .sym d :: q, z') => if d = 41 ∧ errB q = false then some (x, q, z') else none | _ => none) else none := rfl
theorem gAtom_tag (o : GP) (z : Nat) (t : List UInt8) (ts : List Tok) : gAtom o z (.tag t :: ts) = if errB ts then none else some (.tag ⟨t.toArray⟩, ts, z) := rfl
def bangB : List Tok → Bool
  | .sym c :: _ => c == 33
  | _ => false
def gNot (o : GP) (z : Nat) (ts : List Tok) : Option (Ex × List Tok × Nat) :=
  if 1000 < z + 1 then none
  else if bangB ts then
    (if bangB ts.tail then none else match gAtom o (z + 1) ts.tail with | some (x, q, z') => some (.not x, q, z') | none => none)
  else gAtom o (z + 1) ts
def headOp (c : UInt8) : List Tok → Bool
  | .op d :: _ => d == c
  | _ => false
def gLoop (c : UInt8) (mk : Ex → Ex → Ex) (p : GP) : Nat → Ex → Nat → List Tok → Option (Ex × List Tok × Nat)
  | 0, x, z, ts => if headOp c ts then none else some (x, ts, z)
  | k + 1, x, z, ts => if headOp c ts then (match p z ts.tail with | none => none | some (y, q, z') => gLoop c mk p k (mk x y) z' q) else some (x, ts, z)
def gLoopL (c : UInt8) (mk : Ex → Ex → Ex) (p : GP) (x : Ex) (z : Nat) (ts : List Tok) : Option (Ex × List Tok × Nat) := gLoop c mk p (1001 - z) x z ts
def gSeq (c : UInt8) (mk : Ex → Ex → Ex) (p : GP) (z : Nat) (ts : List Tok) : Option (Ex × List Tok × Nat) :=
  match p z ts with
  | none => none
  | some (x, q, z') => gLoopL c mk p x z' q
def gAnd (o : GP) : GP := gSeq 38 .and (gNot o)
def gOr (o : GP) : GP := gSeq 124 .or (gAnd o)
def gO : Nat → GP
  | 0 => fun _ _ => none
  | n + 1 => gOr (gO n)

/- the count rises, and stays below its bound -/
def Rise (p : GP) : Prop := ∀ z ts x q z', p z ts = some (x, q, z') → z < z' ∧ z' ≤ 1000
def RiseE (p : GP) : Prop := ∀ z ts x q z', z ≤ 1000 → p z ts = some (x, q, z') → z ≤ z' ∧ z' ≤ 1000
theorem atom_rise {o : GP} (h : Rise o) : RiseE (gAtom o) := by
  intro z ts x q z' hz ha
  unfold gAtom at ha
  split at ha
  · split at ha
    · split at ha
      · rename_i hh
        split at ha
        · simp only [Option.some.injEq, Prod.mk.injEq] at ha
          obtain ⟨_, _, rfl⟩ := ha
          have := h _ _ _ _ _ hh
          omega
        · cases ha
      · cases ha
    · cases ha
  · split at ha
    · cases ha
    · simp only [Option.some.injEq, Prod.mk.injEq] at ha
      obtain ⟨_, _, rfl⟩ := ha
      omega
  · cases ha
theorem not_rise {o : GP} (h : Rise o) : Rise (gNot o) := by
  intro z ts x q z' ha
  unfold gNot at ha
  split at ha
  · cases ha
  · split at ha
    · split at ha
      · cases ha
      · split at ha
        · rename_i hh
          simp only [Option.some.injEq, Prod.mk.injEq] at ha
          obtain ⟨_, _, rfl⟩ := ha
          have := atom_rise h _ _ _ _ _ (by omega) hh
          omega
        · cases ha
    · have := atom_rise h _ _ _ _ _ (by omega) ha
      omega
theorem loop_rise {c : UInt8} {mk : Ex → Ex → Ex} {p : GP} (h : Rise p) : ∀ k x z ts y q z', z ≤ 1000 → gLoop c mk p k x z ts = some (y, q, z') → z ≤ z' ∧ z' ≤ 1000 := by
  intro k
  induction k with
  | zero =>
    intro x z ts y q z' hz ha
    unfold gLoop at ha
    split at ha
    · cases ha
    · simp only [Option.some.injEq, Prod.mk.injEq] at ha
      obtain ⟨_, _, rfl⟩ := ha
      omega
  | succ k ih =>
    intro x z ts y q z' hz ha
    unfold gLoop at ha
    split at ha
    · split at ha
      · cases ha
      · rename_i hh
        have h1 := h _ _ _ _ _ hh
        have h2 := ih _ _ _ _ _ _ (by omega) ha
        omega
    · simp only [Option.some.injEq, Prod.mk.injEq] at ha
      obtain ⟨_, _, rfl⟩ := ha
      omega
theorem seq_rise {c : UInt8} {mk : Ex → Ex → Ex} {p : GP} (h : Rise p) : Rise (gSeq c mk p) := by
  intro z ts x q z' ha
  unfold gSeq at ha
  split at ha
  · cases ha
  · rename_i hh
    have h1 := h _ _ _ _ _ hh
    have h2 := loop_rise h _ _ _ _ _ _ _ (by omega) ha
    omega
theorem gO_rise (n : Nat) : Rise (gO n) := by
  induction n with
  | zero => intro z ts x q z' h; cases h
  | succ n ih => exact seq_rise (seq_rise (not_rise ih))
theorem notG_rise (n : Nat) : Rise (gNot (gO n)) := not_rise (gO_rise n)
theorem andG_rise (n : Nat) : Rise (gAnd (gO n)) := seq_rise (notG_rise n)
theorem gLoop_bound {c : UInt8} {mk : Ex → Ex → Ex} {p : GP} (h : Rise p) : ∀ k x z ts m, z ≤ 1000 → 1001 ≤ k + z → 1001 ≤ m + z → gLoop c mk p k x z ts = gLoop c mk p m x z ts := by
  intro k
  induction k with
  | zero => intro x z ts m hz hk; omega
  | succ k ih =>
    intro x z ts m hz hk hm
    cases m with
    | zero => omega
    | succ m =>
      unfold gLoop
      split
      · cases hp : p z ts.tail with
        | none => rfl
        | some a =>
          obtain ⟨y, q, z'⟩ := a
          have := h _ _ _ _ _ hp
          exact ih _ _ _ _ (by omega) (by omega) (by omega)
      · rfl
theorem gLoopL_go {c : UInt8} {mk : Ex → Ex → Ex} {p : GP} (h : Rise p) {x : Ex} {z : Nat} {ts : List Tok} (hz : z ≤ 1000) (hh : headOp c ts = true) :
    gLoopL c mk p x z ts = match p z ts.tail with | none => none | some (y, q, z') => gLoopL c mk p (mk x y) z' q := by
  unfold gLoopL
  obtain ⟨k, hk⟩ : ∃ k, 1001 - z = k + 1 := ⟨1000 - z, by omega⟩
  rw [hk, gLoop, if_pos hh]
  cases hp : p z ts.tail with
  | none => rfl
  | some a =>
    obtain ⟨y, q, z'⟩ := a
    have := h _ _ _ _ _ hp
    exact gLoop_bound h _ _ _ _ _ (by omega) (by omega) (by omega)
theorem gLoopL_end {c : UInt8} {mk : Ex → Ex → Ex} {p : GP} {x : Ex} {z : Nat} {ts : List Tok} (hh : headOp c ts = false) : gLoopL c mk p x z ts = some (x, ts, z) := by
  unfold gLoopL
  cases 1001 - z with
  | zero => rw [gLoop, if_neg (by simp [hh])]
  | succ k => rw [gLoop, if_neg (by simp [hh])]

/- a text of ASCII letters -/
def tlA (l : List UInt8) : Nat := (l.takeWhile tagB).length
theorem take_tlA (l : List UInt8) : l.take (tlA l) = l.takeWhile tagB ∧ l.drop (tlA l) = l.dropWhile tagB := by
  unfold tlA
  induction l with
  | nil => exact ⟨rfl, rfl⟩
  | cons a l ih =>
    rw [List.takeWhile_cons, List.dropWhile_cons]
    split
    · simp only [List.length_cons, List.take_succ_cons, List.drop_succ_cons]
      exact ⟨by rw [ih.1], ih.2⟩
    · exact ⟨rfl, rfl⟩
theorem tlA_pos {a : UInt8} {r : List UInt8} (h : tagB a = true) : tlA (a :: r) ≠ 0 := by
  unfold tlA
  rw [List.takeWhile_cons, if_pos h]
  simp
theorem tlA_zero {a : UInt8} {r : List UInt8} (h : tagB a = false) : tlA (a :: r) = 0 := by
  unfold tlA
  rw [List.takeWhile_cons, if_neg (by simp [h])]
  rfl
theorem tag_plain {a : UInt8} (h : tagB a = true) : symB a = false ∧ opB a = false ∧ a ≠ 40 ∧ a ≠ 33 := by
  have hh := tagB_true h
  have key : ∀ c : UInt8, ¬ ((97 ≤ c.toNat ∧ c.toNat ≤ 122) ∨ (65 ≤ c.toNat ∧ c.toNat ≤ 90) ∨ (48 ≤ c.toNat ∧ c.toNat ≤ 57) ∨ c.toNat = 95 ∨ c.toNat = 46) → a ≠ c := by rintro c hc rfl; exact hc hh
  have k1 : a ≠ 40 := key 40 (by decide)
  have k2 : a ≠ 41 := key 41 (by decide)
  have k3 : a ≠ 33 := key 33 (by decide)
  have k4 : a ≠ 38 := key 38 (by decide)
  have k5 : a ≠ 124 := key 124 (by decide)
  exact ⟨by simp [symB, k1, k2, k3], by simp [opB, k4, k5], k1, k3⟩
theorem toks_same (tl : List UInt8 → Nat) (htl : ∀ l : List UInt8, (∀ c ∈ l, c.toNat < 128) → tl l = tlA l) : ∀ k (l : List UInt8), l.length ≤ k → (∀ c ∈ l, c.toNat < 128) → toks tl l = toks tlA l := by
  intro k
  induction k with
  | zero =>
    intro l hk _
    obtain rfl : l = [] := List.eq_nil_of_length_eq_zero (by omega)
    rfl
  | succ k ih =>
    intro l hk hl
    have hs := skipL_length l
    have hsub : ∀ c ∈ skipL l, c.toNat < 128 := fun c hc => hl c ((List.dropWhile_sublist blankB).subset hc)
    rw [toks_eq tl, toks_eq tlA]
    cases hsk : skipL l with
    | nil => rfl
    | cons a r =>
      rw [hsk] at hs hsub
      simp only [List.length_cons] at hs
      have hr : ∀ c ∈ r, c.toNat < 128 := fun c hc => hsub c (List.mem_cons_of_mem _ hc)
      simp only
      rw [htl _ hsub, ih r (by omega) hr, ih r.tail (by rw [List.length_tail]; omega) (fun c hc => hr c (List.mem_of_mem_tail hc))]
      by_cases h0 : tlA (a :: r) = 0
      · simp only [h0, if_true]
      · rw [ih ((a :: r).drop (tlA (a :: r))) (by rw [List.length_drop, List.length_cons]; omega) (fun c hc => hsub c (List.mem_of_mem_drop hc))]

abbrev tA (l : List UInt8) : List Tok := toks tlA l
theorem tA_tag {l r : List UInt8} {a : UInt8} (h : skipL l = a :: r) (ha : tagB a = true) : tA l = .tag ((a :: r).takeWhile tagB) :: tA ((a :: r).dropWhile tagB) := by
  obtain ⟨h1, h2, _⟩ := tag_plain ha
  have := toks_tag (tl := tlA) h h1 h2 (tlA_pos ha)
  rw [(take_tlA (a :: r)).1, (take_tlA (a :: r)).2] at this
  exact this

/- what stands at the head of the tokens, read back from the letters -/
theorem tA_inv (l : List UInt8) : (skipL l = [] ∧ tA l = []) ∨ (∃ a r, skipL l = a :: r ∧ symB a = true ∧ tA l = .sym a :: tA r) ∨ (∃ a r, skipL l = a :: a :: r ∧ opB a = true ∧ tA l = .op a :: tA r) ∨
    (∃ a r, skipL l = a :: r ∧ tagB a = true ∧ tA l = .tag ((a :: r).takeWhile tagB) :: tA ((a :: r).dropWhile tagB)) ∨ tA l = [.err] := by
  cases hl : skipL l with
  | nil => exact .inl ⟨rfl, toks_nil hl⟩
  | cons a r =>
    by_cases h1 : symB a = true
    · exact .inr (.inl ⟨a, r, rfl, h1, toks_sym hl h1⟩)
    · rw [Bool.not_eq_true] at h1
      by_cases h2 : opB a = true
      · by_cases h3 : r.head? = some a
        · cases r with
          | nil => cases h3
          | cons b r =>
            obtain rfl : b = a := by simpa using h3
            exact .inr (.inr (.inl ⟨b, r, rfl, h2, toks_op hl h2⟩))
        · exact .inr (.inr (.inr (.inr (toks_opbad hl h2 h3))))
      · rw [Bool.not_eq_true] at h2
        by_cases h3 : tagB a = true
        · exact .inr (.inr (.inr (.inl ⟨a, r, rfl, h3, tA_tag hl h3⟩)))
        · exact .inr (.inr (.inr (.inr (toks_none hl h1 h2 (tlA_zero (by simpa using h3))))))

/- what the letters' grammar reads, the tokens' grammar reads: as long as the count stays below its bound -/
def NE (r : List UInt8) : Prop := errB (tA r) = false
theorem NE_skip {r : List UInt8} (h : NE (skipL r)) : NE r := by unfold NE tA at *; rw [toks_skip] at h; exact h
def Fwd (o : Pr) (g : GP) : Prop := ∀ l x r z, o l = some (x, r) → NE r → 2 * z + (l.length - r.length) + 1 ≤ 2000 → ∃ z', z < z' ∧ 2 * z' ≤ 2 * z + (l.length - r.length) + 1 ∧ g z (tA l) = some (x, tA r, z')
theorem atom_fwd {o : Pr} {g : GP} (hs : Shr o) (ho : Fwd o g) : ∀ l x r z, atomP o l = some (x, r) → NE r → 2 * z + (l.length - r.length) ≤ 2001 → ∃ z', z ≤ z' ∧ 2 * z' + 1 ≤ 2 * z + (l.length - r.length) ∧ gAtom g z (tA l) = some (x, tA r, z') := by
  intro l x r z ha hne hz
  unfold atomP at ha
  have hsl := skipL_length l
  cases hl : skipL l with
  | nil => rw [hl] at ha; cases ha
  | cons a q =>
    rw [hl] at ha hsl
    simp only [List.length_cons] at hsl
    simp only at ha
    by_cases h40 : a = 40
    · rw [if_pos h40] at ha
      subst h40
      cases hp : o q with
      | none => rw [hp] at ha; cases ha
      | some y =>
        obtain ⟨y, q'⟩ := y
        rw [hp] at ha
        simp only at ha
        split at ha
        · rename_i h41
          simp only [Option.some.injEq, Prod.mk.injEq] at ha
          obtain ⟨rfl, rfl⟩ := ha
          cases hq : skipL q' with
          | nil => rw [hq] at h41; cases h41
          | cons b q'' =>
            rw [hq] at h41
            obtain rfl : b = 41 := by simpa using h41
            have h1 := hs _ _ _ hp
            have h2 := skipL_length q'
            rw [hq] at h2
            have hqt : (skipL q').tail = q'' := by rw [hq]; rfl
            rw [hqt] at hne hz
            simp only [List.length_cons, List.tail_cons] at h2 ⊢
            have hq2 : tA q' = .sym 41 :: tA q'' := toks_sym hq rfl
            obtain ⟨z', hz1, hz2, hz3⟩ := ho q y q' z hp (by unfold NE; rw [hq2]; rfl) (by omega)
            refine ⟨z', by omega, by omega, ?_⟩
            rw [show tA l = .sym 40 :: tA q from toks_sym hl rfl]
            unfold NE at hne
            simp only [gAtom, if_true, hz3, hq2, hne, and_self]
        · cases ha
    · rw [if_neg h40] at ha
      split at ha
      · rename_i ht
        simp only [Option.some.injEq, Prod.mk.injEq] at ha
        obtain ⟨rfl, rfl⟩ := ha
        rw [List.dropWhile_cons, if_pos ht] at hz hne ⊢
        have := dropWhile_le tagB q
        refine ⟨z, by omega, by omega, ?_⟩
        rw [tA_tag hl ht, List.dropWhile_cons, if_pos ht]
        unfold NE at hne
        simp only [gAtom, hne]
        rfl
      · cases ha
theorem not_fwd {o : Pr} {g : GP} (hs : Shr o) (ho : Fwd o g) : Fwd (notP o) (gNot g) := by
  intro l x r z ha hne hz
  have hshr := notP_shr hs l x r ha
  unfold notP at ha
  have hsl := skipL_length l
  cases hl : skipL l with
  | nil => rw [hl] at ha; cases ha
  | cons a q =>
    rw [hl] at ha hsl
    simp only [List.length_cons] at hsl
    simp only at ha
    by_cases h33 : a = 33
    · rw [if_pos h33] at ha
      subst h33
      split at ha
      · cases ha
      · rename_i hnb
        cases hp : atomP o q with
        | none => rw [hp] at ha; cases ha
        | some y =>
          obtain ⟨y, q'⟩ := y
          rw [hp] at ha
          simp only [Option.some.injEq, Prod.mk.injEq] at ha
          obtain ⟨rfl, rfl⟩ := ha
          obtain ⟨z', hz1, hz2, hz3⟩ := atom_fwd hs ho q y q' (z + 1) hp hne (by omega)
          refine ⟨z', by omega, by omega, ?_⟩
          rw [show tA l = .sym 33 :: tA q from toks_sym hl rfl]
          unfold gNot
          rw [if_neg (by omega), if_pos (by rfl), List.tail_cons, if_neg, hz3]
          rcases tA_inv q with ⟨_, h⟩ | ⟨b, q2, h1, h2, h3⟩ | ⟨b, q2, h1, h2, h3⟩ | ⟨b, q2, h1, h2, h3⟩ | h
          · rw [h]; simp [bangB]
          · rw [h3]
            intro hb
            have : b = 33 := by simpa [bangB] using hb
            subst this
            exact hnb (by rw [h1]; rfl)
          · rw [h3]; simp [bangB]
          · rw [h3]; simp [bangB]
          · rw [h]; simp [bangB]
    · rw [if_neg h33] at ha
      have hlen : (a :: q).length ≤ l.length := by simpa using hsl
      have h1 := atomP_shr hs _ _ _ ha
      simp only [List.length_cons] at h1 hlen
      obtain ⟨z', hz1, hz2, hz3⟩ := atom_fwd hs ho (a :: q) x r (z + 1) ha hne (by simp only [List.length_cons]; omega)
      simp only [List.length_cons] at hz2
      refine ⟨z', by omega, by omega, ?_⟩
      have e : tA (a :: q) = tA l := by rw [← hl]; exact toks_skip _ _
      rw [e] at hz3
      unfold gNot
      rw [if_neg (by omega), if_neg, hz3]
      rcases tA_inv l with ⟨_, h⟩ | ⟨b, q2, h1, h2, h3⟩ | ⟨b, q2, h1, h2, h3⟩ | ⟨b, q2, h1, h2, h3⟩ | h
      · rw [h]; simp [bangB]
      · rw [h3]
        intro hb
        have : b = 33 := by simpa [bangB] using hb
        subst this
        rw [hl] at h1
        injection h1 with h1 _
        exact h33 h1
      · rw [h3]; simp [bangB]
      · rw [h3]; simp [bangB]
      · rw [h]; simp [bangB]
theorem tA_op {c : UInt8} (hc : opB c = true) {l : List UInt8} (h : (skipL l).take 2 = [c, c]) : tA l = .op c :: tA ((skipL l).drop 2) := by
  match hs : skipL l, h with
  | a :: b :: r, h =>
    obtain ⟨rfl, rfl⟩ : a = c ∧ b = c := by simpa using h
    exact toks_op hs hc
  | [], h => simp at h
  | [_], h => simp at h
theorem tA_noop {c : UInt8} {l : List UInt8} (h : (skipL l).take 2 ≠ [c, c]) : headOp c (tA l) = false := by
  rcases tA_inv l with ⟨_, h'⟩ | ⟨b, q2, h1, h2, h3⟩ | ⟨b, q2, h1, h2, h3⟩ | ⟨b, q2, h1, h2, h3⟩ | h'
  · rw [h']; rfl
  · rw [h3]; rfl
  · rw [h3]
    cases hb : headOp c (.op b :: tA q2) with
    | false => rfl
    | true =>
      have : b = c := by simpa [headOp] using hb
      subst this
      exact absurd (by rw [h1]; rfl) h
  · rw [h3]; rfl
  · rw [h']; rfl
theorem loop_fwd {c : UInt8} (hc : opB c = true) {mk : Ex → Ex → Ex} {o : Pr} {g : GP} (hs : Shr o) (ho : Fwd o g) (hg : Rise g) : ∀ k x l y r z, l.length ≤ k → loopL c mk o x l = some (y, r) → NE r → 2 * z + (l.length - r.length) ≤ 2000 →
    ∃ z', z ≤ z' ∧ 2 * z' ≤ 2 * z + (l.length - r.length) ∧ gLoopL c mk g x z (tA l) = some (y, tA r, z') := by
  intro k
  induction k with
  | zero =>
    intro x l y r z hk ha hne hz
    obtain rfl : l = [] := List.eq_nil_of_length_eq_zero (by omega)
    rw [loopL_end (by simp [skipL])] at ha
    simp only [skipL, List.dropWhile_nil, Option.some.injEq, Prod.mk.injEq] at ha
    obtain ⟨rfl, rfl⟩ := ha
    exact ⟨z, by omega, by omega, gLoopL_end rfl⟩
  | succ k ih =>
    intro x l y r z hk ha hne hz
    have hsl := skipL_length l
    by_cases h2 : (skipL l).take 2 = [c, c]
    · have hlen : 2 ≤ (skipL l).length := by
        have := congrArg List.length h2
        simp at this
        omega
      rw [loopL_go hs h2] at ha
      cases hp : o ((skipL l).drop 2) with
      | none => rw [hp] at ha; cases ha
      | some a =>
        obtain ⟨u, q⟩ := a
        rw [hp] at ha
        simp only at ha
        have h1 := hs _ _ _ hp
        rw [List.length_drop] at h1
        have hrq : r.length ≤ q.length := loopP_shr hs _ _ _ _ _ ha
        have hneq : NE q := by
          by_cases hq2 : (skipL q).take 2 = [c, c]
          · unfold NE; rw [tA_op hc hq2]; rfl
          · rw [loopL_end hq2] at ha
            simp only [Option.some.injEq, Prod.mk.injEq] at ha
            rw [← ha.2] at hne
            exact NE_skip hne
        obtain ⟨z1, hz1, hz2, hz3⟩ := ho _ u q z hp hneq (by rw [List.length_drop]; omega)
        rw [List.length_drop] at hz2
        obtain ⟨z2, hy1, hy2, hy3⟩ := ih (mk x u) q y r z1 (by omega) ha hne (by omega)
        refine ⟨z2, by omega, by omega, ?_⟩
        rw [tA_op hc h2, gLoopL_go hg (by omega) (by simp [headOp]), List.tail_cons, hz3]
        exact hy3
    · rw [loopL_end h2] at ha
      simp only [Option.some.injEq, Prod.mk.injEq] at ha
      obtain ⟨rfl, rfl⟩ := ha
      refine ⟨z, by omega, by omega, ?_⟩
      rw [gLoopL_end (tA_noop h2)]
      unfold tA
      rw [toks_skip]
theorem seq_fwd {c : UInt8} (hc : opB c = true) {mk : Ex → Ex → Ex} {o : Pr} {g : GP} (hs : Shr o) (ho : Fwd o g) (hg : Rise g) : Fwd (seqP c mk o) (gSeq c mk g) := by
  intro l x r z ha hne hz
  rw [seqP_eq] at ha
  cases hp : o l with
  | none => rw [hp] at ha; cases ha
  | some a =>
    obtain ⟨u, q⟩ := a
    rw [hp] at ha
    simp only at ha
    have h1 := hs _ _ _ hp
    have hrq : r.length ≤ q.length := loopP_shr hs _ _ _ _ _ ha
    have hneq : NE q := by
      by_cases hq2 : (skipL q).take 2 = [c, c]
      · unfold NE; rw [tA_op hc hq2]; rfl
      · rw [loopL_end hq2] at ha
        simp only [Option.some.injEq, Prod.mk.injEq] at ha
        rw [← ha.2] at hne
        exact NE_skip hne
    obtain ⟨z1, hz1, hz2, hz3⟩ := ho _ u q z hp hneq (by omega)
    obtain ⟨z2, hy1, hy2, hy3⟩ := loop_fwd hc hs ho hg q.length u q x r z1 (Nat.le_refl _) ha hne (by omega)
    refine ⟨z2, by omega, by omega, ?_⟩
    unfold gSeq
    rw [hz3]
    exact hy3
theorem pOr_fwd (n : Nat) : Fwd (pOr n) (gO n) := by
  induction n with
  | zero => intro l x r z h; cases h
  | succ n ih => exact seq_fwd rfl (andN_shr n) (seq_fwd rfl (notN_shr n) (not_fwd (pOr_shr n) ih) (notG_rise n)) (andG_rise n)
theorem orP_fwd (n : Nat) : Fwd (orP (pOr n)) (gOr (gO n)) := pOr_fwd (n + 1)

/- and the other way -/
def Bwd (o : Pr) (g : GP) : Prop := ∀ l x ts z z', g z (tA l) = some (x, ts, z') → ∃ r, o l = some (x, r) ∧ tA r = ts
theorem atom_bwd {o : Pr} {g : GP} (ho : Bwd o g) : Bwd (atomP o) (gAtom g) := by
  intro l x ts z z' ha
  rcases tA_inv l with ⟨_, h⟩ | ⟨b, q, h1, h2, h3⟩ | ⟨b, q, h1, h2, h3⟩ | ⟨b, q, h1, h2, h3⟩ | h
  · rw [h] at ha; cases ha
  · rw [h3, gAtom_sym] at ha
    split at ha
    · rename_i h40
      subst h40
      split at ha
      · rename_i y d q' z1 hh
        split at ha
        · rename_i hd
          obtain ⟨rfl, he⟩ := hd
          simp only [Option.some.injEq, Prod.mk.injEq] at ha
          obtain ⟨rfl, rfl, rfl⟩ := ha
          obtain ⟨r, hr1, hr2⟩ := ho _ _ _ _ _ hh
          rcases tA_inv r with ⟨_, h⟩ | ⟨b, q2, k1, k2, k3⟩ | ⟨b, q2, k1, k2, k3⟩ | ⟨b, q2, k1, k2, k3⟩ | h
          · rw [h] at hr2; cases hr2
          · rw [k3] at hr2
            injection hr2 with e1 e2
            injection e1 with e1
            subst e1
            refine ⟨q2, ?_, e2⟩
            unfold atomP
            rw [h1]
            simp only [if_true, hr1, k1, List.head?_cons, List.tail_cons]
          · rw [k3] at hr2; injection hr2 with e1 e2; cases e1
          · rw [k3] at hr2; injection hr2 with e1 e2; cases e1
          · rw [h] at hr2; injection hr2 with e1 e2; cases e1
        · cases ha
      · cases ha
    · cases ha
  · rw [h3] at ha; cases ha
  · rw [h3, gAtom_tag] at ha
    split at ha
    · cases ha
    · simp only [Option.some.injEq, Prod.mk.injEq] at ha
      obtain ⟨rfl, rfl, rfl⟩ := ha
      refine ⟨_, ?_, rfl⟩
      unfold atomP
      rw [h1]
      simp only [if_neg (tag_plain h2).2.2.1, h2, if_true]
  · rw [h] at ha; cases ha
theorem not_bwd {o : Pr} {g : GP} (ho : Bwd o g) : Bwd (notP o) (gNot g) := by
  intro l x ts z z' ha
  unfold gNot at ha
  split at ha
  · cases ha
  · split at ha
    · rename_i hb
      split at ha
      · cases ha
      · rename_i hnb
        rcases tA_inv l with ⟨_, h⟩ | ⟨b, q, h1, h2, h3⟩ | ⟨b, q, h1, h2, h3⟩ | ⟨b, q, h1, h2, h3⟩ | h
        · rw [h] at hb; cases hb
        · rw [h3] at hb ha hnb
          have : b = 33 := by simpa [bangB] using hb
          subst this
          simp only [List.tail_cons] at ha hnb
          split at ha
          · rename_i y q' z1 hh
            simp only [Option.some.injEq, Prod.mk.injEq] at ha
            obtain ⟨rfl, rfl, rfl⟩ := ha
            obtain ⟨r, hr1, hr2⟩ := atom_bwd ho _ _ _ _ _ hh
            refine ⟨r, ?_, hr2⟩
            unfold notP
            rw [h1]
            have : (skipL q).head? ≠ some 33 := by
              intro e
              cases hq : skipL q with
              | nil => rw [hq] at e; cases e
              | cons d q2 =>
                rw [hq] at e
                obtain rfl : d = 33 := by simpa using e
                rw [show tA q = .sym 33 :: tA q2 from toks_sym hq rfl] at hnb
                exact hnb rfl
            simp only [if_true, if_neg this, hr1]
          · cases ha
        · rw [h3] at hb; cases hb
        · rw [h3] at hb; cases hb
        · rw [h] at hb; cases hb
    · rename_i hb
      cases hl : skipL l with
      | nil => rw [show tA l = [] from toks_nil hl] at ha; cases ha
      | cons a q =>
        have h33 : a ≠ 33 := by
          rintro rfl
          rw [show tA l = .sym 33 :: tA q from toks_sym hl rfl] at hb
          exact hb rfl
        have e : tA l = tA (a :: q) := by rw [← hl]; exact (toks_skip _ _).symm
        rw [e] at ha
        obtain ⟨r, hr1, hr2⟩ := atom_bwd ho _ _ _ _ _ ha
        refine ⟨r, ?_, hr2⟩
        unfold notP
        rw [hl]
        simp only [if_neg h33]
        exact hr1
theorem loop_bwd {c : UInt8} (hc : opB c = true) {mk : Ex → Ex → Ex} {o : Pr} {g : GP} (hs : Shr o) (ho : Bwd o g) : ∀ k x l y ts z z', gLoop c mk g k x z (tA l) = some (y, ts, z') → ∃ r, loopL c mk o x l = some (y, r) ∧ tA r = ts := by
  have fin : ∀ (x : Ex) (l : List UInt8) (y : Ex) (ts : List Tok) (z z' : Nat), headOp c (tA l) = false → some (x, tA l, z) = some (y, ts, z') → ∃ r, loopL c mk o x l = some (y, r) ∧ tA r = ts := by
    intro x l y ts z z' hh ha
    simp only [Option.some.injEq, Prod.mk.injEq] at ha
    obtain ⟨rfl, rfl, rfl⟩ := ha
    refine ⟨skipL l, loopL_end ?_, toks_skip _ _⟩
    intro h2
    match hl : skipL l, h2 with
    | a :: b :: r, h2 =>
      obtain ⟨ea, eb⟩ : a = c ∧ b = c := by simpa using h2
      rw [ea, eb] at hl
      rw [show tA l = .op c :: tA r from toks_op hl hc] at hh
      simp [headOp] at hh
    | [], h2 => simp at h2
    | [_], h2 => simp at h2
  intro k
  induction k with
  | zero =>
    intro x l y ts z z' ha
    unfold gLoop at ha
    split at ha
    · cases ha
    · rename_i hh
      exact fin x l y ts z z' (by simpa using hh) ha
  | succ k ih =>
    intro x l y ts z z' ha
    unfold gLoop at ha
    split at ha
    · rename_i hh
      split at ha
      · cases ha
      · rename_i u q z1 hp
        rcases tA_inv l with ⟨_, h⟩ | ⟨b, q2, h1, h2, h3⟩ | ⟨b, q2, h1, h2, h3⟩ | ⟨b, q2, h1, h2, h3⟩ | h
        · rw [h] at hh; cases hh
        · rw [h3] at hh; cases hh
        · rw [h3] at hh hp
          have : b = c := by simpa [headOp] using hh
          subst this
          simp only [List.tail_cons] at hp
          obtain ⟨r, hr1, hr2⟩ := ho _ _ _ _ _ hp
          rw [← hr2] at ha
          obtain ⟨r', hr3, hr4⟩ := ih _ _ _ _ _ _ ha
          refine ⟨r', ?_, hr4⟩
          rw [loopL_go hs (by rw [h1]; rfl), h1]
          simp only [List.drop_succ_cons, List.drop_zero, hr1]
          exact hr3
        · rw [h3] at hh; cases hh
        · rw [h] at hh; cases hh
    · rename_i hh
      exact fin x l y ts z z' (by simpa using hh) ha
theorem seq_bwd {c : UInt8} (hc : opB c = true) {mk : Ex → Ex → Ex} {o : Pr} {g : GP} (hs : Shr o) (ho : Bwd o g) : Bwd (seqP c mk o) (gSeq c mk g) := by
  intro l x ts z z' ha
  unfold gSeq at ha
  split at ha
  · cases ha
  · rename_i u q z1 hp
    obtain ⟨r, hr1, hr2⟩ := ho _ _ _ _ _ hp
    rw [← hr2] at ha
    obtain ⟨r', hr3, hr4⟩ := loop_bwd hc hs ho _ _ _ _ _ _ _ ha
    exact ⟨r', by rw [seqP_eq, hr1]; exact hr3, hr4⟩
theorem pOr_bwd (n : Nat) : Bwd (pOr n) (gO n) := by
  induction n with
  | zero => intro l x ts z z' h; cases h
  | succ n ih => exact seq_bwd rfl (andN_shr n) (seq_bwd rfl (notN_shr n) (not_bwd ih))
theorem orP_bwd (n : Nat) : Bwd (orP (pOr n)) (gOr (gO n)) := pOr_bwd (n + 1)
end Go.Proofs.YteemenhinhkonaaDoor
