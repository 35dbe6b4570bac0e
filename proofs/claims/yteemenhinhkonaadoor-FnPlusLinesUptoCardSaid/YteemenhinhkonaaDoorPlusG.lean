/- Lines // +build as the package reads them: what stands behind the word, the words of it, their terms, and what the whole says; as plain functions. -/
import Derived.Test.YteemenhinhkonaaDoorTrim
import Derived.Test.YteemenhinhkonaaDoorTabs
import Derived.Test.YteemenhinhkonaaDoorStr
namespace Go.Proofs.YteemenhinhkonaaDoor
open Go.Lib

def plWord : List UInt8 := [43, 98, 117, 105, 108, 100]
def cutT (r : List UInt8) : Option (List UInt8) := if (r.length == (trimSpaceD r).length && !r.isEmpty) = true then none else some (trimSpaceD r)
def goText (l : List UInt8) : Option (List UInt8) := if hasPrefix l goWord = true then cutT ((trimSpaceD l).drop 10) else none
def plText (l : List UInt8) : Option (List UInt8) :=
  if hasPrefix l [47, 47] = true then (if hasPrefix (trimSpaceD (l.drop 2)) plWord = true then cutT ((trimSpaceD (l.drop 2)).drop 6) else none) else none
theorem trim_infix (l : List UInt8) : ∃ a b, l = a ++ (trimSpaceD l ++ b) := by
  obtain ⟨a, ha⟩ := trimLeft_suffix l.length l
  obtain ⟨b, hb⟩ := trimRight_prefix l.length (trimLeftD l.length l)
  refine ⟨a, b, ?_⟩
  unfold trimSpaceD
  rw [← hb]
  exact ha
theorem cutT_blank (line r' b : List UInt8) (h1 : 32 :: line = r' ++ b) : cutT r' = some (trimSpaceD r') := by
  unfold cutT
  rw [if_neg]
  rcases go_text line r' b h1 with rfl | h
  · simp
  · intro e
    simp only [Bool.and_eq_true, beq_iff_eq] at e
    omega
theorem goText_word (l : List UInt8) : (goText (goWord ++ 32 :: l)).isSome = true := by
  obtain ⟨r', b, h1, h2⟩ := go_split l
  unfold goText
  rw [if_pos (by simp [hasPrefix, goWord]), h1, show (goWord ++ r').drop 10 = r' from rfl, cutT_blank l r' b h2]
  rfl
theorem pl_split (line : List UInt8) : ∃ r' b, trimSpaceD (32 :: (plWord ++ 32 :: line)) = plWord ++ r' ∧ 32 :: line = r' ++ b := by
  have hl : trimLeftD (32 :: (plWord ++ 32 :: line)).length (32 :: (plWord ++ 32 :: line)) = plWord ++ 32 :: line := by
    rw [show (32 :: (plWord ++ 32 :: line)).length = ((plWord ++ 32 :: line).length - 1 + 1) + 1 from by simp [plWord]]
    rw [left_step _ 32 _ rfl]
    exact left_stop _ 43 _ rfl (by decide)
  obtain ⟨r', b, h1, h2⟩ := trimRight_keeps [43, 98, 117, 105, 108] 100 (by decide) (32 :: (plWord ++ 32 :: line)).length (32 :: line)
  refine ⟨r', b, ?_, h2⟩
  unfold trimSpaceD
  rw [hl]
  exact h1
theorem plText_word (l : List UInt8) : (plText (47 :: 47 :: 32 :: (plWord ++ 32 :: l))).isSome = true := by
  obtain ⟨r', b, h1, h2⟩ := pl_split l
  unfold plText
  rw [if_pos (by simp [hasPrefix]), show (47 :: 47 :: 32 :: (plWord ++ 32 :: l)).drop 2 = 32 :: (plWord ++ 32 :: l) from rfl, h1, if_pos (by simp [hasPrefix, plWord]), show (plWord ++ r').drop 6 = r' from rfl, cutT_blank l r' b h2]
  rfl
theorem not_both (l : List UInt8) (h : (goText l).isSome = true) : plText l = none := by
  have hp : hasPrefix l goWord = true := by
    unfold goText at h
    split at h
    · assumption
    · cases h
  obtain ⟨r, rfl⟩ := List.isPrefixOf_iff_prefix.1 hp
  unfold plText
  rw [if_pos (by simp [hasPrefix, goWord])]
  refine if_neg fun hq => ?_
  obtain ⟨q, hq⟩ := List.isPrefixOf_iff_prefix.1 hq
  rw [show (goWord ++ r).drop 2 = 103 :: ([111, 58, 98, 117, 105, 108, 100] ++ r) from rfl] at hq
  generalize [111, 58, 98, 117, 105, 108, 100] ++ r = x at hq
  unfold trimSpaceD at hq
  rw [List.length_cons, left_stop _ 103 x rfl (by decide)] at hq
  obtain ⟨b, hb⟩ := trimRight_prefix (x.length + 1) (103 :: x)
  rw [← hq] at hb
  simp [plWord] at hb
theorem plText_holds (l : List UInt8) (h : (plText l).isSome = true) : hasPrefix l [47, 47] = true ∧ ∃ i, i < l.length ∧ hasPrefix (l.drop i) plWord = true := by
  unfold plText at h
  split at h
  · rename_i h1
    refine ⟨h1, ?_⟩
    split at h
    · rename_i h2
      obtain ⟨q, hq⟩ := List.isPrefixOf_iff_prefix.1 h2
      obtain ⟨a, b, he⟩ := trim_infix (l.drop 2)
      rw [← hq] at he
      have hd : l.drop (2 + a.length) = plWord ++ (q ++ b) := by
        rw [← List.drop_drop, he, List.drop_left, List.append_assoc]
      refine ⟨2 + a.length, ?_, ?_⟩
      · have := congrArg List.length hd
        rw [List.length_drop, List.length_append] at this
        simp [plWord] at this
        omega
      · rw [hd]
        exact List.isPrefixOf_iff_prefix.2 ⟨_, rfl⟩
    · cases h
  · cases h
theorem trim_clean {m t u : List UInt8} {c d : UInt8} (h1 : m = c :: t) (h2 : m = u ++ [d]) (hc : isSp c = false) (hc2 : c.toNat < 128) (hd : isSp d = false) (hd2 : d.toNat < 128) : trimSpaceD (32 :: m) = m := by
  unfold trimSpaceD
  have hl : trimLeftD (32 :: m).length (32 :: m) = m := by
    rw [List.length_cons, left_step _ 32 _ rfl, h1, List.length_cons, left_stop _ c t hc hc2]
  rw [hl, List.length_cons, h2, right_stop _ u d hd hd2]
theorem plText_line {m t u : List UInt8} {c d : UInt8} (h1 : m = c :: t) (h2 : m = u ++ [d]) (hc : isSp c = false) (hc2 : c.toNat < 128) (hd : isSp d = false) (hd2 : d.toNat < 128) : plText (47 :: 47 :: 32 :: (plWord ++ 32 :: m)) = some m := by
  have h3 : trimSpaceD (32 :: (plWord ++ 32 :: m)) = plWord ++ 32 :: m := trim_clean (t := [98, 117, 105, 108, 100] ++ 32 :: m) (u := plWord ++ 32 :: u) (c := 43) (d := d) rfl (by rw [h2]; simp [plWord]) rfl (by decide) hd hd2
  have h4 := trim_clean h1 h2 hc hc2 hd hd2
  unfold plText
  rw [if_pos (by simp [hasPrefix]), show (47 :: 47 :: 32 :: (plWord ++ 32 :: m)).drop 2 = 32 :: (plWord ++ 32 :: m) from rfl, h3, if_pos (by simp [hasPrefix, plWord]), show (plWord ++ 32 :: m).drop 6 = 32 :: m from rfl]
  unfold cutT
  rw [h4, if_neg (by simp)]

/- terms -/
def ign : ByteArray := { data := #[105, 103, 110, 111, 114, 101] }
def validB (s : ByteArray) : Bool := decide (0 < s.size) && decide (tagEnd s (s.size + 1) 0 = s.size)
def litTag (l : List UInt8) : Ex := if validB (mkB l) = true then .tag (mkB l) else .tag ign
def litEx (l : List UInt8) : Ex := if (hasPrefix l [33, 33] || l == [33]) = true then .tag ign else if hasPrefix l [33] = true then .not (litTag (l.drop 1)) else litTag l
def splitGo : List UInt8 → List UInt8 → List (List UInt8)
  | cur, [] => [cur]
  | cur, c :: r => if c = 44 then cur :: splitGo [] r else splitGo (cur ++ [c]) r
def splitC (l : List UInt8) : List (List UInt8) := splitGo [] l
def joinO (mk : Ex → Ex → Ex) (x : Option Ex) (y : Ex) : Option Ex := some (match x with | none => y | some x => mk x y)
def clauseO (ls : List (List UInt8)) : Option Ex := ls.foldl (fun y l => joinO .and y (litEx l)) none
def clauseEx (c : List UInt8) : Ex := (clauseO (splitC c)).getD (.tag ign)
def lineO (cs : List (List UInt8)) : Option Ex := cs.foldl (fun x c => joinO .or x (clauseEx c)) none
def plusEx (t : List UInt8) : Ex := (lineO (fieldsD t)).getD (.tag ign)
def litsC (cs : List (List UInt8)) : Nat := (cs.map fun c => (splitC c).length).sum
theorem clauseO_snoc (ls : List (List UInt8)) (l : List UInt8) : clauseO (ls ++ [l]) = joinO .and (clauseO ls) (litEx l) := by unfold clauseO; rw [List.foldl_append]; rfl
theorem lineO_snoc (cs : List (List UInt8)) (c : List UInt8) : lineO (cs ++ [c]) = joinO .or (lineO cs) (clauseEx c) := by unfold lineO; rw [List.foldl_append]; rfl
theorem litsC_snoc (cs : List (List UInt8)) (c : List UInt8) : litsC (cs ++ [c]) = litsC cs + (splitC c).length := by simp [litsC]
theorem splitGo_pos (l : List UInt8) : ∀ cur, 1 ≤ (splitGo cur l).length := by
  induction l with
  | nil => intro cur; simp [splitGo]
  | cons c r ih =>
    intro cur
    unfold splitGo
    split
    · simp
    · exact ih _
theorem snoc_recT {β : Type} {P : List β → Prop} (h0 : P []) (h1 : ∀ l c, P l → P (l ++ [c])) (l : List β) : P l := by
  have key : ∀ m : List β, P m.reverse := by
    intro m
    induction m with
    | nil => exact h0
    | cons c m ih => rw [List.reverse_cons]; exact h1 _ _ ih
  have := key l.reverse
  rwa [List.reverse_reverse] at this
theorem clause_eval (f : ByteArray → Bool) (ls : List (List UInt8)) (h : ls ≠ []) : ∃ y, clauseO ls = some y ∧ y.eval f = ls.all fun l => (litEx l).eval f := by
  induction ls using snoc_recT with
  | h0 => exact absurd rfl h
  | h1 ls l ih =>
    rw [clauseO_snoc]
    by_cases hl : ls = []
    · subst hl
      exact ⟨litEx l, rfl, by simp⟩
    · obtain ⟨y, h1, h2⟩ := ih hl
      rw [h1]
      exact ⟨_, rfl, by simp [Ex.eval, h2]⟩
theorem line_eval (f : ByteArray → Bool) (cs : List (List UInt8)) (h : cs ≠ []) : ∃ y, lineO cs = some y ∧ y.eval f = cs.any fun c => (clauseEx c).eval f := by
  induction cs using snoc_recT with
  | h0 => exact absurd rfl h
  | h1 cs c ih =>
    rw [lineO_snoc]
    by_cases hl : cs = []
    · subst hl
      exact ⟨clauseEx c, rfl, by simp⟩
    · obtain ⟨y, h1, h2⟩ := ih hl
      rw [h1]
      exact ⟨_, rfl, by simp [Ex.eval, h2]⟩

/- lines that are made of good terms -/
def tagOkL (l : List UInt8) : Bool := l.all tagB && !l.isEmpty
def goodT (t : List UInt8) : Bool := match t with | 33 :: u => tagOkL u | _ => tagOkL t
def termB (c : UInt8) : Bool := tagB c || c == 33
def wordB (c : UInt8) : Bool := termB c || c == 44
def commaT (ts : List (List UInt8)) : List UInt8 := ts.flatMap fun t => 44 :: t
def optW : List (List UInt8) → List UInt8
  | [] => []
  | t :: r => t ++ commaT r
def optT : List (List UInt8) → List UInt8
  | [] => []
  | t :: r => 32 :: (t ++ commaT r)
def plHead : List UInt8 := [47, 47, 32, 43, 98, 117, 105, 108, 100]
def lineOf (os : List (List (List UInt8))) : List UInt8 := plHead ++ os.flatMap optT
def termV (f : ByteArray → Bool) (t : List UInt8) : Bool := match t with | 33 :: u => !f (mkB u) | _ => f (mkB t)
def holdsO (os : List (List (List UInt8))) (f : ByteArray → Bool) : Bool := os.any fun o => o.all (termV f)
theorem optT_snoc (ts : List (List UInt8)) (t : List UInt8) : optT (ts ++ [t]) = optT ts ++ (if ts = [] then 32 else 44) :: t := by
  cases ts with
  | nil => simp [optT, commaT]
  | cons u r => simp [optT, commaT]
theorem lineOf_snoc (os : List (List (List UInt8))) (o : List (List UInt8)) : lineOf (os ++ [o]) = lineOf os ++ optT o := by simp [lineOf]
theorem tagB_facts {c : UInt8} (h : tagB c = true) : c.toNat < 128 ∧ c ≠ 33 ∧ c ≠ 44 ∧ c ≠ 32 ∧ isSp c = false := by
  have h1 := tagB_true h
  have ne : ∀ d : UInt8, c.toNat ≠ d.toNat → c ≠ d := fun d hd e => hd (by rw [e])
  refine ⟨by omega, ne _ ?_, ne _ ?_, ne _ ?_, ?_⟩
  · show c.toNat ≠ 33; omega
  · show c.toNat ≠ 44; omega
  · show c.toNat ≠ 32; omega
  · simp only [isSp, Bool.or_eq_false_iff, beq_eq_false_iff_ne]
    refine ⟨⟨⟨⟨⟨ne _ ?_, ne _ ?_⟩, ne _ ?_⟩, ne _ ?_⟩, ne _ ?_⟩, ne _ ?_⟩
    all_goals first | (show c.toNat ≠ 9; omega) | (show c.toNat ≠ 10; omega) | (show c.toNat ≠ 11; omega) | (show c.toNat ≠ 12; omega) | (show c.toNat ≠ 13; omega) | (show c.toNat ≠ 32; omega)
theorem wordB_facts {c : UInt8} (h : wordB c = true) : c.toNat < 128 ∧ c ≠ 32 ∧ isSp c = false := by
  unfold wordB termB at h
  simp only [Bool.or_eq_true, beq_iff_eq] at h
  rcases h with (h | rfl) | rfl
  · have := tagB_facts h
    exact ⟨this.1, this.2.2.2.1, this.2.2.2.2⟩
  · exact ⟨by decide, by decide, rfl⟩
  · exact ⟨by decide, by decide, rfl⟩
theorem tagOkL_good {l : List UInt8} (h : tagOkL l = true) : l.all termB = true ∧ l ≠ [] := by
  unfold tagOkL at h
  simp only [Bool.and_eq_true, Bool.not_eq_true', List.isEmpty_eq_false_iff] at h
  refine ⟨?_, h.2⟩
  rw [List.all_eq_true] at h ⊢
  intro c hc
  unfold termB
  rw [h.1 c hc]
  rfl
theorem goodT_all {t : List UInt8} (h : goodT t = true) : t.all termB = true ∧ t ≠ [] := by
  unfold goodT at h
  split at h
  · obtain ⟨h1, h2⟩ := tagOkL_good h
    refine ⟨?_, by simp⟩
    rw [List.all_cons, h1]
    rfl
  · exact tagOkL_good h
theorem validB_ok {l : List UInt8} (h : tagOkL l = true) : validB (mkB l) = true := by
  unfold tagOkL at h
  simp only [Bool.and_eq_true, Bool.not_eq_true', List.isEmpty_eq_false_iff] at h
  have hlt : ∀ c ∈ l, c.toNat < 128 := fun c hc => (tagB_facts (List.all_eq_true.1 h.1 c hc)).1
  have hl := tlG_ascii l hlt
  unfold tlG at hl
  have hta : tlA l = l.length := by
    have := (takeWhile_stop h.1 (r := []) (fun a q e => by cases e)).1
    rw [List.append_nil] at this
    unfold tlA
    rw [this]
  have hpos : 0 < l.length := List.length_pos_iff.2 h.2
  unfold validB
  rw [mkB_size, hl, hta]
  simp [hpos]
theorem litEx_good {t : List UInt8} (h : goodT t = true) (f : ByteArray → Bool) : (litEx t).eval f = termV f t := by
  unfold goodT at h
  split at h
  · rename_i u
    have h1 := validB_ok h
    unfold tagOkL at h
    simp only [Bool.and_eq_true, Bool.not_eq_true', List.isEmpty_eq_false_iff] at h
    obtain ⟨c, r, rfl⟩ := List.exists_cons_of_ne_nil h.2
    have hc := (tagB_facts (List.all_eq_true.1 h.1 c (by simp))).2.1
    unfold litEx
    rw [if_neg (by simp [hasPrefix]; exact fun e => hc e.symm), if_pos (by simp [hasPrefix])]
    simp only [List.drop_succ_cons, List.drop_zero]
    unfold litTag
    rw [if_pos h1]
    rfl
  · rename_i hn
    have h1 := validB_ok h
    unfold tagOkL at h
    simp only [Bool.and_eq_true, Bool.not_eq_true', List.isEmpty_eq_false_iff] at h
    obtain ⟨c, r, rfl⟩ := List.exists_cons_of_ne_nil h.2
    have hc := (tagB_facts (List.all_eq_true.1 h.1 c (by simp))).2.1
    have hc' : ¬ (33 : UInt8) = c := fun e => hc e.symm
    unfold litEx
    rw [if_neg (by simp [hasPrefix, hc, hc']), if_neg (by simp [hasPrefix, hc'])]
    unfold litTag
    rw [if_pos h1]
    unfold termV
    split
    · rename_i e
      injection e with e1 e2
      exact absurd e1 hc
    · rfl
theorem splitGo_skip {t : List UInt8} (h : t.all termB = true) (l : List UInt8) : ∀ cur, splitGo cur (t ++ l) = splitGo (cur ++ t) l := by
  induction t with
  | nil => intro cur; simp
  | cons c r ih =>
    intro cur
    rw [List.all_cons, Bool.and_eq_true] at h
    have hc : c ≠ 44 := by
      have := h.1
      unfold termB at this
      simp only [Bool.or_eq_true, beq_iff_eq] at this
      rcases this with h | rfl
      · exact (tagB_facts h).2.2.1
      · decide
    rw [List.cons_append, splitGo, if_neg hc, ih h.2]
    simp
theorem splitGo_opt (r : List (List UInt8)) : ∀ (t cur : List UInt8), t.all termB = true → (∀ u ∈ r, u.all termB = true) → splitGo cur (t ++ commaT r) = (cur ++ t) :: r := by
  induction r with
  | nil =>
    intro t cur ht _
    rw [splitGo_skip ht]
    rfl
  | cons u r ih =>
    intro t cur ht hr
    rw [splitGo_skip ht]
    show splitGo (cur ++ t) (44 :: (u ++ commaT r)) = _
    rw [splitGo, if_pos rfl, ih u [] (hr u (by simp)) (fun v hv => hr v (by simp [hv]))]
    rfl
theorem splitC_opt {ts : List (List UInt8)} (hn : ts ≠ []) (h : ∀ t ∈ ts, goodT t = true) : splitC (optW ts) = ts := by
  obtain ⟨t, r, rfl⟩ := List.exists_cons_of_ne_nil hn
  exact splitGo_opt r t [] (goodT_all (h t (by simp))).1 (fun u hu => (goodT_all (h u (by simp [hu]))).1)
def wordsT : List (List UInt8) → List UInt8
  | [] => []
  | w :: r => w ++ r.flatMap fun v => 32 :: v
theorem fields_skip {w : List UInt8} (h : w.all wordB = true) (l : List UInt8) (f : Nat) : ∀ cur, fieldsGoD (f + w.length) cur (w ++ l) = fieldsGoD f (cur ++ w) l := by
  induction w with
  | nil => intro cur; simp
  | cons c r ih =>
    intro cur
    rw [List.all_cons, Bool.and_eq_true] at h
    obtain ⟨h1, h2, h3⟩ := wordB_facts h.1
    rw [List.length_cons, show f + (r.length + 1) = (f + r.length) + 1 from by omega, List.cons_append]
    rw [fieldsGoD, if_neg (by simp), decodeL_ascii c _ h1, if_neg (by rw [isSp_false h3 h1]; simp)]
    show fieldsGoD (f + r.length) (cur ++ [c]) (r ++ l) = _
    rw [ih h.2]
    simp
theorem fields_words (r : List (List UInt8)) : ∀ (w cur : List UInt8) (f : Nat), w.all wordB = true → cur ++ w ≠ [] → (∀ v ∈ r, v.all wordB = true ∧ v ≠ []) → (w ++ r.flatMap fun v => 32 :: v).length ≤ f → fieldsGoD f cur (w ++ r.flatMap fun v => 32 :: v) = (cur ++ w) :: r := by
  induction r with
  | nil =>
    intro w cur f hw hne _ hf
    simp only [List.flatMap_nil, List.append_nil] at hf ⊢
    have e := fields_skip hw [] (f - w.length) cur
    rw [show f - w.length + w.length = f from by omega, List.append_nil] at e
    rw [e]
    cases f - w.length with
    | zero => unfold fieldsGoD; rw [if_neg hne]
    | succ k => unfold fieldsGoD; rw [if_pos rfl, if_neg hne]
  | cons v r ih =>
    intro w cur f hw hne hr hf
    rw [List.flatMap_cons, List.length_append] at hf
    rw [List.flatMap_cons]
    have e := fields_skip hw ((32 :: v) ++ r.flatMap fun v => 32 :: v) (f - w.length) cur
    rw [show f - w.length + w.length = f from by omega] at e
    rw [e]
    obtain ⟨k, hk⟩ : ∃ k, f - w.length = k + 1 := ⟨f - w.length - 1, by simp at hf; omega⟩
    rw [hk, List.cons_append, fieldsGoD, if_neg (by simp), decodeL_ascii 32 _ (by decide), if_pos (by rfl), if_neg hne]
    show [cur ++ w] ++ fieldsGoD k [] (v ++ r.flatMap fun v => 32 :: v) = _
    rw [ih v [] k (hr v (by simp)).1 (by rw [List.nil_append]; exact (hr v (by simp)).2) (fun u hu => hr u (by simp [hu])) (by simp at hf ⊢; omega)]
    rfl
theorem fieldsD_words {ws : List (List UInt8)} (hn : ws ≠ []) (h : ∀ w ∈ ws, w.all wordB = true ∧ w ≠ []) : fieldsD (wordsT ws) = ws := by
  obtain ⟨w, r, rfl⟩ := List.exists_cons_of_ne_nil hn
  show fieldsGoD ((w ++ r.flatMap fun v => 32 :: v).length + 1) [] (w ++ r.flatMap fun v => 32 :: v) = _
  exact fields_words r w [] _ (h w (by simp)).1 (by rw [List.nil_append]; exact (h w (by simp)).2) (fun v hv => h v (by simp [hv])) (by omega)
theorem words_last (ws : List (List UInt8)) (hn : ws ≠ []) (h : ∀ w ∈ ws, w.all wordB = true ∧ w ≠ []) : ∃ u d, wordsT ws = u ++ [d] ∧ wordB d = true := by
  rcases List.eq_nil_or_concat ws with rfl | ⟨vs, w, rfl⟩
  · exact absurd rfl hn
  · rw [List.concat_eq_append] at h ⊢
    obtain ⟨h1, h2⟩ := h w (by simp)
    rcases List.eq_nil_or_concat w with rfl | ⟨x, d, rfl⟩
    · exact absurd rfl h2
    · rw [List.concat_eq_append] at h1 ⊢
      have hd : wordB d = true := by
        rw [List.all_append, Bool.and_eq_true] at h1
        simpa using h1.2
      cases vs with
      | nil => exact ⟨x, d, by simp [wordsT], hd⟩
      | cons v r => exact ⟨v ++ (r.flatMap fun v => 32 :: v) ++ 32 :: x, d, by simp [wordsT], hd⟩
theorem words_no10 (ws : List (List UInt8)) (h : ∀ w ∈ ws, w.all wordB = true) : (10 : UInt8) ∉ wordsT ws := by
  have hw : ∀ w ∈ ws, (10 : UInt8) ∉ w := fun w hw hc => by
    have := List.all_eq_true.1 (h w hw) 10 hc
    exact absurd this (by decide)
  cases ws with
  | nil => simp [wordsT]
  | cons w r =>
    intro hc
    rw [wordsT, List.mem_append, List.mem_flatMap] at hc
    rcases hc with hc | ⟨v, hv, hc⟩
    · exact hw w (by simp) hc
    · rcases List.mem_cons.1 hc with e | hc
      · exact absurd e (by decide)
      · exact hw v (by simp [hv]) hc
theorem opts_words (os : List (List (List UInt8))) (hn : os ≠ []) (h : ∀ o ∈ os, o ≠ []) : os.flatMap optT = 32 :: wordsT (os.map optW) := by
  have key : ∀ r : List (List (List UInt8)), (∀ o ∈ r, o ≠ []) → r.flatMap optT = (r.map optW).flatMap fun v => 32 :: v := by
    intro r
    induction r with
    | nil => intro _; rfl
    | cons o r ih =>
      intro hr
      obtain ⟨t, q, rfl⟩ := List.exists_cons_of_ne_nil (hr o (by simp))
      rw [List.flatMap_cons, List.map_cons, List.flatMap_cons, ih fun u hu => hr u (by simp [hu])]
      rfl
  obtain ⟨o, r, rfl⟩ := List.exists_cons_of_ne_nil hn
  obtain ⟨t, q, rfl⟩ := List.exists_cons_of_ne_nil (h o (by simp))
  rw [List.flatMap_cons, key r fun u hu => h u (by simp [hu])]
  rfl
theorem optW_word {o : List (List UInt8)} (hn : o ≠ []) (h : ∀ t ∈ o, goodT t = true) : (optW o).all wordB = true ∧ optW o ≠ [] := by
  have up : ∀ t : List UInt8, t.all termB = true → t.all wordB = true := fun t ht => by
    rw [List.all_eq_true] at ht ⊢
    intro c hc
    unfold wordB
    rw [ht c hc]
    rfl
  obtain ⟨t, r, rfl⟩ := List.exists_cons_of_ne_nil hn
  obtain ⟨h1, h2⟩ := goodT_all (h t (by simp))
  refine ⟨?_, by simp [optW, h2]⟩
  show (t ++ commaT r).all wordB = true
  rw [List.all_append, up t h1, Bool.true_and]
  unfold commaT
  rw [List.all_eq_true]
  intro c hc
  rw [List.mem_flatMap] at hc
  obtain ⟨u, hu, hc⟩ := hc
  rcases List.mem_cons.1 hc with rfl | hc
  · rfl
  · exact List.all_eq_true.1 (up u (goodT_all (h u (by simp [hu]))).1) c hc
theorem plus_line (os : List (List (List UInt8))) (hn : os ≠ []) (h : ∀ o ∈ os, o ≠ [] ∧ ∀ t ∈ o, goodT t = true) :
    ∃ m, plText (lineOf os) = some m ∧ (∀ f, (plusEx m).eval f = holdsO os f) ∧ litsC (fieldsD m) = (os.map List.length).sum ∧ m.length ≤ (lineOf os).length ∧ (10 : UInt8) ∉ lineOf os := by
  have hw : ∀ w ∈ os.map optW, w.all wordB = true ∧ w ≠ [] := by
    intro w hw
    obtain ⟨o, ho, rfl⟩ := List.mem_map.1 hw
    exact optW_word (h o ho).1 (h o ho).2
  have hwn : os.map optW ≠ [] := by simpa using hn
  obtain ⟨u, d, hu, hd⟩ := words_last _ hwn hw
  have hm := opts_words os hn fun o ho => (h o ho).1
  obtain ⟨c, t, hc⟩ : ∃ c t, wordsT (os.map optW) = c :: t := List.exists_cons_of_ne_nil (by rw [hu]; simp)
  have hcw : wordB c = true := by
    obtain ⟨o, r, rfl⟩ := List.exists_cons_of_ne_nil hn
    obtain ⟨h1, h2⟩ := hw (optW o) (by simp)
    obtain ⟨e, q, hq⟩ := List.exists_cons_of_ne_nil h2
    rw [List.map_cons, wordsT, hq, List.cons_append] at hc
    injection hc with hc1 _
    subst hc1
    rw [hq, List.all_cons, Bool.and_eq_true] at h1
    exact h1.1
  have hf := fieldsD_words hwn hw
  have hl : lineOf os = 47 :: 47 :: 32 :: (plWord ++ 32 :: wordsT (os.map optW)) := by
    unfold lineOf
    rw [hm]
    rfl
  obtain ⟨c1, c2, c3⟩ := wordB_facts hcw
  obtain ⟨d1, d2, d3⟩ := wordB_facts hd
  refine ⟨wordsT (os.map optW), ?_, fun f => ?_, ?_, ?_, ?_⟩
  · rw [hl]
    exact plText_line hc hu c3 c1 d3 d1
  · obtain ⟨y, h1, h2⟩ := line_eval f _ hwn
    unfold plusEx
    rw [hf, h1]
    show y.eval f = _
    rw [h2, List.any_map]
    unfold holdsO
    have key : ∀ o ∈ os, (clauseEx (optW o)).eval f = o.all (termV f) := fun o ho => by
      obtain ⟨z, g1, g2⟩ := clause_eval f o (h o ho).1
      unfold clauseEx
      rw [splitC_opt (h o ho).1 (h o ho).2, g1]
      show z.eval f = _
      rw [g2, Bool.eq_iff_iff, List.all_eq_true, List.all_eq_true]
      exact ⟨fun g t ht => by rw [← litEx_good ((h o ho).2 t ht)]; exact g t ht, fun g t ht => by rw [litEx_good ((h o ho).2 t ht)]; exact g t ht⟩
    rw [Bool.eq_iff_iff, List.any_eq_true, List.any_eq_true]
    exact ⟨fun ⟨o, ho, e⟩ => ⟨o, ho, by rw [← key o ho]; exact e⟩, fun ⟨o, ho, e⟩ => ⟨o, ho, by show (clauseEx (optW o)).eval f = true; rw [key o ho]; exact e⟩⟩
  · rw [hf]
    unfold litsC
    rw [List.map_map]
    congr 1
    refine List.map_congr_left fun o ho => ?_
    show (splitC (optW o)).length = o.length
    rw [splitC_opt (h o ho).1 (h o ho).2]
  · rw [hl]
    simp
    omega
  · rw [hl]
    have hno := words_no10 _ fun w hw' => (hw w hw').1
    simp [plWord, hno]
end Go.Proofs.YteemenhinhkonaaDoor
