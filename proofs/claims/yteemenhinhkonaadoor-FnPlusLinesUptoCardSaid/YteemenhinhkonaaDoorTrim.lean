/- White space around texts, as the library takes it away: what is left of a line that begins with a known word, and of a text of plain letters. Nothing of the program is in it. -/
import Derived.Test.YteemenhinhkonaaDoorTok3
import Derived.Lib.SpaceUEq
import Derived.Lib.TrimAscii
namespace Go.Proofs.YteemenhinhkonaaDoor
open Go.Lib

theorem trimLeft_suffix : ∀ f l, ∃ a, l = a ++ trimLeftD f l := by
  intro f
  induction f with
  | zero => intro l; exact ⟨[], rfl⟩
  | succ f ih =>
    intro l
    unfold trimLeftD
    split
    · rename_i h; exact ⟨[], by rw [h]; rfl⟩
    · split
      · obtain ⟨a, ha⟩ := ih (l.drop (decodeL l).2)
        refine ⟨l.take (decodeL l).2 ++ a, ?_⟩
        rw [List.append_assoc, ← ha, List.take_append_drop]
      · exact ⟨[], rfl⟩
theorem trimRight_prefix : ∀ f l, ∃ b, l = trimRightD f l ++ b := by
  intro f
  induction f with
  | zero => intro l; exact ⟨[], by simp [trimRightD]⟩
  | succ f ih =>
    intro l
    unfold trimRightD
    split
    · rename_i h; exact ⟨[], by rw [h]; rfl⟩
    · split
      · obtain ⟨b, hb⟩ := ih (l.take (l.length - (decodeLastL l).2))
        refine ⟨b ++ l.drop (l.length - (decodeLastL l).2), ?_⟩
        rw [← List.append_assoc, ← hb, List.take_append_drop]
      · exact ⟨[], by simp⟩
theorem trim_length (l : List UInt8) : (trimSpaceD l).length ≤ l.length := by
  obtain ⟨a, ha⟩ := trimLeft_suffix l.length l
  obtain ⟨b, hb⟩ := trimRight_prefix l.length (trimLeftD l.length l)
  unfold trimSpaceD
  have h1 := congrArg List.length ha
  have h2 := congrArg List.length hb
  rw [List.length_append] at h1 h2
  omega

/- a sign that no white space holds stays, with all ahead of it -/
theorem trimRight_keeps (p : List UInt8) (c : UInt8) (hc : ∀ q ∈ spaceSeqs, c ∉ q) : ∀ f r, ∃ r' b, trimRightD f (p ++ c :: r) = p ++ c :: r' ∧ r = r' ++ b := by
  intro f
  induction f with
  | zero => intro r; exact ⟨r, [], rfl, by simp⟩
  | succ f ih =>
    intro r
    have hne : p ++ c :: r ≠ [] := by simp
    unfold trimRightD
    rw [if_neg hne]
    by_cases hs : isSpaceR (decodeLastL (p ++ c :: r)).1 = true
    · rw [if_pos hs]
      have hq := space_has_seq_last _ hne hs
      have hlen : (p ++ c :: r).length = p.length + 1 + r.length := by simp; omega
      have hw : (decodeLastL (p ++ c :: r)).2 ≤ r.length := by
        by_cases hw : (decodeLastL (p ++ c :: r)).2 ≤ r.length
        · exact hw
        · exfalso
          refine hc _ hq ?_
          rw [List.mem_iff_getElem?]
          refine ⟨p.length - ((p ++ c :: r).length - (decodeLastL (p ++ c :: r)).2), ?_⟩
          rw [List.getElem?_drop, show (p ++ c :: r).length - (decodeLastL (p ++ c :: r)).2 + (p.length - ((p ++ c :: r).length - (decodeLastL (p ++ c :: r)).2)) = p.length from by omega]
          simp
      have ht : (p ++ c :: r).take ((p ++ c :: r).length - (decodeLastL (p ++ c :: r)).2) = p ++ c :: r.take (r.length - (decodeLastL (p ++ c :: r)).2) := by
        rw [hlen, List.take_append, List.take_of_length_le (by omega), show p.length + 1 + r.length - (decodeLastL (p ++ c :: r)).2 - p.length = (r.length - (decodeLastL (p ++ c :: r)).2) + 1 from by omega, List.take_succ_cons]
      rw [ht]
      obtain ⟨r', b, h1, h2⟩ := ih (r.take (r.length - (decodeLastL (p ++ c :: r)).2))
      refine ⟨r', b ++ r.drop (r.length - (decodeLastL (p ++ c :: r)).2), h1, ?_⟩
      rw [← List.append_assoc, ← h2, List.take_append_drop]
    · rw [if_neg hs]
      exact ⟨r, [], rfl, by simp⟩

/- texts of plain letters: what goes are blanks -/
def plainB (c : UInt8) : Bool := decide (c.toNat < 128) && (decide (32 ≤ c.toNat) || c.toNat == 9)
theorem plain_space {c : UInt8} (h : plainB c = true) : isSpaceR c.toNat = blankB c := by
  have key : ∀ n : Fin 128, (32 ≤ n.val ∨ n.val = 9) → isSpaceR n.val = (n.val == 32 || n.val == 9) := by decide +kernel
  unfold plainB at h
  simp only [Bool.and_eq_true, decide_eq_true_eq, Bool.or_eq_true, beq_iff_eq] at h
  have h2 := key ⟨c.toNat, h.1⟩ h.2
  have e : blankB c = (c.toNat == 32 || c.toNat == 9) := by
    unfold blankB
    have e1 : (c == 32) = (c.toNat == 32) := by rw [Bool.eq_iff_iff]; simp [← UInt8.toNat_inj]
    have e2 : (c == 9) = (c.toNat == 9) := by rw [Bool.eq_iff_iff]; simp [← UInt8.toNat_inj]
    rw [e1, e2]
  rw [e]
  exact h2
theorem plain_lt {c : UInt8} (h : plainB c = true) : c.toNat < 128 := by
  unfold plainB at h
  simp only [Bool.and_eq_true, decide_eq_true_eq] at h
  exact h.1
theorem trimLeft_plain : ∀ f (l : List UInt8), l.all plainB = true → ∃ a, l = a ++ trimLeftD f l ∧ a.all blankB = true := by
  intro f
  induction f with
  | zero => intro l _; exact ⟨[], rfl, rfl⟩
  | succ f ih =>
    intro l hl
    cases l with
    | nil => exact ⟨[], by simp [trimLeftD], rfl⟩
    | cons c l =>
      simp only [List.all_cons, Bool.and_eq_true] at hl
      unfold trimLeftD
      rw [if_neg (by simp), decodeL_ascii c l (plain_lt hl.1), plain_space hl.1]
      by_cases hb : blankB c = true
      · rw [if_pos hb]
        obtain ⟨a, h1, h2⟩ := ih l hl.2
        refine ⟨c :: a, ?_, by simp [hb, h2]⟩
        show c :: l = c :: (a ++ trimLeftD f l)
        rw [← h1]
      · rw [if_neg hb]
        exact ⟨[], rfl, rfl⟩
theorem trimRight_plain : ∀ f (l : List UInt8), l.all plainB = true → ∃ b, l = trimRightD f l ++ b ∧ b.all blankB = true := by
  intro f
  induction f with
  | zero => intro l _; exact ⟨[], by simp [trimRightD], rfl⟩
  | succ f ih =>
    intro l hl
    rcases List.eq_nil_or_concat l with rfl | ⟨t, c, rfl⟩
    · exact ⟨[], by simp [trimRightD], rfl⟩
    · rw [List.concat_eq_append] at hl ⊢
      simp only [List.all_append, List.all_cons, List.all_nil, Bool.and_true, Bool.and_eq_true] at hl
      unfold trimRightD
      rw [if_neg (by simp), decodeLastL_ascii t c (plain_lt hl.2), plain_space hl.2]
      by_cases hb : blankB c = true
      · rw [if_pos hb]
        obtain ⟨b, h1, h2⟩ := ih t hl.1
        have e : (t ++ [c]).take ((t ++ [c]).length - 1) = t := by simp
        rw [e]
        refine ⟨b ++ [c], ?_, by simp [hb, h2]⟩
        rw [← List.append_assoc, ← h1]
      · rw [if_neg hb]
        exact ⟨[], by simp, rfl⟩
theorem all_suffix {P : UInt8 → Bool} {l a m : List UInt8} (h : l.all P = true) (e : l = a ++ m) : m.all P = true := by
  rw [e, List.all_append, Bool.and_eq_true] at h
  exact h.2
theorem all_prefix {P : UInt8 → Bool} {l a m : List UInt8} (h : l.all P = true) (e : l = a ++ m) : a.all P = true := by
  rw [e, List.all_append, Bool.and_eq_true] at h
  exact h.1
theorem trim_plain (l : List UInt8) (h : l.all plainB = true) : ∃ a b, l = a ++ (trimSpaceD l ++ b) ∧ a.all blankB = true ∧ b.all blankB = true := by
  obtain ⟨a, h1, h2⟩ := trimLeft_plain l.length l h
  obtain ⟨b, h3, h4⟩ := trimRight_plain l.length (trimLeftD l.length l) (all_suffix h h1)
  refine ⟨a, b, ?_, h2, h4⟩
  unfold trimSpaceD
  rw [← h3]
  exact h1

/- a line that begins with a word and a blank -/
def goWord : List UInt8 := [47, 47, 103, 111, 58, 98, 117, 105, 108, 100]
def goW0 : List UInt8 := [47, 47, 103, 111, 58, 98, 117, 105, 108]
theorem go_split (line : List UInt8) : ∃ r' b, trimSpaceD (goWord ++ 32 :: line) = goWord ++ r' ∧ 32 :: line = r' ++ b := by
  have e : goWord ++ 32 :: line = goW0 ++ 100 :: (32 :: line) := rfl
  have hl : trimLeftD (goWord ++ 32 :: line).length (goWord ++ 32 :: line) = goWord ++ 32 :: line := by
    rw [show (goWord ++ 32 :: line).length = ((goWord ++ 32 :: line).length - 1) + 1 from by simp [goWord]]
    exact left_stop _ 47 _ rfl (by decide)
  obtain ⟨r', b, h1, h2⟩ := trimRight_keeps goW0 100 (by decide) (goWord ++ 32 :: line).length (32 :: line)
  refine ⟨r', b, ?_, h2⟩
  unfold trimSpaceD
  rw [hl, e]
  rw [e] at h1
  exact h1
theorem trim_blank (r : List UInt8) : (trimSpaceD (32 :: r)).length ≤ r.length := by
  unfold trimSpaceD
  have e : trimLeftD (32 :: r).length (32 :: r) = trimLeftD r.length r := left_step _ 32 _ rfl
  rw [e]
  have h1 := trimLeftD_le r.length r
  obtain ⟨b, hb⟩ := trimRight_prefix (32 :: r).length (trimLeftD r.length r)
  have h2 := congrArg List.length hb
  rw [List.length_append] at h2
  omega
theorem go_text (line r' b : List UInt8) (h1 : 32 :: line = r' ++ b) : r' = [] ∨ (trimSpaceD r').length < r'.length := by
  cases r' with
  | nil => exact .inl rfl
  | cons c r =>
    rw [List.cons_append] at h1
    injection h1 with e1 e2
    subst e1
    right
    have := trim_blank r
    simp only [List.length_cons]
    omega
theorem go_plain (line r' : List UInt8) (hp : line.all plainB = true) (h1 : trimSpaceD (goWord ++ 32 :: line) = goWord ++ r') : tA (trimSpaceD r') = tA line := by
  have hpl : (goWord ++ 32 :: line).all plainB = true := by rw [List.all_append, List.all_cons, hp]; decide
  obtain ⟨a, b, h2, ha, hb⟩ := trim_plain _ hpl
  rw [h1] at h2
  have ha0 : a = [] := by
    cases a with
    | nil => rfl
    | cons c a =>
      have : (47 : UInt8) = c := by
        have := congrArg List.head? h2
        simpa [goWord] using this
      subst this
      simp [blankB] at ha
  subst ha0
  rw [List.nil_append, List.append_assoc, List.append_cancel_left_eq] at h2
  have hr : r'.all plainB = true := all_prefix (l := 32 :: line) (by rw [List.all_cons, hp]; decide) h2
  obtain ⟨a2, b2, h3, ha2, hb2⟩ := trim_plain r' hr
  have h4 : [32] ++ (line ++ []) = a2 ++ (trimSpaceD r' ++ (b2 ++ b)) := by
    rw [List.append_nil]
    show 32 :: line = _
    rw [h2]
    conv => lhs; rw [h3]
    simp only [List.append_assoc]
  have e1 : tA ([32] ++ (line ++ [])) = tA line := tA_around (by decide) rfl
  rw [← e1, h4]
  exact (tA_around ha2 (by rw [List.all_append, hb2, hb]; rfl)).symm
end Go.Proofs.YteemenhinhkonaaDoor
