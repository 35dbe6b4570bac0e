/- Versions that tags name, and the least version of an expression: plain definitions. Nothing of the program is in it. -/
import Derived.Test.YteemenhinhkonaaDoorEx
namespace Go.Proofs.YteemenhinhkonaaDoor

/- the four bytes at a place -/
def at4 (l : List UInt8) (k : Nat) : Bool := (l.drop k).take 4 == [103, 111, 49, 46]
def laterB (l : List UInt8) : Bool := (List.range l.length).any fun k => decide (1 ≤ k) && at4 l k
def figB (c : UInt8) : Bool := decide (48 ≤ c.toNat ∧ c.toNat ≤ 57)
def numV (l : List UInt8) : Int := l.foldl (fun n c => n * 10 + ((c.toNat : Int) - 48)) 0
def goB (l : List UInt8) : Bool := l.take 2 == [103, 111]
def fineB (l : List UInt8) : Bool := decide (5 ≤ l.length) && (l.take 4 == [103, 111, 49, 46]) && decide (l.length ≤ 6) && !(l[4]? == some 48) && (l.drop 4).all figB
def verB (l : List UInt8) : Bool := !laterB l && (!goB l || fineB l)
def verN (l : List UInt8) : Int := if verB l && goB l then numV (l.drop 4) else -1
theorem laterB_true {l : List UInt8} {k : Nat} (h1 : 1 ≤ k) (h : at4 l k = true) : laterB l = true := by
  unfold laterB
  rw [List.any_eq_true]
  refine ⟨k, ?_, by simp [h1, h]⟩
  rw [List.mem_range]
  rcases Nat.lt_or_ge k l.length with h2 | h2
  · exact h2
  · unfold at4 at h
    rw [List.drop_of_length_le h2] at h
    simp at h
theorem laterB_false {l : List UInt8} (h : ∀ k, 1 ≤ k → k + 4 ≤ l.length → at4 l k = false) : laterB l = false := by
  rw [Bool.eq_false_iff]
  intro ht
  unfold laterB at ht
  rw [List.any_eq_true] at ht
  obtain ⟨k, _, hk⟩ := ht
  simp only [Bool.and_eq_true, decide_eq_true_eq] at hk
  obtain ⟨h1, h2⟩ := hk
  rcases Nat.lt_or_ge l.length (k + 4) with h3 | h3
  · unfold at4 at h2
    have := congrArg List.length (eq_of_beq h2)
    simp at this
    omega
  · rw [h k h1 h3] at h2
    cases h2
theorem at4_go {l : List UInt8} (h : at4 l 0 = true) : goB l = true := by
  unfold at4 at h
  have h := eq_of_beq h
  unfold goB
  rw [List.drop_zero] at h
  have : l.take 2 = (l.take 4).take 2 := by rw [List.take_take]; rfl
  rw [this, h]
  rfl
theorem fineB_at4 {l : List UInt8} (h : fineB l = true) : at4 l 0 = true ∧ 5 ≤ l.length ∧ l.length ≤ 6 ∧ l[4]? ≠ some 48 ∧ (l.drop 4).all figB = true := by
  unfold fineB at h
  simp only [Bool.and_eq_true, decide_eq_true_eq, Bool.not_eq_true', beq_eq_false_iff_ne] at h
  obtain ⟨⟨⟨⟨h1, h2⟩, h3⟩, h4⟩, h5⟩ := h
  exact ⟨h2, h1, h3, h4, h5⟩
/- what is plain and begins with go is one or two figures behind go1. -/
theorem ver_go {l : List UInt8} (h : verB l = true) (hg : goB l = true) : fineB l = true ∧ verN l = numV (l.drop 4) := by
  have h' := h
  unfold verB at h
  rw [hg] at h
  simp only [Bool.not_true, Bool.false_or, Bool.and_eq_true] at h
  exact ⟨h.2, by unfold verN; rw [h', hg]; rfl⟩
theorem ver_no {l : List UInt8} (h : verB l = true) (hg : goB l = false) : verN l = -1 ∧ ∀ k, at4 l k = false := by
  refine ⟨by unfold verN; rw [hg, Bool.and_false]; rfl, fun k => ?_⟩
  rw [Bool.eq_false_iff]
  intro hk
  rcases Nat.eq_zero_or_pos k with h0 | h0
  · subst h0
    rw [at4_go hk] at hg
    cases hg
  · unfold verB at h
    rw [laterB_true h0 hk] at h
    simp at h
theorem fin_cases2 {l : List UInt8} (h : fineB l = true) : (∃ a, l.drop 4 = [a] ∧ 49 ≤ a.toNat ∧ a.toNat ≤ 57) ∨ (∃ a b, l.drop 4 = [a, b] ∧ 49 ≤ a.toNat ∧ a.toNat ≤ 57 ∧ 48 ≤ b.toNat ∧ b.toNat ≤ 57) := by
  obtain ⟨_, h1, h2, h3, h4⟩ := fineB_at4 h
  have hl : (l.drop 4).length = l.length - 4 := by simp
  have h5 : (l.drop 4)[0]? ≠ some 48 := by rw [List.getElem?_drop]; exact h3
  obtain ⟨m, hm⟩ : ∃ m, m = l.drop 4 := ⟨_, rfl⟩
  rw [← hm] at hl h4 h5 ⊢
  have fig : ∀ c, figB c = true → 48 ≤ c.toNat ∧ c.toNat ≤ 57 := fun c hc => of_decide_eq_true hc
  match m, hl, h4, h5 with
  | [], hl, _, _ => simp at hl; omega
  | [a], _, h4, h5 =>
    simp at h4 h5
    have := fig a h4
    have hne : a.toNat ≠ 48 := fun h => h5 (UInt8.toNat_inj.1 h)
    exact .inl ⟨a, rfl, by omega, by omega⟩
  | [a, b], _, h4, h5 =>
    simp at h4 h5
    have h6 := fig a h4.1
    have h7 := fig b h4.2
    have hne : a.toNat ≠ 48 := fun h => h5 (UInt8.toNat_inj.1 h)
    exact .inr ⟨a, b, rfl, by omega, by omega, by omega, by omega⟩
  | a :: b :: c :: r, hl, _, _ => simp at hl; omega
theorem verN_range {l : List UInt8} (h : verB l = true) : verN l = -1 ∨ (1 ≤ verN l ∧ verN l ≤ 99) := by
  cases hg : goB l with
  | false => exact .inl (ver_no h hg).1
  | true =>
    obtain ⟨hf, hn⟩ := ver_go h hg
    rw [hn]
    right
    rcases fin_cases2 hf with ⟨a, he, h1, h2⟩ | ⟨a, b, he, h1, h2, h3, h4⟩
    · rw [he]; simp only [numV, List.foldl_cons, List.foldl_nil]; omega
    · rw [he]; simp only [numV, List.foldl_cons, List.foldl_nil]; omega

def Ex.least : Ex → Bool → Int
  | .tag t, true => verN t.data.toList
  | .tag _, false => -1
  | .not x, h => x.least (!h)
  | .and x y, true => max (x.least true) (y.least true)
  | .and x y, false => min (x.least false) (y.least false)
  | .or x y, true => min (x.least true) (y.least true)
  | .or x y, false => max (x.least false) (y.least false)
def Ex.plain : Ex → Prop
  | .tag t => verB t.data.toList = true
  | .not x => x.plain
  | .and x y | .or x y => x.plain ∧ y.plain
theorem least_range : ∀ (x : Ex) (h : Bool), x.plain → x.least h = -1 ∨ (1 ≤ x.least h ∧ x.least h ≤ 99) := by
  intro x
  induction x with
  | tag t =>
    intro h hp
    cases h with
    | true => exact verN_range hp
    | false => exact .inl rfl
  | not x ih => intro h hp; exact ih _ hp
  | and x y ihx ihy =>
    intro h hp
    have h1 := ihx h hp.1
    have h2 := ihy h hp.2
    cases h <;> simp only [Ex.least] <;> omega
  | or x y ihx ihy =>
    intro h hp
    have h1 := ihx h hp.1
    have h2 := ihy h hp.2
    cases h <;> simp only [Ex.least] <;> omega
theorem plain_of_tags : ∀ (x : Ex), (∀ t ∈ x.tags, verB t.data.toList = true) → x.plain := by
  intro x
  induction x with
  | tag t => intro h; exact h t (by simp [Ex.tags])
  | not x ih => intro h; exact ih fun t ht => h t (by simp only [Ex.tags]; rw [mem_addTags]; exact .inr ht)
  | and x y ihx ihy | or x y ihx ihy =>
    intro h
    exact ⟨ihx fun t ht => h t (by simp only [Ex.tags]; rw [mem_addTags, mem_addTags]; exact .inl (.inr ht)), ihy fun t ht => h t (by simp only [Ex.tags]; rw [mem_addTags]; exact .inr ht)⟩
end Go.Proofs.YteemenhinhkonaaDoor
