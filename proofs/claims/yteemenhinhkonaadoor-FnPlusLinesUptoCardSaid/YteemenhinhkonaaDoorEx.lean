/- Expressions that are made as ones: a tag, a negation, two with an operator; their meaning, their tags, and how they lie in memory. Nothing of the program is in it. -/
import Derived.Test.YteemenhinhkonaaDoorBase
namespace Go.Proofs.YteemenhinhkonaaDoor
open Go.RowKit

/- tags -/
def tagN (n : Nat) : Prop := (97 ≤ n ∧ n ≤ 122) ∨ (65 ≤ n ∧ n ≤ 90) ∨ (48 ≤ n ∧ n ≤ 57) ∨ n = 95 ∨ n = 46
instance (n : Nat) : Decidable (tagN n) := by unfold tagN; infer_instance
def tagB (c : UInt8) : Bool := decide (tagN c.toNat)
def tagOkB (s : ByteArray) : Bool := s.data.toList.all tagB && decide (0 < s.size)
theorem all_take_byte (s : ByteArray) (k : Nat) (h : k < s.size) : (s.data.toList.take (k + 1)).all tagB = ((s.data.toList.take k).all tagB && tagB s[k]) := by
  rw [List.take_succ_eq_append_getElem (by simpa using h), List.all_append]
  simp
  rfl
theorem all_of_byte (s : ByteArray) (k : Nat) (h : k < s.size) (ht : tagB s[k] = false) : s.data.toList.all tagB = false := by
  rw [List.all_eq_false]
  refine ⟨s[k], ?_, by simp [ht]⟩
  show s.data[k] ∈ s.data.toList
  simp
theorem tagB_true {c : UInt8} (h : tagB c = true) : (97 ≤ c.toNat ∧ c.toNat ≤ 122) ∨ (65 ≤ c.toNat ∧ c.toNat ≤ 90) ∨ (48 ≤ c.toNat ∧ c.toNat ≤ 57) ∨ c.toNat = 95 ∨ c.toNat = 46 := of_decide_eq_true h
theorem tagB_false {c : UInt8} (h : tagB c = false) : (c.toNat < 97 ∨ 122 < c.toNat) ∧ (c.toNat < 65 ∨ 90 < c.toNat) ∧ (c.toNat < 48 ∨ 57 < c.toNat) ∧ c.toNat ≠ 95 ∧ c.toNat ≠ 46 := by
  have := of_decide_eq_false h
  unfold tagN at this
  omega

/- what Form says of data -/
def subsOf (k : Int) : Option Int := if k = 1 then some 0 else if k = 2 then some 1 else if k = 3 then some 2 else if k = 4 then some 2 else none
def formB : Nat → E → Bool
  | 0, _ => false
  | d + 1, e => (match subsOf e.kind with | some m => decide ((e.subs.length : Int) = m) | none => false) && (!(e.kind == 1) || tagOkB e.tag) && e.subs.all (formB d)
theorem formB_pos {d : Int} (h : 1 ≤ d) (e : E) : formB d.toNat e = ((match subsOf e.kind with | some m => decide ((e.subs.length : Int) = m) | none => false) && (!(e.kind == 1) || tagOkB e.tag) && e.subs.all (formB (d - 1).toNat)) := by
  obtain ⟨k, rfl⟩ : ∃ k : Nat, d = (k : Int) + 1 := ⟨(d - 1).toNat, by omega⟩
  have h1 : ((k : Int) + 1).toNat = k + 1 := by omega
  have h2 : ((k : Int) + 1 - 1).toNat = k := by omega
  rw [h1, h2]
  rfl
theorem formB_none {d : Int} {e : E} (h : subsOf e.kind = none) : formB d.toNat e = false := by
  rcases Int.lt_or_le d 1 with hd | hd
  · rw [show d.toNat = 0 from by omega]; rfl
  · rw [formB_pos hd, h]; rfl
theorem formB_zero {d : Int} {e : E} (h : d < 1) : formB d.toNat e = false := by
  rw [show d.toNat = 0 from by omega]; rfl

/- expressions -/
inductive Ex where
  | tag (t : ByteArray)
  | not (x : Ex)
  | and (x y : Ex)
  | or (x y : Ex)
def Ex.eval (ok : ByteArray → Bool) : Ex → Bool
  | .tag t => ok t
  | .not x => !x.eval ok
  | .and x y => x.eval ok && y.eval ok
  | .or x y => x.eval ok || y.eval ok
def Ex.leaves : Ex → Nat
  | .tag _ => 1
  | .not x => x.leaves
  | .and x y | .or x y => x.leaves + y.leaves
def Ex.deep : Ex → Nat
  | .tag _ => 1
  | .not x => x.deep + 1
  | .and x y | .or x y => max x.deep y.deep + 1
def Ex.tagsOk : Ex → Prop
  | .tag t => tagOkB t = true
  | .not x => x.tagsOk
  | .and x y | .or x y => x.tagsOk ∧ y.tagsOk
def Ex.has (t : ByteArray) : Ex → Prop
  | .tag u => u = t
  | .not x => x.has t
  | .and x y | .or x y => x.has t ∨ y.has t
def addTag (out : List ByteArray) (t : ByteArray) : List ByteArray := if hasB out t then out else out ++ [t]
def addTags (out ts : List ByteArray) : List ByteArray := ts.foldl addTag out
def Ex.tags : Ex → List ByteArray
  | .tag t => [t]
  | .not x => addTags [] x.tags
  | .and x y | .or x y => addTags (addTags [] x.tags) y.tags
theorem leaves_deep (x : Ex) : x.leaves ≤ 2 ^ (x.deep - 1) ∧ 1 ≤ x.deep := by
  induction x with
  | tag t => simp [Ex.leaves, Ex.deep]
  | not x ih =>
    simp only [Ex.leaves, Ex.deep]
    exact ⟨Nat.le_trans ih.1 (Nat.pow_le_pow_right (by omega) (by omega)), by omega⟩
  | and x y ihx ihy | or x y ihx ihy =>
    simp only [Ex.leaves, Ex.deep]
    have h1 : x.leaves ≤ 2 ^ (max x.deep y.deep - 1) := Nat.le_trans ihx.1 (Nat.pow_le_pow_right (by omega) (by omega))
    have h2 : y.leaves ≤ 2 ^ (max x.deep y.deep - 1) := Nat.le_trans ihy.1 (Nat.pow_le_pow_right (by omega) (by omega))
    refine ⟨?_, by omega⟩
    rw [show max x.deep y.deep + 1 - 1 = (max x.deep y.deep - 1) + 1 from by omega, Nat.pow_succ]
    omega
theorem addTag_length (out : List ByteArray) (t : ByteArray) : (addTag out t).length ≤ out.length + 1 := by
  unfold addTag
  split <;> simp
theorem addTags_length (ts : List ByteArray) : ∀ out, (addTags out ts).length ≤ out.length + ts.length := by
  induction ts with
  | nil => intro out; simp [addTags]
  | cons t ts ih =>
    intro out
    have h1 := ih (addTag out t)
    have h2 := addTag_length out t
    simp only [addTags, List.foldl_cons, List.length_cons] at h1 ⊢
    omega
theorem tags_length (x : Ex) : x.tags.length ≤ x.leaves := by
  induction x with
  | tag t => simp [Ex.tags, Ex.leaves]
  | not x ih =>
    simp only [Ex.tags, Ex.leaves]
    have := addTags_length x.tags []
    simp at this
    omega
  | and x y ihx ihy | or x y ihx ihy =>
    simp only [Ex.tags, Ex.leaves]
    have h1 := addTags_length x.tags []
    have h2 := addTags_length y.tags (addTags [] x.tags)
    simp at h1
    omega
theorem hasB_iff (ss : List ByteArray) (t : ByteArray) : hasB ss t = true ↔ t ∈ ss := by
  unfold hasB
  rw [List.any_eq_true]
  constructor
  · rintro ⟨x, hx, h⟩
    rw [toList_beq] at h
    exact (of_decide_eq_true h) ▸ hx
  · intro h
    exact ⟨t, h, by rw [toList_beq]; simp⟩
theorem mem_addTag (out : List ByteArray) (t u : ByteArray) : u ∈ addTag out t ↔ u ∈ out ∨ u = t := by
  unfold addTag
  split
  · rename_i h
    rw [hasB_iff] at h
    constructor
    · exact .inl
    · rintro (h' | rfl)
      · exact h'
      · exact h
  · simp
theorem mem_addTags (ts : List ByteArray) : ∀ (out : List ByteArray) (u : ByteArray), u ∈ addTags out ts ↔ u ∈ out ∨ u ∈ ts := by
  induction ts with
  | nil => intro out u; simp [addTags]
  | cons t ts ih =>
    intro out u
    have := ih (addTag out t) u
    simp only [addTags, List.foldl_cons] at this ⊢
    rw [this, mem_addTag, List.mem_cons, or_assoc]
theorem mem_tags (x : Ex) (u : ByteArray) : u ∈ x.tags ↔ x.has u := by
  induction x with
  | tag t => simp [Ex.tags, Ex.has, eq_comm]
  | not x ih => simp [Ex.tags, Ex.has, mem_addTags, ih]
  | and x y ihx ihy | or x y ihx ihy => simp [Ex.tags, Ex.has, mem_addTags, ihx, ihy]
theorem eval_congr {f g : ByteArray → Bool} (x : Ex) (h : ∀ t, x.has t → f t = g t) : x.eval f = x.eval g := by
  induction x with
  | tag t => exact h t rfl
  | not x ih => simp only [Ex.eval]; rw [ih h]
  | and x y ihx ihy | or x y ihx ihy => simp only [Ex.eval]; rw [ihx fun t ht => h t (.inl ht), ihy fun t ht => h t (.inr ht)]

/- data that is of that form -/
def isEx : Ex → E → Prop
  | .tag t, e => e.kind = 1 ∧ e.tag = t ∧ e.subs = []
  | .not x, e => e.kind = 2 ∧ ∃ a, e.subs = [a] ∧ isEx x a
  | .and x y, e => e.kind = 3 ∧ ∃ a b, e.subs = [a, b] ∧ isEx x a ∧ isEx y b
  | .or x y, e => e.kind = 4 ∧ ∃ a b, e.subs = [a, b] ∧ isEx x a ∧ isEx y b
theorem exists_ex (d : Nat) : ∀ e, formB d e = true → ∃ x, isEx x e ∧ x.deep ≤ d ∧ x.tagsOk := by
  induction d with
  | zero => intro e h; simp [formB] at h
  | succ d ih =>
    intro e h
    simp only [formB, Bool.and_eq_true] at h
    obtain ⟨⟨h1, h2⟩, h3⟩ := h
    have one : ∀ s ∈ e.subs, ∃ x, isEx x s ∧ x.deep ≤ d ∧ x.tagsOk := fun s hs => ih s (List.all_eq_true.1 h3 s hs)
    unfold subsOf at h1
    by_cases k1 : e.kind = 1
    · simp [k1] at h1 h2
      exact ⟨.tag e.tag, ⟨k1, rfl, h1⟩, by simp [Ex.deep], h2⟩
    by_cases k2 : e.kind = 2
    · simp [k2] at h1
      obtain ⟨a, ha⟩ : ∃ a, e.subs = [a] := by
        match hs : e.subs, h1 with
        | [a], _ => exact ⟨a, rfl⟩
        | [], h => simp at h
        | _ :: _ :: _, h => simp at h; omega
      obtain ⟨x, hx, hd, ho⟩ := one a (by simp [ha])
      exact ⟨.not x, ⟨k2, a, ha, hx⟩, by simp [Ex.deep]; omega, ho⟩
    have two : (e.subs.length : Int) = 2 → ∃ a b, e.subs = [a, b] := by
      intro h
      match hs : e.subs, h with
      | [a, b], _ => exact ⟨a, b, rfl⟩
      | [], h => simp at h
      | [_], h => simp at h
      | _ :: _ :: _ :: _, h => simp at h; omega
    by_cases k3 : e.kind = 3
    · simp [k3] at h1
      obtain ⟨a, b, ha⟩ := two h1
      obtain ⟨x, hx, hd, ho⟩ := one a (by simp [ha])
      obtain ⟨y, hy, hd', ho'⟩ := one b (by simp [ha])
      exact ⟨.and x y, ⟨k3, a, b, ha, hx, hy⟩, by simp [Ex.deep]; omega, ho, ho'⟩
    by_cases k4 : e.kind = 4
    · simp [k4] at h1
      obtain ⟨a, b, ha⟩ := two h1
      obtain ⟨x, hx, hd, ho⟩ := one a (by simp [ha])
      obtain ⟨y, hy, hd', ho'⟩ := one b (by simp [ha])
      exact ⟨.or x y, ⟨k4, a, b, ha, hx, hy⟩, by simp [Ex.deep]; omega, ho, ho'⟩
    · simp [k1, k2, k3, k4] at h1

/- the same in memory: three cells -/
def XIs (S : Nat → Prop) (w : World) : Ex → Value → Value → Value → Prop
  | .tag t, c0, c1, c2 => c0 = .int .i64 1 ∧ c1 = .string t ∧ t.size ≤ 1152921504606846976 ∧ ∃ a cap, c2 = .slice a 0 cap
  | .not x, c0, c1, c2 => c0 = .int .i64 2 ∧ (∃ s, c1 = .string s ∧ s.size ≤ 1152921504606846976) ∧ ∃ b off cap x0 x1 x2, c2 = .slice (some ⟨b, off, none⟩) 1 cap ∧ S b ∧ w.cell? ⟨b, off, none⟩ = some x0 ∧ w.cell? ⟨b, off + 1, none⟩ = some x1 ∧ w.cell? ⟨b, off + 2, none⟩ = some x2 ∧ XIs S w x x0 x1 x2
  | .and x y, c0, c1, c2 => c0 = .int .i64 3 ∧ (∃ s, c1 = .string s ∧ s.size ≤ 1152921504606846976) ∧ ∃ b off cap x0 x1 x2 y0 y1 y2, c2 = .slice (some ⟨b, off, none⟩) 2 cap ∧ S b ∧ w.cell? ⟨b, off, none⟩ = some x0 ∧ w.cell? ⟨b, off + 1, none⟩ = some x1 ∧ w.cell? ⟨b, off + 2, none⟩ = some x2 ∧ w.cell? ⟨b, off + 3, none⟩ = some y0 ∧ w.cell? ⟨b, off + 3 + 1, none⟩ = some y1 ∧ w.cell? ⟨b, off + 3 + 2, none⟩ = some y2 ∧ XIs S w x x0 x1 x2 ∧ XIs S w y y0 y1 y2
  | .or x y, c0, c1, c2 => c0 = .int .i64 4 ∧ (∃ s, c1 = .string s ∧ s.size ≤ 1152921504606846976) ∧ ∃ b off cap x0 x1 x2 y0 y1 y2, c2 = .slice (some ⟨b, off, none⟩) 2 cap ∧ S b ∧ w.cell? ⟨b, off, none⟩ = some x0 ∧ w.cell? ⟨b, off + 1, none⟩ = some x1 ∧ w.cell? ⟨b, off + 2, none⟩ = some x2 ∧ w.cell? ⟨b, off + 3, none⟩ = some y0 ∧ w.cell? ⟨b, off + 3 + 1, none⟩ = some y1 ∧ w.cell? ⟨b, off + 3 + 2, none⟩ = some y2 ∧ XIs S w x x0 x1 x2 ∧ XIs S w y y0 y1 y2
def Ex.kind : Ex → Int
  | .tag _ => 1
  | .not _ => 2
  | .and _ _ => 3
  | .or _ _ => 4
def Ex.arity : Ex → Nat
  | .tag _ => 0
  | .not _ => 1
  | .and _ _ => 2
  | .or _ _ => 2
theorem XIs.form {S : Nat → Prop} {w : World} {x : Ex} {c0 c1 c2 : Value} (h : XIs S w x c0 c1 c2) : ∃ s a cap, c0 = .int .i64 x.kind ∧ c1 = .string s ∧ c2 = .slice a x.arity cap ∧ s.size ≤ 1152921504606846976 := by
  cases x with
  | tag t => obtain ⟨h0, h1, ht, a, cap, h2⟩ := h; exact ⟨t, a, cap, h0, h1, h2, ht⟩
  | not x => obtain ⟨h0, ⟨s, h1, hs⟩, b, off, cap, _, _, _, h2, _⟩ := h; exact ⟨s, _, cap, h0, h1, h2, hs⟩
  | and x y => obtain ⟨h0, ⟨s, h1, hs⟩, b, off, cap, _, _, _, _, _, _, h2, _⟩ := h; exact ⟨s, _, cap, h0, h1, h2, hs⟩
  | or x y => obtain ⟨h0, ⟨s, h1, hs⟩, b, off, cap, _, _, _, _, _, _, h2, _⟩ := h; exact ⟨s, _, cap, h0, h1, h2, hs⟩
theorem XIs.move {S S' : Nat → Prop} {w w' : World} (hm : ∀ b, S b → b < w.heap.size → S' b ∧ w'.heap[b]? = w.heap[b]?) : ∀ {x : Ex} {c0 c1 c2 : Value}, XIs S w x c0 c1 c2 → XIs S' w' x c0 c1 c2 := by
  intro x
  induction x with
  | tag t => intro c0 c1 c2 h; exact h
  | not x ih =>
    intro c0 c1 c2 h
    obtain ⟨h0, h1, b, off, cap, x0, x1, x2, h2, hS, g0, g1, g2, hx⟩ := h
    obtain ⟨hS', hb⟩ := hm b hS (lt_of_cell g0)
    have mv : ∀ o v, w.cell? ⟨b, o, none⟩ = some v → w'.cell? ⟨b, o, none⟩ = some v := fun o v h => (World.cell?_of_block (a := ⟨b, o, none⟩) hb).trans h
    exact ⟨h0, h1, b, off, cap, x0, x1, x2, h2, hS', mv _ _ g0, mv _ _ g1, mv _ _ g2, ih hx⟩
  | and x y ihx ihy | or x y ihx ihy =>
    intro c0 c1 c2 h
    obtain ⟨h0, h1, b, off, cap, x0, x1, x2, y0, y1, y2, h2, hS, g0, g1, g2, g3, g4, g5, hx, hy⟩ := h
    obtain ⟨hS', hb⟩ := hm b hS (lt_of_cell g0)
    have mv : ∀ o v, w.cell? ⟨b, o, none⟩ = some v → w'.cell? ⟨b, o, none⟩ = some v := fun o v h => (World.cell?_of_block (a := ⟨b, o, none⟩) hb).trans h
    exact ⟨h0, h1, b, off, cap, x0, x1, x2, y0, y1, y2, h2, hS', mv _ _ g0, mv _ _ g1, mv _ _ g2, mv _ _ g3, mv _ _ g4, mv _ _ g5, ihx hx, ihy hy⟩
theorem XIs.below {S : Nat → Prop} {w w' : World} {x : Ex} {c0 c1 c2 : Value} (h : XIs S w x c0 c1 c2) (hb : Below w.heap.size w w') : XIs S w' x c0 c1 c2 := XIs.move (fun b hS hlt => ⟨hS, hb.block b hlt⟩) h
theorem XIs.any {S : Nat → Prop} {w : World} {x : Ex} {c0 c1 c2 : Value} (h : XIs S w x c0 c1 c2) : XIs (fun _ => True) w x c0 c1 c2 := XIs.move (fun _ _ _ => ⟨trivial, rfl⟩) h
theorem XIs_of {S : Nat → Prop} {w : World} : ∀ {x : Ex} {e : E} {n : Nat} {c0 c1 c2 : Value}, isEx x e → EIs S w n e c0 c1 c2 → XIs S w x c0 c1 c2 := by
  intro x
  induction x with
  | tag t =>
    intro e n c0 c1 c2 hi h
    cases n with
    | zero => exact h.elim
    | succ n =>
      obtain ⟨hk, ht, hs⟩ := hi
      obtain ⟨h0, _, _, h1, hl, a, cap, h2, _, _⟩ := h
      rw [hk] at h0
      rw [ht] at h1 hl
      rw [hs] at h2
      exact ⟨h0, h1, Nat.le_trans hl (by omega), a, cap, h2⟩
  | not x ih =>
    intro e n c0 c1 c2 hi h
    cases n with
    | zero => exact h.elim
    | succ n =>
      obtain ⟨hk, y, hs, hy⟩ := hi
      obtain ⟨h0, _, _, h1, hl, a, cap, h2, _, hsub⟩ := h
      rw [hk] at h0
      obtain ⟨b, off, x0, x1, x2, rfl, hS, g0, g1, g2, hx⟩ := hsub 0 y (by rw [hs]; rfl)
      rw [hs] at h2
      exact ⟨h0, ⟨_, h1, Nat.le_trans hl (by omega)⟩, b, off, cap, x0, x1, x2, h2, hS, by simpa using g0, by simpa using g1, by simpa using g2, ih hy hx⟩
  | and x y ihx ihy | or x y ihx ihy =>
    intro e n c0 c1 c2 hi h
    cases n with
    | zero => exact h.elim
    | succ n =>
      obtain ⟨hk, p, q, hs, hp, hq⟩ := hi
      obtain ⟨h0, _, _, h1, hl, a, cap, h2, _, hsub⟩ := h
      rw [hk] at h0
      obtain ⟨b, off, x0, x1, x2, rfl, hS, g0, g1, g2, hx⟩ := hsub 0 p (by rw [hs]; rfl)
      obtain ⟨b', off', y0, y1, y2, hb', hS', k0, k1, k2, hy⟩ := hsub 1 q (by rw [hs]; rfl)
      obtain ⟨rfl, rfl⟩ : b = b' ∧ off = off' := by simpa using hb'
      rw [hs] at h2
      exact ⟨h0, ⟨_, h1, Nat.le_trans hl (by omega)⟩, b, off, cap, x0, x1, x2, y0, y1, y2, h2, hS, by simpa using g0, by simpa using g1, by simpa using g2, by simpa using k0, by simpa using k1, by simpa using k2, ihx hp hx, ihy hq hy⟩

/- tags of what came in are not long -/
def Ex.tagsLe (n : Nat) : Ex → Prop
  | .tag t => t.size ≤ n
  | .not x => x.tagsLe n
  | .and x y | .or x y => x.tagsLe n ∧ y.tagsLe n
theorem tagsLe_of {S : Nat → Prop} {w : World} : ∀ {x : Ex} {e : E} {n : Nat} {c0 c1 c2 : Value}, isEx x e → EIs S w n e c0 c1 c2 → x.tagsLe 1152921504606846976 := by
  intro x
  induction x with
  | tag t =>
    intro e n c0 c1 c2 hi h
    cases n with
    | zero => exact h.elim
    | succ n =>
      obtain ⟨hk, ht, hs⟩ := hi
      obtain ⟨h0, _, _, h1, hl, _⟩ := h
      rw [ht] at hl
      exact hl
  | not x ih =>
    intro e n c0 c1 c2 hi h
    cases n with
    | zero => exact h.elim
    | succ n =>
      obtain ⟨hk, y, hs, hy⟩ := hi
      obtain ⟨h0, _, _, h1, hl, a, cap, h2, _, hsub⟩ := h
      obtain ⟨b, off, x0, x1, x2, rfl, hS, g0, g1, g2, hx⟩ := hsub 0 y (by rw [hs]; rfl)
      exact ih hy hx
  | and x y ihx ihy | or x y ihx ihy =>
    intro e n c0 c1 c2 hi h
    cases n with
    | zero => exact h.elim
    | succ n =>
      obtain ⟨hk, p, q, hs, hp, hq⟩ := hi
      obtain ⟨h0, _, _, h1, hl, a, cap, h2, _, hsub⟩ := h
      obtain ⟨b, off, x0, x1, x2, _, hS, g0, g1, g2, hx⟩ := hsub 0 p (by rw [hs]; rfl)
      obtain ⟨b', off', y0, y1, y2, hb', hS', k0, k1, k2, hy⟩ := hsub 1 q (by rw [hs]; rfl)
      exact ⟨ihx hp hx, ihy hq hy⟩

/- parts by their place -/
def Ex.subs : Ex → List Ex
  | .tag _ => []
  | .not x => [x]
  | .and x y => [x, y]
  | .or x y => [x, y]
theorem Ex.ind {P : Ex → Prop} (h : ∀ x : Ex, (∀ y, y ∈ x.subs → P y) → P x) : ∀ x, P x := by
  intro x
  induction x with
  | tag t => exact h _ (by simp [Ex.subs])
  | not x ih => exact h _ (by simp [Ex.subs]; exact ih)
  | and x y ihx ihy => exact h _ (by simp [Ex.subs]; exact ⟨ihx, ihy⟩)
  | or x y ihx ihy => exact h _ (by simp [Ex.subs]; exact ⟨ihx, ihy⟩)
theorem XIs.parts {S : Nat → Prop} {w : World} {x : Ex} {c0 c1 c2 : Value} (h : XIs S w x c0 c1 c2) (hk : x.kind ≠ 1) : ∃ s b off cap, c0 = .int .i64 x.kind ∧ c1 = .string s ∧ s.size ≤ 1152921504606846976 ∧ c2 = .slice (some ⟨b, off, none⟩) x.subs.length cap ∧ S b ∧ b < w.heap.size ∧
    ∀ i y, x.subs[i]? = some y → ∃ y0 y1 y2, w.cell? ⟨b, off + i * 3, none⟩ = some y0 ∧ w.cell? ⟨b, off + i * 3 + 1, none⟩ = some y1 ∧ w.cell? ⟨b, off + i * 3 + 2, none⟩ = some y2 ∧ XIs S w y y0 y1 y2 := by
  cases x with
  | tag t => exact absurd rfl hk
  | not x =>
    obtain ⟨h0, ⟨s, h1, hs⟩, b, off, cap, x0, x1, x2, h2, hS, g0, g1, g2, hx⟩ := h
    refine ⟨s, b, off, cap, h0, h1, hs, h2, hS, lt_of_cell g0, fun i y hy => ?_⟩
    match i with
    | 0 => obtain rfl : x = y := by simpa [Ex.subs] using hy
           exact ⟨x0, x1, x2, by simpa using g0, by simpa using g1, by simpa using g2, hx⟩
    | i + 1 => simp [Ex.subs] at hy
  | and x y | or x y =>
    obtain ⟨h0, ⟨s, h1, hs⟩, b, off, cap, x0, x1, x2, y0, y1, y2, h2, hS, g0, g1, g2, g3, g4, g5, hx, hy⟩ := h
    refine ⟨s, b, off, cap, h0, h1, hs, h2, hS, lt_of_cell g0, fun i z hz => ?_⟩
    match i with
    | 0 => obtain rfl : x = z := by simpa [Ex.subs] using hz
           exact ⟨x0, x1, x2, by simpa using g0, by simpa using g1, by simpa using g2, hx⟩
    | 1 => obtain rfl : y = z := by simpa [Ex.subs] using hz
           exact ⟨y0, y1, y2, by simpa using g3, by simpa using g4, by simpa using g5, hy⟩
    | i + 2 => simp [Ex.subs] at hz
theorem kind_tag {x : Ex} (h : x.kind = 1) : ∃ t, x = .tag t := by
  cases x with
  | tag t => exact ⟨t, rfl⟩
  | not x => simp [Ex.kind] at h
  | and x y => simp [Ex.kind] at h
  | or x y => simp [Ex.kind] at h
theorem kind_range (x : Ex) : 1 ≤ x.kind ∧ x.kind ≤ 4 := by cases x <;> simp [Ex.kind]
theorem subs_le (x : Ex) : x.subs.length ≤ 2 := by cases x <;> simp [Ex.subs]
theorem leaves_sub {x y : Ex} (h : y ∈ x.subs) : y.leaves ≤ x.leaves := by
  cases x <;> simp [Ex.subs] at h <;> (try rcases h with rfl | rfl) <;> (try subst h) <;> simp [Ex.leaves]
/- the tags of the first k parts -/
def accTags (x : Ex) (k : Nat) : List ByteArray := (x.subs.take k).foldl (fun o y => addTags o y.tags) []
theorem accTags_succ {x y : Ex} {k : Nat} (h : x.subs[k]? = some y) : accTags x (k + 1) = addTags (accTags x k) y.tags := by
  unfold accTags
  rw [List.take_add_one, h]
  simp
theorem accTags_all {x : Ex} (hk : x.kind ≠ 1) {k : Nat} (h : x.subs.length ≤ k) : accTags x k = x.tags := by
  unfold accTags
  rw [List.take_of_length_le h]
  cases x with
  | tag t => exact absurd rfl hk
  | not x => rfl
  | and x y => rfl
  | or x y => rfl
theorem addTags_snoc (out ts : List ByteArray) {m : Nat} {t : ByteArray} (h : ts[m]? = some t) : addTags out (ts.take (m + 1)) = addTag (addTags out (ts.take m)) t := by
  unfold addTags
  rw [List.take_add_one, h]
  simp
def sumLeaves (l : List Ex) : Nat := (l.map Ex.leaves).foldl (· + ·) 0
theorem accTags_length (x : Ex) (k : Nat) : (accTags x k).length ≤ x.leaves + 1 := by
  unfold accTags
  cases x with
  | tag t => simp [Ex.subs]
  | not x =>
    have h1 := addTags_length x.tags []
    have h2 := tags_length x
    match k with
    | 0 => simp
    | k + 1 => simp [Ex.subs, Ex.leaves] at h1 ⊢; omega
  | and x y | or x y =>
    have h1 := addTags_length x.tags []
    have h2 := tags_length x
    have h3 := addTags_length y.tags (addTags [] x.tags)
    have h4 := tags_length y
    match k with
    | 0 => simp
    | 1 => simp [Ex.subs, Ex.leaves] at h1 ⊢; omega
    | k + 2 => simp [Ex.subs, Ex.leaves] at h1 ⊢; omega

/- a slice that lies in memory from a place on -/
def FreshV (B : Nat) (v : Value) : Prop := ∀ a n c, v = .slice (some a) n c → B ≤ a.block
theorem SS.grown {w w' : World} {v : Value} {ss : List ByteArray} {row : Option Nat} (h : SS w v ss) (hg : w.grownBy w' row) (hne : ∀ a n c, v = .slice (some a) n c → row ≠ some a.block) : SS w' v ss := by
  obtain ⟨a, cap, hv, hl, hc⟩ := h
  refine ⟨a, cap, hv, hl, fun i s hs => ?_⟩
  obtain ⟨b, off, ha, hcell⟩ := hc i s hs
  subst ha
  exact ⟨b, off, rfl, (World.cell?_of_block (a := ⟨b, off + i, none⟩) (hg.block b (lt_of_cell hcell) (fun e => hne _ _ _ hv e.symm))).trans hcell⟩
theorem FreshV.of_row {w : World} {base : Nat} {e : TypeId} {size : Nat} {v : Value} {n : Nat} {xs : List Value} (h : w.ownsRow base e size v n xs) : FreshV base v := by
  intro a k c hv
  exact (h.lt a.block (by rw [hv]; rfl)).1
end Go.Proofs.YteemenhinhkonaaDoor
