/- The reference's reader: not, and, or for every rest of a text. -/
import Derived.Test.YteemenhinhkonaaDoorProg
import Derived.Test.YteemenhinhkonaaDoorReadE
namespace Go.Proofs.YteemenhinhkonaaDoor
open Go.RowKit

theorem RSpec_up {pf : Nat → Pr} {l : List UInt8} {d d' st : Int} {x : Ex} {r : List UInt8} {st' : Int} (hd : d ≤ d') (h : RSpec pf l d st x r st') : RSpec pf l d' st x r st' := by
  refine ⟨h.1, fun hs => ?_⟩
  rcases h.2 hs with h1 | h1 | ⟨h1, h2⟩
  · exact .inl h1
  · exact .inr (.inl h1)
  · exact .inr (.inr ⟨h1, fun n hn => by have := h2 n hn; omega⟩)
theorem notC_of {N : Nat} {s : ByteArray} (h : NotS N s) : NotC N s := by
  intro br i d st w hr hi hN hd0 hd1
  refine (h br i d st w hr hi hN hd0 hd1).mono ?_
  rintro e w' ⟨x, c0, c1, c2, j, st', rfl, hx, hij, hj, hlv, hr', hg, hsp⟩
  exact ⟨x, c0, c1, c2, j, st', rfl, hx, hij, hj, hlv, hr', hg, RSpec_up (by split <;> omega) hsp⟩
theorem reader_all (s : ByteArray) (hs : s.size ≤ 1152921504606846976) (hasc : ∀ k (h : k < s.size), s[k].toNat < 128) (N : Nat) : NotS N s ∧ OrC N s := by
  induction N using Nat.strongRecOn with
  | _ N ih =>
    have h := not_of N s hs hasc ih
    exact ⟨h, or_of N s hs (and_of N s hs (notC_of h))⟩

/- what may stand in a text -/
def okB (c : UInt8) : Bool := decide (c.toNat < 128) && (decide (32 ≤ c.toNat) || c.toNat == 9)
def textOk (s : ByteArray) : Bool := s.data.toList.all okB
theorem textOk_byte {s : ByteArray} (h : textOk s = true) (k : Nat) (hk : k < s.size) : okB s[k] = true := by
  unfold textOk at h
  rw [List.all_eq_true] at h
  exact h _ (by simp [ByteArray.getElem_eq_getElem_data])
theorem all_ok_take (s : ByteArray) (k : Nat) (h : k < s.size) : (s.data.toList.take (k + 1)).all okB = ((s.data.toList.take k).all okB && okB s[k]) := by
  rw [List.take_succ_eq_append_getElem (by simpa using h), List.all_append]
  simp
  rfl
theorem bad_ok (s : ByteArray) (k : Nat) (h : k < s.size) (ht : okB s[k] = false) : textOk s = false := by
  unfold textOk
  rw [List.all_eq_false]
  exact ⟨s[k], by simp [ByteArray.getElem_eq_getElem_data], by simp [ht]⟩

/- what Read hands back of a text that may be -/
def RdSpec (s : ByteArray) (st : Int) (x : Ex) : Prop :=
  (st = 1 ∧ ∃ n, orP (pOr n) (dropB s 0) = some (x, [])) ∨ (st = 2 ∧ ∀ n y, orP (pOr n) (dropB s 0) ≠ some (y, [])) ∨ (st = 0 ∧ ∀ n : Nat, orP (pOr n) (dropB s 0) ≠ none → 100 < 2 * (n : Int) + 2)
def RdPost (s : ByteArray) (w : World) (en : Ending) (w' : World) : Prop := w.grownBy w' none ∧
  ((textOk s = false ∧ en = .returned (.tuple #[.agg #[.int .i64 0, .string { data := #[] }, .slice none 0 0], .int .i64 0])) ∨
   (textOk s = true ∧ ∃ x c0 c1 c2 st, en = .returned (.tuple #[.agg #[c0, c1, c2], .int .i64 st]) ∧ XIs (fun b => w.heap.size ≤ b) w' x c0 c1 c2 ∧ x.leaves ≤ s.size + 1 ∧ RdSpec s st x))

theorem orP_skipped {o : Pr} {l : List UInt8} {x : Ex} {q : List UInt8} (h : orP o l = some (x, q)) : skipL q = q := by
  have key : ∀ (c : UInt8) (mk : Ex → Ex → Ex) (p : Pr) k x l y r, loopP c mk p k x l = some (y, r) → skipL r = r := by
    intro c mk p k
    induction k with
    | zero =>
      intro x l y r h
      simp only [loopP, Option.some.injEq, Prod.mk.injEq] at h
      rw [← h.2, skipL_skipL]
    | succ k ih =>
      intro x l y r h
      unfold loopP at h
      split at h
      · split at h
        · cases h
        · exact ih _ _ _ _ h
      · simp only [Option.some.injEq, Prod.mk.injEq] at h
        rw [← h.2, skipL_skipL]
  unfold orP seqP at h
  split at h
  · cases h
  · exact key _ _ _ _ _ _ _ _ h
theorem orP_same {n m : Nat} {l : List UInt8} {a b : Ex × List UInt8} (ha : orP (pOr n) l = some a) (hb : orP (pOr m) l = some b) : a = b := same_of mon_or ha hb
/- behind the look at the end -/
theorem rd_spec {s : ByteArray} {j m : Nat} {st : Int} {x : Ex} (hsp : RSpec (fun n => orP (pOr n)) (dropB s 0) 0 1 x (dropB s j) st) (hsk : skipL (dropB s j) = dropB s m) (hm : m ≤ s.size) : RdSpec s (if m < s.size then (if st = 1 then 2 else st) else st) x := by
  rcases hsp.2 rfl with ⟨h1, n, hn⟩ | ⟨h1, hn⟩ | ⟨h1, hn⟩
  · have hq := orP_skipped hn
    by_cases hlt : m < s.size
    · rw [if_pos hlt, if_pos h1]
      refine .inr (.inl ⟨rfl, fun k y hk => ?_⟩)
      have := orP_same hn hk
      injection this with _ h2
      rw [h2] at hsk
      have h3 := dropB_cons s m hlt
      rw [← hsk] at h3
      cases h3
    · rw [if_neg hlt]
      refine .inl ⟨h1, n, ?_⟩
      have : dropB s j = [] := by rw [← hq, hsk, dropB_nil s m (by omega)]
      rw [← this]
      exact hn
  · have e : (if m < s.size then (if st = 1 then 2 else st) else st) = 2 := by subst h1; simp
    rw [e]
    exact .inr (.inl ⟨rfl, fun k y hk => by have := hn k; simp only at this; rw [this] at hk; cases hk⟩)
  · have e : (if m < s.size then (if st = 1 then 2 else st) else st) = 0 := by subst h1; simp
    rw [e]
    exact .inr (.inr ⟨rfl, fun k hk => by have := hn k hk; omega⟩)
end Go.Proofs.YteemenhinhkonaaDoor
