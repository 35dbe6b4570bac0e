/- Lines // +build that are told for an expression: the plain law. Nothing of the program is in it but the names of node types. -/
import Derived.Test.YteemenhinhkonaaDoorPush
import Derived.Test.YteemenhinhkonaaDoorPlusG
import Derived.Test.YteemenhinhkonaaDoorText
import Derived.Test.YteemenhinhkonaaDoorProg
import Derived.Test.YteemenhinhkonaaDoorShelfC
import Derived.Test.YteemenhinhkonaaDoorApp
import Derived.Lib.AppendStr
import Derived.Deep.QuietTactic
import Derived.BigQuiet
namespace Go.Proofs.YteemenhinhkonaaDoor
open Go.RowKit Lib

def litB : Ex → Bool
  | .tag _ => true
  | .not _ => true
  | _ => false
def rowsE (y : Ex) : List (List (List Ex)) := (splitA y).map fun o => (splitO o).map splitA
def fineR (rows : List (List (List Ex))) : Bool := rows.all fun r => r.all fun a => a.all litB
def maxR (rows : List (List (List Ex))) : Nat := rows.foldl (fun m r => if m < r.length then r.length else m) 0
def flatR (rows : List (List (List Ex))) : List Ex := rows.foldl (fun l r => l ++ r.headD []) []
def joinR (rows : List (List (List Ex))) : List (List (List Ex)) := if maxR rows = 1 then [[flatR rows]] else rows
def lineR (r : List (List Ex)) : List UInt8 := lineOf (r.map fun a => a.map Ex.text)
def evalR (ok : ByteArray → Bool) (rows : List (List (List Ex))) : Bool := rows.all fun r => r.any fun a => a.all fun l => l.eval ok

theorem splitA_eval (ok : ByteArray → Bool) (x : Ex) : (splitA x).all (fun l => l.eval ok) = x.eval ok := by
  induction x with
  | and x y ihx ihy => simp only [splitA, List.all_append, ihx, ihy, Ex.eval]
  | tag t => simp [splitA]
  | not x ih => simp [splitA]
  | or x y ihx ihy => simp [splitA]
theorem splitO_eval (ok : ByteArray → Bool) (x : Ex) : (splitO x).any (fun l => l.eval ok) = x.eval ok := by
  induction x with
  | or x y ihx ihy => simp only [splitO, List.any_append, ihx, ihy, Ex.eval]
  | tag t => simp [splitO]
  | not x ih => simp [splitO]
  | and x y ihx ihy => simp [splitO]
theorem rowsE_eval (ok : ByteArray → Bool) (y : Ex) : evalR ok (rowsE y) = y.eval ok := by
  unfold evalR rowsE
  rw [List.all_map, ← splitA_eval ok y]
  congr 1
  funext o
  simp only [Function.comp_apply, List.any_map]
  rw [← splitO_eval ok o]
  congr 1
  funext a
  simp only [Function.comp_apply, splitA_eval]

/- greatest length -/
theorem snocI {α : Type} {P : List α → Prop} (h0 : P []) (hs : ∀ l a, P l → P (l ++ [a])) (l : List α) : P l := by
  rw [← List.reverse_reverse l]
  induction l.reverse with
  | nil => exact h0
  | cons a r ih => rw [List.reverse_cons]; exact hs _ _ ih
theorem maxR_snoc (rows : List (List (List Ex))) (r : List (List Ex)) : maxR (rows ++ [r]) = if maxR rows < r.length then r.length else maxR rows := by unfold maxR; rw [List.foldl_append]; rfl
theorem flatR_snoc (rows : List (List (List Ex))) (r : List (List Ex)) : flatR (rows ++ [r]) = flatR rows ++ r.headD [] := by unfold flatR; rw [List.foldl_append]; rfl
theorem maxR_ge (rows : List (List (List Ex))) : ∀ r ∈ rows, r.length ≤ maxR rows := by
  refine snocI (P := fun rows => ∀ r ∈ rows, r.length ≤ maxR rows) ?_ ?_ rows
  · intro r h; cases h
  · intro l a ih r h
    rw [maxR_snoc]
    rcases List.mem_append.1 h with h | h
    · have := ih r h
      split <;> omega
    · obtain rfl : r = a := by simpa using h
      split <;> omega
theorem ones_eval (ok : ByteArray → Bool) (rows : List (List (List Ex))) (h : ∀ r ∈ rows, r.length = 1) : evalR ok rows = (flatR rows).all fun l => l.eval ok := by
  revert h
  refine snocI (P := fun rows => (∀ r ∈ rows, r.length = 1) → evalR ok rows = (flatR rows).all fun l => l.eval ok) ?_ ?_ rows
  · intro _; rfl
  · intro l a ih h
    have ha := h a (by simp)
    obtain ⟨c, rfl⟩ : ∃ c, a = [c] := by
      match a, ha with
      | [c], _ => exact ⟨c, rfl⟩
    have := ih fun r hr => h r (by simp [hr])
    rw [flatR_snoc, List.all_append, ← this]
    simp [evalR]
theorem joinR_eval (ok : ByteArray → Bool) (rows : List (List (List Ex))) (h : ∀ r ∈ rows, 0 < r.length) : evalR ok (joinR rows) = evalR ok rows := by
  unfold joinR
  split
  · rename_i h1
    rw [ones_eval ok rows fun r hr => by have := maxR_ge rows r hr; have := h r hr; omega]
    simp [evalR]
  · rfl

/- what stands in the parts -/
theorem splitA_mem {Q : Ex → Prop} (h : ∀ x y, Q (.and x y) → Q x ∧ Q y) (x : Ex) : Q x → ∀ l ∈ splitA x, Q l := by
  induction x with
  | and x y ihx ihy =>
    intro hq l hl
    simp only [splitA, List.mem_append] at hl
    rcases hl with hl | hl
    · exact ihx (h x y hq).1 l hl
    · exact ihy (h x y hq).2 l hl
  | tag t => intro hq l hl; simp [splitA] at hl; subst hl; exact hq
  | not x ih => intro hq l hl; simp [splitA] at hl; subst hl; exact hq
  | or x y ihx ihy => intro hq l hl; simp [splitA] at hl; subst hl; exact hq
theorem splitO_mem {Q : Ex → Prop} (h : ∀ x y, Q (.or x y) → Q x ∧ Q y) (x : Ex) : Q x → ∀ l ∈ splitO x, Q l := by
  induction x with
  | or x y ihx ihy =>
    intro hq l hl
    simp only [splitO, List.mem_append] at hl
    rcases hl with hl | hl
    · exact ihx (h x y hq).1 l hl
    · exact ihy (h x y hq).2 l hl
  | tag t => intro hq l hl; simp [splitO] at hl; subst hl; exact hq
  | not x ih => intro hq l hl; simp [splitO] at hl; subst hl; exact hq
  | and x y ihx ihy => intro hq l hl; simp [splitO] at hl; subst hl; exact hq
theorem rowsE_mem {Q : Ex → Prop} (ha : ∀ x y, Q (.and x y) → Q x ∧ Q y) (ho : ∀ x y, Q (.or x y) → Q x ∧ Q y) (y : Ex) (hq : Q y) : ∀ r ∈ rowsE y, ∀ a ∈ r, ∀ l ∈ a, Q l := by
  intro r hr a har l hl
  obtain ⟨o, hom, rfl⟩ := List.mem_map.1 hr
  obtain ⟨b, hb, rfl⟩ := List.mem_map.1 har
  exact splitA_mem ha b (splitO_mem ho o (splitA_mem ha y hq o hom) b hb) l hl
def litsR (rows : List (List (List Ex))) : Nat := (rows.map fun r => (r.map List.length).sum).sum
theorem splitA_sum (f : Ex → Nat) (h : ∀ x y, f (.and x y) = f x + f y) (x : Ex) : ((splitA x).map f).sum = f x := by
  induction x with
  | and x y ihx ihy => simp only [splitA, List.map_append, List.sum_append, ihx, ihy, h]
  | tag t => simp [splitA]
  | not x ih => simp [splitA]
  | or x y ihx ihy => simp [splitA]
theorem splitO_sum (f : Ex → Nat) (h : ∀ x y, f (.or x y) = f x + f y) (x : Ex) : ((splitO x).map f).sum = f x := by
  induction x with
  | or x y ihx ihy => simp only [splitO, List.map_append, List.sum_append, ihx, ihy, h]
  | tag t => simp [splitO]
  | not x ih => simp [splitO]
  | and x y ihx ihy => simp [splitO]
theorem sum_le {α : Type} (f g : α → Nat) (h : ∀ x, f x ≤ g x) (l : List α) : (l.map f).sum ≤ (l.map g).sum := by
  induction l with
  | nil => simp
  | cons a r ih => simp only [List.map_cons, List.sum_cons]; have := h a; omega
theorem litsR_le (y : Ex) : litsR (rowsE y) ≤ y.leaves := by
  unfold litsR rowsE
  rw [List.map_map]
  refine Nat.le_trans (sum_le _ Ex.leaves (fun o => ?_) (splitA y)) (Nat.le_of_eq (splitA_sum Ex.leaves (fun _ _ => rfl) y))
  simp only [Function.comp_apply, List.map_map]
  exact Nat.le_trans (sum_le _ Ex.leaves (fun a => (splitA_pos a).2) (splitO o)) (Nat.le_of_eq (splitO_sum Ex.leaves (fun _ _ => rfl) o))
theorem rowsE_pos (y : Ex) : rowsE y ≠ [] ∧ ∀ r ∈ rowsE y, r ≠ [] ∧ ∀ a ∈ r, a ≠ [] := by
  refine ⟨fun h => ?_, fun r hr => ?_⟩
  · have := (splitA_pos y).1
    have h2 := congrArg List.length h
    simp [rowsE] at h2
    rw [h2] at this
    cases this
  · obtain ⟨o, _, rfl⟩ := List.mem_map.1 hr
    refine ⟨fun h => ?_, fun a ha => ?_⟩
    · have := (splitO_pos o).1
      have h2 := congrArg List.length h
      simp at h2
      rw [h2] at this
      cases this
    · obtain ⟨b, _, rfl⟩ := List.mem_map.1 ha
      intro h
      have := (splitA_pos b).1
      rw [h] at this
      cases this

/- literals -/
structure Lit (l : Ex) : Prop where
  b : litB l = true
  n : l.nnf
  t : l.tagsOk
theorem Lit.form {l : Ex} (h : Lit l) : (∃ t, l = .tag t ∧ tagOkB t = true) ∨ ∃ t, l = .not (.tag t) ∧ tagOkB t = true := by
  obtain ⟨h1, h2, h3⟩ := h
  cases l with
  | tag t => exact .inl ⟨t, rfl, h3⟩
  | not x => obtain ⟨t, rfl⟩ := h2; exact .inr ⟨t, rfl, h3⟩
  | and x y => cases h1
  | or x y => cases h1
theorem tagOk_L {t : ByteArray} (h : tagOkB t = true) : tagOkL t.data.toList = true ∧ ∃ c r, t.data.toList = c :: r ∧ tagB c = true := by
  unfold tagOkB at h
  simp only [Bool.and_eq_true, decide_eq_true_eq] at h
  obtain ⟨h1, h2⟩ := h
  have hl : t.data.toList.length = t.size := by simp
  obtain ⟨c, r, hc⟩ : ∃ c r, t.data.toList = c :: r := List.exists_cons_of_ne_nil (fun e => by rw [e] at hl; simp at hl; omega)
  refine ⟨by unfold tagOkL; rw [h1, hc]; rfl, c, r, hc, ?_⟩
  rw [hc] at h1
  simp only [List.all_cons, Bool.and_eq_true] at h1
  exact h1.1
theorem Lit.good {l : Ex} (h : Lit l) : goodT l.text = true ∧ ∀ f, termV f l.text = l.eval f := by
  rcases h.form with ⟨t, rfl, ht⟩ | ⟨t, rfl, ht⟩
  · obtain ⟨h1, c, r, hc, hb⟩ := tagOk_L ht
    have hne := (tagB_facts hb).2.1
    simp only [Ex.text, Ex.eval]
    have e : mkB t.data.toList = t := rfl
    constructor
    · rw [hc] at h1 ⊢
      unfold goodT
      split
      · rename_i u he; injection he with h1 _; exact absurd h1 hne
      · exact h1
    · intro f
      rw [← e]
      simp only [mkB_toList]
      rw [hc]
      unfold termV
      split
      · rename_i u he; injection he with h1 _; exact absurd h1 hne
      · rfl
  · obtain ⟨h1, -⟩ := tagOk_L ht
    have e : mkB t.data.toList = t := rfl
    have et : Ex.text (.not (.tag t)) = 33 :: t.data.toList := rfl
    rw [et]
    exact ⟨h1, fun f => by simp only [termV, Ex.eval, e]⟩
theorem lits_all (x : Ex) (hok : x.tagsOk) (hf : fineR (rowsE (pn false x)) = true) : ∀ r ∈ rowsE (pn false x), ∀ a ∈ r, ∀ l ∈ a, Lit l := by
  intro r hr a ha l hl
  have hb : litB l = true := by
    unfold fineR at hf
    exact List.all_eq_true.1 (List.all_eq_true.1 (List.all_eq_true.1 hf r hr) a ha) l hl
  have hq := rowsE_mem (Q := fun l => l.nnf ∧ l.tagsOk) (fun x y h => ⟨⟨h.1.1, h.2.1⟩, ⟨h.1.2, h.2.2⟩⟩) (fun x y h => ⟨⟨h.1.1, h.2.1⟩, ⟨h.1.2, h.2.2⟩⟩) _ ⟨pn_nnf x false, pn_tagsOk x false hok⟩ r hr a ha l hl
  exact ⟨hb, hq.1, hq.2⟩
theorem flatR_mem (rows : List (List (List Ex))) : ∀ l ∈ flatR rows, ∃ r ∈ rows, ∃ a ∈ r, l ∈ a := by
  refine snocI (P := fun rows => ∀ l ∈ flatR rows, ∃ r ∈ rows, ∃ a ∈ r, l ∈ a) ?_ ?_ rows
  · intro l h; cases h
  · intro rs r ih l h
    rw [flatR_snoc] at h
    rcases List.mem_append.1 h with h | h
    · obtain ⟨r', h1, h2⟩ := ih l h
      exact ⟨r', by simp [h1], h2⟩
    · cases r with
      | nil => cases h
      | cons a q => exact ⟨a :: q, by simp, a, by simp, h⟩
theorem flatR_len (rows : List (List (List Ex))) : (flatR rows).length ≤ litsR rows := by
  refine snocI (P := fun rows => (flatR rows).length ≤ litsR rows) ?_ ?_ rows
  · simp [flatR]
  · intro rs r ih
    rw [flatR_snoc, List.length_append]
    unfold litsR at ih ⊢
    rw [List.map_append, List.sum_append]
    cases r with
    | nil => simp; exact ih
    | cons a q => simp; omega
theorem flatR_ne (rows : List (List (List Ex))) (hn : rows ≠ []) (h : ∀ r ∈ rows, r ≠ [] ∧ ∀ a ∈ r, a ≠ []) : flatR rows ≠ [] := by
  revert hn h
  refine snocI (P := fun rows => rows ≠ [] → (∀ r ∈ rows, r ≠ [] ∧ ∀ a ∈ r, a ≠ []) → flatR rows ≠ []) ?_ ?_ rows
  · intro h; exact absurd rfl h
  · intro rs r _ _ h e
    rw [flatR_snoc] at e
    have h2 := (List.append_eq_nil_iff.1 e).2
    obtain ⟨h3, h4⟩ := h r (by simp)
    cases r with
    | nil => exact h3 rfl
    | cons a q => exact h4 a (by simp) h2
theorem row_le (rows : List (List (List Ex))) : ∀ r ∈ rows, (r.map List.length).sum ≤ litsR rows := by
  intro r hr
  induction rows with
  | nil => cases hr
  | cons q rs ih =>
    simp only [litsR, List.map_cons, List.sum_cons] at ih ⊢
    rcases List.mem_cons.1 hr with rfl | hr
    · omega
    · have := ih hr; omega
theorem any_mem {α : Type} {f g : α → Bool} (l : List α) (h : ∀ a ∈ l, f a = g a) : l.any f = l.any g := by
  induction l with
  | nil => rfl
  | cons a r ih => rw [List.any_cons, List.any_cons, h a (by simp), ih fun b hb => h b (by simp [hb])]
theorem all_mem {α : Type} {f g : α → Bool} (l : List α) (h : ∀ a ∈ l, f a = g a) : l.all f = l.all g := by
  induction l with
  | nil => rfl
  | cons a r ih => rw [List.all_cons, List.all_cons, h a (by simp), ih fun b hb => h b (by simp [hb])]
structure PblOk (x : Ex) (R : List (List (List Ex))) : Prop where
  ne : R ≠ []
  ev : ∀ ok, evalR ok R = x.eval ok
  rows : ∀ r ∈ R, r ≠ [] ∧ ∀ a ∈ r, a ≠ [] ∧ ∀ l ∈ a, Lit l
  sums : ∀ r ∈ R, (r.map List.length).sum ≤ x.leaves
theorem pbl_ok (x : Ex) (hok : x.tagsOk) (hf : fineR (rowsE (pn false x)) = true) : PblOk x (joinR (rowsE (pn false x))) := by
  obtain ⟨hn, hp⟩ := rowsE_pos (pn false x)
  have hL := lits_all x hok hf
  have hle := litsR_le (pn false x)
  rw [pn_leaves] at hle
  refine ⟨?_, fun ok => ?_, ?_, ?_⟩
  · unfold joinR; split
    · simp
    · exact hn
  · rw [joinR_eval ok _ fun r hr => List.length_pos_iff.2 (hp r hr).1, rowsE_eval, pn_eval]
    simp
  · unfold joinR; split
    · intro r hr
      obtain rfl : r = [flatR (rowsE (pn false x))] := by simpa using hr
      refine ⟨by simp, fun a ha => ?_⟩
      obtain rfl : a = flatR (rowsE (pn false x)) := by simpa using ha
      refine ⟨flatR_ne _ hn hp, fun l hl => ?_⟩
      obtain ⟨r, hr, a, ha, hl⟩ := flatR_mem _ l hl
      exact hL r hr a ha l hl
    · exact fun r hr => ⟨(hp r hr).1, fun a ha => ⟨(hp r hr).2 a ha, hL r hr a ha⟩⟩
  · unfold joinR; split
    · intro r hr
      obtain rfl : r = [flatR (rowsE (pn false x))] := by simpa using hr
      have := flatR_len (rowsE (pn false x))
      simp
      omega
    · intro r hr
      have := row_le _ r hr
      omega
theorem line_ok {x : Ex} {R : List (List (List Ex))} (h : PblOk x R) {r : List (List Ex)} (hr : r ∈ R) :
    ∃ m, plText (lineR r) = some m ∧ (∀ f, (plusEx m).eval f = r.any fun a => a.all fun l => l.eval f) ∧ litsC (Lib.fieldsD m) ≤ x.leaves ∧ m.length ≤ (lineR r).length ∧ (10 : UInt8) ∉ lineR r := by
  obtain ⟨hn, ha⟩ := h.rows r hr
  obtain ⟨m, h1, h2, h3, h4, h5⟩ := plus_line (r.map fun a => a.map Ex.text) (by simpa using hn) (by
    intro o ho
    obtain ⟨a, ham, rfl⟩ := List.mem_map.1 ho
    refine ⟨by simpa using (ha a ham).1, fun t ht => ?_⟩
    obtain ⟨l, hl, rfl⟩ := List.mem_map.1 ht
    exact ((ha a ham).2 l hl).good.1)
  refine ⟨m, h1, fun f => ?_, ?_, h4, h5⟩
  · rw [h2 f]
    unfold holdsO
    rw [List.any_map]
    refine any_mem r fun a ham => ?_
    simp only [Function.comp_apply, List.all_map]
    refine all_mem a fun l hl => ?_
    exact ((ha a ham).2 l hl).good.2 f
  · rw [h3, List.map_map]
    have := h.sums r hr
    have e : (List.length ∘ fun a : List Ex => a.map Ex.text) = List.length := by funext a; simp
    rw [e]
    exact this
end Go.Proofs.YteemenhinhkonaaDoor
/- Rows of rows of rows: how literals, what stands between ||, and what stands between && lie in memory. -/
namespace Go.Proofs.YteemenhinhkonaaDoor
open Go.RowKit

/- kept where a row of type e is put on -/
def KB (e : TypeId) {α : Type} (P : World → Value → α → Prop) : Prop := ∀ {w w' : World} {base n size : Nat} {v : Value} {xs : List Value}, w.ownsRow base e size v n xs → w.grownBy w' v.ownBlock → ∀ u x, P w u x → P w' u x
def KL {α : Type} (P : World → Value → α → Prop) : Prop := ∀ {w w' : World}, Below w.heap.size w w' → ∀ u x, P w u x → P w' u x
theorem owns_other {w : World} {b1 b2 n1 n2 s1 s2 : Nat} {u v : Value} {xs ys : List Value} {e1 e2 : TypeId} (h : w.ownsRow b1 e1 s1 u n1 xs) (k : w.ownsRow b2 e2 s2 v n2 ys) (he : e1 ≠ e2) : u.ownBlock = none ∨ u.ownBlock ≠ v.ownBlock := by
  rcases h.2 with ⟨hu, _⟩ | ⟨g, cap, cur, hu, _, hgb, _⟩
  · rw [hu]; exact .inl rfl
  · refine .inr fun e => ?_
    rcases k.2 with ⟨hv, _⟩ | ⟨g', cap', cur', hv, _, hgb', _⟩
    · rw [hu, hv] at e; cases e
    · rw [hu, hv] at e
      injection e with e
      simp at e
      subst e
      rw [hgb] at hgb'
      injection hgb' with hgb'
      injection hgb' with _ h2 _
      exact he h2
abbrev P0 : World → Value → Ex → Prop := fun w u l => CIs w l u
abbrev P1 : World → Value → List Ex → Prop := fun w u a => RL 63 P0 w 0 u a
abbrev P2 : World → Value → List (List Ex) → Prop := fun w u r => RL 100 P1 w 0 u r
theorem KB0 {e : TypeId} (he : nodeT e = false) : KB e P0 := fun ho hg _ _ hx => hx.grownRow ho he hg
theorem KL0 : KL P0 := fun hb _ _ hx => hx.below hb
theorem KBS {e e1 : TypeId} {α : Type} {P : World → Value → α → Prop} {b : Nat} (h : KB e P) (hne : e1 ≠ e) : KB e (fun w u xs => RL e1 P w b u xs) := by
  intro w w' base n size v ys ho hg u xs ⟨vals, h1, h2, h3⟩
  exact ⟨vals, h1.kept hg (owns_other h1 ho hne), h2, fun i u x hu hx => h ho hg u x (h3 i u x hu hx)⟩
theorem KLS {e1 : TypeId} {α : Type} {P : World → Value → α → Prop} {b : Nat} (h : KL P) : KL (fun w u xs => RL e1 P w b u xs) := fun hb _ _ hx => hx.below (h hb) hb
theorem KB1 : KB 100 P1 := KBS (KB0 rfl) (by decide)
theorem KL1 : KL P1 := KLS KL0
theorem KB2 : KB 102 P2 := KBS (KBS (KB0 rfl) (by decide)) (by decide)
theorem KL2 : KL P2 := KLS KL1
/- one put on -/
theorem RL.app {e : TypeId} {α : Type} {P : World → Value → α → Prop} (hK : KB e P) {w w1 wb : World} {base : Nat} {v v1 u : Value} {xs : List α} {x : α} {vals : List Value} {o : Obj} (ho : w.ownsRow base e 1 v xs.length vals) (hl : vals.length = xs.length)
    (hc : ∀ (i : Nat) (u : Value) (x : α), vals[i]? = some u → xs[i]? = some x → P w u x) (hx : P w u x) (h1 : w1.ownsRow base e 1 v1 (xs.length + 1) (vals ++ [u]))
    (hg : (v1.ownBlock = v.ownBlock ∧ (w.alloc o).grownBy w1 v.ownBlock) ∨ (v1.ownBlock = some (w.alloc o).heap.size ∧ Below (w.alloc o).heap.size (w.alloc o) w1)) (hb : Below wb.heap.size wb w) (hbase : wb.heap.size ≤ base) :
    RL e P w1 base v1 (xs ++ [x]) ∧ Below wb.heap.size wb w1 := by
  have hg' : (w.alloc o).grownBy w1 v.ownBlock := by
    rcases hg with ⟨_, h⟩ | ⟨_, h⟩
    · exact h
    · exact grown_of_below h _
  have hw : w.grownBy w1 v.ownBlock := (grown_of_below ((Below.refl _ _).alloc (Nat.le_refl _) o) _).andThen hg' fun j hj => .inr hj
  refine ⟨⟨vals ++ [u], by simpa using h1, by simp [hl], vals_snoc hl (fun i u x h1 h2 => hK ho hw u x (hc i u x h1 h2)) (hK ho hw u x hx)⟩, hb.grown hw hb.size (fun k hk => Nat.le_trans hbase (ho.lt k hk).1)⟩
/- what a fresh list of parts answers -/
def RDL (w : World) (g : Nat) (xs : List Ex) : Prop := ∀ k x, xs[k]? = some x → ∃ b, w.cell? ⟨g, k, none⟩ = some (.iface x.ptr (.pointer (some ⟨b, 0, none⟩))) ∧ CIs w x (.iface x.ptr (.pointer (some ⟨b, 0, none⟩)))
theorem RDL.below {w w' : World} {g : Nat} {xs : List Ex} (h : RDL w g xs) (hb : Below w.heap.size w w') : RDL w' g xs := fun k x hk => by
  obtain ⟨b, h1, h2⟩ := h k x hk
  exact ⟨b, (hb.cell (p := ⟨g, k, none⟩) (lt_of_cell h1)).trans h1, h2.below hb⟩
def NilP (xs : List Ex) (w : World) (e : Ending) (w' : World) : Prop := ∃ g cap, e = .returned (.slice (some ⟨g, 0, none⟩) xs.length cap) ∧ Below w.heap.size w w' ∧ RDL w' g xs
theorem nilP_of {xs : List Ex} {w w' : World} {e : Ending} {base : Nat} (hp : 0 < xs.length) (h : ApP ([] ++ xs) base (.slice none 0 0) w e w') : NilP xs w e w' := by
  obtain ⟨v', rfl, ⟨vals, h1, h2, h3⟩, hg, -⟩ := h
  rw [List.nil_append] at h1 h2 h3
  obtain ⟨p, cap, rfl⟩ := ownsRow_slice h1
  obtain ⟨g, rfl, -, -, hc⟩ := ownsRow_at h1 hp
  refine ⟨g, cap, rfl, ⟨hg.os, hg.tape, hg.output, hg.size, fun b hb => hg.block b hb (by simp [Value.ownBlock])⟩, fun k x hk => ?_⟩
  obtain ⟨u, hu⟩ : ∃ u, vals[k]? = some u := ⟨_, List.getElem?_eq_getElem (by rw [h2]; exact (List.getElem?_eq_some_iff.1 hk).1)⟩
  have hx := h3 k u x hu hk
  obtain ⟨b, rfl⟩ := hx.form
  exact ⟨b, hc k _ hu, hx⟩
theorem splitA_nil (x : Ex) (b : Nat) (w : World) (hx : CIs w x (.iface x.ptr (.pointer (some ⟨b, 0, none⟩)))) (hn : x.leaves ≤ 1000) : Calls Tryd.prog 63 #[.slice none 0 0, .iface x.ptr (.pointer (some ⟨b, 0, none⟩))] w (NilP (splitA x) w) :=
  (splitA_any x b _ [] w.heap.size w (RL.nil _ _ _ _) (Nat.le_refl _) (by simp; omega) hx).mono fun _ _ h => nilP_of (splitA_pos x).1 h
theorem splitO_nil (x : Ex) (b : Nat) (w : World) (hx : CIs w x (.iface x.ptr (.pointer (some ⟨b, 0, none⟩)))) (hn : x.leaves ≤ 1000) : Calls Tryd.prog 64 #[.slice none 0 0, .iface x.ptr (.pointer (some ⟨b, 0, none⟩))] w (NilP (splitO x) w) :=
  (splitO_any x b _ [] w.heap.size w (RL.nil _ _ _ _) (Nat.le_refl _) (by simp; omega) hx).mono fun _ _ h => nilP_of (splitO_pos x).1 h
end Go.Proofs.YteemenhinhkonaaDoor
/- A strings.Builder of the call's own: WriteString and String. copyCheck is walked here: this program's body of it ends where the shelf's goes on. -/
namespace Go.Proofs.YteemenhinhkonaaDoor
open Go.RowKit

theorem size_bld : (Tryd.prog.info? 105).map (fun j => j.size) = some 2 := by kernel_rfl
theorem info_byte : (Tryd.prog.info? 5).map (fun i => (i.zero, i.size, i.bytes)) = some (some (.int .u8 0), 1, 1) := by kernel_rfl
set_option maxHeartbeats 1000000 in
set_option maxRecDepth 100000 in
theorem check_used (b : Nat) (w : World) (h0 : w.cell? ⟨b, 0, none⟩ = some (.pointer (some ⟨b, 0, none⟩))) : Calls Tryd.prog 82 #[.pointer (some ⟨b, 0, none⟩)] w fun e w' => e = .returned (.tuple #[]) ∧ w' = w := by
  obtain ⟨j, hj, _⟩ := Option.map_eq_some_iff.1 size_bld
  go_enter Tryd.func82, Tryd.ntmps82
  go_wp2
  rw [Lib.run_neq_ptr_same w _ Tryd.underlying103 hj]
  go_wp2
  go_end0
  exact ⟨rfl, rfl⟩
set_option maxHeartbeats 1000000 in
set_option maxRecDepth 100000 in
theorem check_fresh (b : Nat) (w : World) (h0 : w.cell? ⟨b, 0, none⟩ = some (.pointer none)) (hsh : w.shape? b = some (105, 2)) (hfz : w.frozen? ⟨b, 0, none⟩ = false) : Calls Tryd.prog 82 #[.pointer (some ⟨b, 0, none⟩)] w fun e w' => e = .returned (.tuple #[]) ∧ w' = w.setCell ⟨b, 0, none⟩ (.pointer (some ⟨b, 0, none⟩)) := by
  obtain ⟨j, hj, hjs⟩ := Option.map_eq_some_iff.1 size_bld
  go_enter Tryd.func82, Tryd.ntmps82
  go_wp2
  rw [Lib.run_to_unsafe w ⟨b, 0, none⟩ Tryd.underlying103 Tryd.underlying133 hj (by rw [hjs]; decide) hsh (Nat.zero_lt_succ 1)]
  simp only [Result.andThen]
  rw [Oper.upon_value]
  go_wp2
  rw [run_callFunc_extern Tryd.func98 (by kernel_rfl) (by kernel_rfl) (by kernel_rfl) (e := Extern.AbiNoEscape.same) (by kernel_rfl)]
  rw [Lib.run_noEscape]
  simp only [Result.andThen]
  rw [Oper.upon_value]
  go_wp2
  rw [Lib.run_from_unsafe w ⟨b, 0, none⟩ Tryd.underlying133 Tryd.underlying103 hj hsh (by kernel_rfl)]
  simp only [Result.andThen]
  rw [Oper.upon_value]
  go_wp2
  go_end0
  exact ⟨rfl, rfl⟩
theorem check_any (B b : Nat) (bs : List Value) (w : World) (h : Lib.IsBuilder 105 5 B b bs w) : Calls Tryd.prog 82 #[.pointer (some ⟨b, 0, none⟩)] w fun e w' => e = .returned (.tuple #[]) ∧ (Lib.BuilderAt 105 5 B b (.pointer (some ⟨b, 0, none⟩)) bs w' ∧ Below B w w') := by
  rcases h with h | h
  · refine (check_fresh b w h.cell0 h.shape h.frozen0).mono ?_
    rintro e w' ⟨rfl, rfl⟩
    exact ⟨rfl, h.used _, (Below.refl B w).setCell (p := ⟨b, 0, none⟩) h.1 _⟩
  · refine (check_used b w h.cell0).mono ?_
    rintro e w' ⟨rfl, rfl⟩
    exact ⟨rfl, h, Below.refl B _⟩
set_option maxHeartbeats 2000000 in
set_option maxRecDepth 100000 in
theorem write_any (B b : Nat) (bs : List Value) (s : ByteArray) (w : World) (h : Lib.IsBuilder 105 5 B b bs w) (hlen : bs.length + s.size ≤ 140737488355328) (hBw : B ≤ w.heap.size) :
    Calls Tryd.prog 65 #[.pointer (some ⟨b, 0, none⟩), .string s] w fun e w' => e = .returned (.tuple #[.int .i64 s.size, .nilIface]) ∧ (Lib.BuilderAt 105 5 B b (.pointer (some ⟨b, 0, none⟩)) (bs ++ Lib.strCells s) w' ∧ Below B w w') := by
  obtain ⟨i0, hi, hz0, hz1, hz2⟩ := info_parts info_byte
  go_enter Tryd.func65, Tryd.ntmps65
  go_wp2_with (go_at_call 82; refine (check_any B b bs _ h).mono ?_)
  rintro e w1 ⟨rfl, h1, hb1⟩
  obtain ⟨hB, v, hbk, hown, hne⟩ := h1
  have c0 : w1.cell? ⟨b, 0, none⟩ = some (.pointer (some ⟨b, 0, none⟩)) := by rw [Lib.cell_of_heap hbk]; rfl
  have c1 : w1.cell? ⟨b, 1, none⟩ = some v := by rw [Lib.cell_of_heap hbk]; rfl
  go_wp2_with (at_builtin; refine Lib.wpList_append_own_string _ rfl _ _ 82 9 rfl B 5 i0 Tryd.underlying82 Tryd.underlying9 hi hz0 hz1 hz2 _ _ _ rfl hown s rfl ?c3 ?c4 ?c5 ?_)
  case c3 => unfold maxLen; omega
  case c4 => omega
  case c5 => have := hb1.size; omega
  intro v' w2 hown' hgrow _
  have hlt : b < w1.heap.size := lt_of_heap hbk
  have hb2 : w2.heap[b]? = some (.cells #[.pointer (some ⟨b, 0, none⟩), v] 105 (0, 0)) := by
    rw [hgrow.block b hlt (fun e => hne e.symm)]
    exact hbk
  have d0 : w2.cell? ⟨b, 0, none⟩ = some (.pointer (some ⟨b, 0, none⟩)) := by rw [Lib.cell_of_heap hb2]; rfl
  have d1 : w2.cell? ⟨b, 1, none⟩ = some v := by rw [Lib.cell_of_heap hb2]; rfl
  have f1 : w2.frozen? ⟨b, 1, none⟩ = false := Lib.frozen_of_heap hb2 1
  obtain ⟨ao, n', cap, rfl⟩ : ∃ ao n' cap, v' = .slice ao n' cap := by
    rcases hown'.2 with ⟨hv, _⟩ | ⟨g, cap, cur, hv, _⟩
    · exact ⟨_, _, _, hv⟩
    · exact ⟨_, _, _, hv⟩
  go_wp2
  go_ret2
  refine ⟨rfl, ?_, ?_⟩
  · exact Lib.BuilderAt.put (T := 105) (e := 5) hB hb2 (bs' := bs ++ Lib.strCells s) (by simpa [Lib.strCells_length] using hown') (by decide)
  · exact (hb1.grown hgrow (by have := hb1.size; omega) (fun k hk => (hown.lt k hk).1)).setCell (p := ⟨b, 1, none⟩) hB _
end Go.Proofs.YteemenhinhkonaaDoor
/- The package's PlusBuildLines. -/
namespace Go.Proofs.YteemenhinhkonaaDoor
open Go.RowKit

theorem info_exprs : (Tryd.prog.info? 100).map (fun i => (i.zero, i.size, i.bytes)) = some (some (.slice none 0 0), 1, 24) := by kernel_rfl
theorem info_exprss : (Tryd.prog.info? 102).map (fun i => (i.zero, i.size, i.bytes)) = some (some (.slice none 0 0), 1, 24) := by kernel_rfl
/- the rounds -/
def Out1 (w2 : World) (y : Ex) (v i : Value) (wr : World) : Prop := ∃ k : Nat, k ≤ (splitA y).length ∧ i = .int .i64 k ∧ Below w2.heap.size w2 wr ∧ RL 102 P2 wr w2.heap.size v ((rowsE y).take k) ∧ fineR ((rowsE y).take k) = true
def Out2 (w3 : World) (o : Ex) (v i : Value) (wq : World) : Prop := ∃ m : Nat, m ≤ (splitO o).length ∧ i = .int .i64 m ∧ Below w3.heap.size w3 wq ∧ RL 100 P1 wq w3.heap.size v (((splitO o).map splitA).take m) ∧ (((splitO o).map splitA).take m).all (fun a => a.all litB) = true
def Out3 (w4 : World) (a : Ex) (v i : Value) (ws : World) : Prop := ∃ j : Nat, j ≤ (splitA a).length ∧ i = .int .i64 j ∧ Below w4.heap.size w4 ws ∧ RL 63 P0 ws w4.heap.size v ((splitA a).take j) ∧ ((splitA a).take j).all litB = true
theorem take_snoc {α : Type} {l : List α} {k : Nat} {x : α} (h : l[k]? = some x) : l.take (k + 1) = l.take k ++ [x] := by rw [List.take_add_one, h]; rfl
theorem out3_next {w4 ws w5 : World} {a l : Ex} {v v1 u : Value} {j : Nat} {o : Obj} {vals : List Value} (hj : (splitA a)[j]? = some l) (hlit : litB l = true) (hb : Below w4.heap.size w4 ws)
    (ho : ws.ownsRow w4.heap.size 63 1 v j vals) (hl : vals.length = j) (hc : ∀ (i : Nat) (u : Value) (x : Ex), vals[i]? = some u → ((splitA a).take j)[i]? = some x → P0 ws u x) (hall : ((splitA a).take j).all litB = true) (hx : CIs ws l u)
    (h1 : w5.ownsRow w4.heap.size 63 1 v1 (j + 1) (vals ++ [u]))
    (hg : (v1.ownBlock = v.ownBlock ∧ (ws.alloc o).grownBy w5 v.ownBlock) ∨ (v1.ownBlock = some (ws.alloc o).heap.size ∧ Below (ws.alloc o).heap.size (ws.alloc o) w5)) : Out3 w4 a v1 (.int .i64 ((j : Int) + 1)) w5 := by
  have hlt := (List.getElem?_eq_some_iff.1 hj).1
  have e : ((splitA a).take j).length = j := by rw [List.length_take]; omega
  obtain ⟨r1, r2⟩ := RL.app (xs := (splitA a).take j) (KB0 rfl) (by rw [e]; exact ho) (by rw [e]; exact hl) hc hx (by rw [e]; exact h1) hg hb (Nat.le_refl _)
  refine ⟨j + 1, hlt, by simp, r2, by rw [take_snoc hj]; exact r1, ?_⟩
  rw [take_snoc hj, List.all_append, hall]
  simp [hlit]
theorem out2_next {wb : Nat} {w3 wq w5 w6 : World} {o a : Ex} {v v1 u : Value} {m : Nat} {ob : Obj} {vals : List Value} (hm : (splitO o)[m]? = some a) (hb : Below w3.heap.size w3 wq) (hb5 : Below wq.heap.size wq w5)
    (ho : wq.ownsRow w3.heap.size 100 1 v m vals) (hl : vals.length = m) (hc : ∀ (i : Nat) (u : Value) (x : List Ex), vals[i]? = some u → (((splitO o).map splitA).take m)[i]? = some x → P1 wq u x) (hall : (((splitO o).map splitA).take m).all (fun a => a.all litB) = true)
    (hx : RL 63 P0 w5 wb u (splitA a)) (hxa : (splitA a).all litB = true)
    (h1 : w6.ownsRow w3.heap.size 100 1 v1 (m + 1) (vals ++ [u]))
    (hg : (v1.ownBlock = v.ownBlock ∧ (w5.alloc ob).grownBy w6 v.ownBlock) ∨ (v1.ownBlock = some (w5.alloc ob).heap.size ∧ Below (w5.alloc ob).heap.size (w5.alloc ob) w6)) : Out2 w3 o v1 (.int .i64 ((m : Int) + 1)) w6 := by
  have hlt := (List.getElem?_eq_some_iff.1 hm).1
  have hm' : ((splitO o).map splitA)[m]? = some (splitA a) := by rw [List.getElem?_map, hm]; rfl
  have e : (((splitO o).map splitA).take m).length = m := by rw [List.length_take, List.length_map]; omega
  obtain ⟨r1, r2⟩ := RL.app (xs := ((splitO o).map splitA).take m) KB1 (by rw [e]; exact ownsRow_below ho hb5) (by rw [e]; exact hl) (fun i u x h1 h2 => KL1 hb5 _ _ (hc i u x h1 h2)) (hx.lower (Nat.zero_le _)) (by rw [e]; exact h1) hg (hb.trans (hb5.mono hb.size)) (Nat.le_refl _)
  refine ⟨m + 1, hlt, by simp, r2, by rw [take_snoc hm']; exact r1, ?_⟩
  rw [take_snoc hm', List.all_append, hall]
  simp [hxa]
theorem out1_next {wb : Nat} {w2 wr w5 w6 : World} {y o : Ex} {v v1 u : Value} {k : Nat} {ob : Obj} {vals : List Value} (hk : (splitA y)[k]? = some o) (hb : Below w2.heap.size w2 wr) (hb5 : Below wr.heap.size wr w5)
    (ho : wr.ownsRow w2.heap.size 102 1 v k vals) (hl : vals.length = k) (hc : ∀ (i : Nat) (u : Value) (x : List (List Ex)), vals[i]? = some u → ((rowsE y).take k)[i]? = some x → P2 wr u x) (hall : fineR ((rowsE y).take k) = true)
    (hx : RL 100 P1 w5 wb u ((splitO o).map splitA)) (hxa : ((splitO o).map splitA).all (fun a => a.all litB) = true)
    (h1 : w6.ownsRow w2.heap.size 102 1 v1 (k + 1) (vals ++ [u]))
    (hg : (v1.ownBlock = v.ownBlock ∧ (w5.alloc ob).grownBy w6 v.ownBlock) ∨ (v1.ownBlock = some (w5.alloc ob).heap.size ∧ Below (w5.alloc ob).heap.size (w5.alloc ob) w6)) : Out1 w2 y v1 (.int .i64 ((k : Int) + 1)) w6 := by
  have hlt := (List.getElem?_eq_some_iff.1 hk).1
  have hk' : (rowsE y)[k]? = some ((splitO o).map splitA) := by unfold rowsE; rw [List.getElem?_map, hk]; rfl
  have e : ((rowsE y).take k).length = k := by unfold rowsE; rw [List.length_take, List.length_map]; omega
  obtain ⟨r1, r2⟩ := RL.app (xs := (rowsE y).take k) KB2 (by rw [e]; exact ownsRow_below ho hb5) (by rw [e]; exact hl) (fun i u x h1 h2 => KL2 hb5 _ _ (hc i u x h1 h2)) (hx.lower (Nat.zero_le _)) (by rw [e]; exact h1) hg (hb.trans (hb5.mono hb.size)) (Nat.le_refl _)
  refine ⟨k + 1, hlt, by simp, r2, by rw [take_snoc hk']; exact r1, ?_⟩
  unfold fineR at hall ⊢
  rw [take_snoc hk', List.all_append, hall]
  simpa using hxa

/- rows, read -/
def RDR {α : Type} (P : World → Value → α → Prop) (w : World) (g : Nat) (xs : List α) : Prop := ∀ k x, xs[k]? = some x → ∃ u, w.cell? ⟨g, k, none⟩ = some u ∧ P w u x
theorem RDR.below {α : Type} {P : World → Value → α → Prop} (hP : KL P) {w w' : World} {g : Nat} {xs : List α} (h : RDR P w g xs) (hb : Below w.heap.size w w') : RDR P w' g xs := fun k x hk => by
  obtain ⟨u, h1, h2⟩ := h k x hk
  exact ⟨u, (hb.cell (p := ⟨g, k, none⟩) (lt_of_cell h1)).trans h1, hP hb _ _ h2⟩
theorem RL.read {α : Type} {e : TypeId} {P : World → Value → α → Prop} {w : World} {base : Nat} {u : Value} {xs : List α} (h : RL e P w base u xs) (hp : 0 < xs.length) : ∃ g c, u = .slice (some ⟨g, 0, none⟩) xs.length c ∧ RDR P w g xs := by
  obtain ⟨vals, h1, h2, h3⟩ := h
  obtain ⟨p, c, rfl⟩ := ownsRow_slice h1
  obtain ⟨g, rfl, -, -, hc⟩ := ownsRow_at h1 hp
  refine ⟨g, c, rfl, fun k x hk => ?_⟩
  obtain ⟨v, hv⟩ : ∃ v, vals[k]? = some v := ⟨_, List.getElem?_eq_getElem (by rw [h2]; exact (List.getElem?_eq_some_iff.1 hk).1)⟩
  exact ⟨v, hc k v hv, h3 k v x hv hk⟩
/- loop 4 -/
def Out4 (R : List (List (List Ex))) (wr : World) (v i : Value) (wq : World) : Prop := ∃ m : Nat, m ≤ R.length ∧ i = .int .i64 m ∧ v = .int .i64 (maxR (R.take m) : Nat) ∧ wr = wq
theorem out4_next {R : List (List (List Ex))} {wr : World} {m : Nat} {r : List (List Ex)} {z : Nat} (h : R[m]? = some r) (hz : z = if maxR (R.take m) < r.length then r.length else maxR (R.take m)) : Out4 R wr (.int .i64 (z : Nat)) (.int .i64 ((m : Int) + 1)) wr :=
  ⟨m + 1, (List.getElem?_eq_some_iff.1 h).1, by simp, by rw [take_snoc h, maxR_snoc, hz], rfl⟩
/- loop 5 -/
def Out5 (R : List (List (List Ex))) (wr : World) (v i : Value) (wq : World) : Prop := ∃ m : Nat, m ≤ R.length ∧ i = .int .i64 m ∧ Below wr.heap.size wr wq ∧ RL 63 P0 wq wr.heap.size v (flatR (R.take m))
theorem vals_more {α : Type} {Q : Value → α → Prop} : ∀ {vs : List Value} {ys : List α}, vs.length = ys.length → (∀ (i : Nat) (u : Value) (x : α), vs[i]? = some u → ys[i]? = some x → Q u x) → ∀ {vals : List Value} {xs : List α}, vals.length = xs.length → (∀ (i : Nat) (u : Value) (x : α), vals[i]? = some u → xs[i]? = some x → Q u x) →
    ∀ (i : Nat) (u : Value) (x : α), (vals ++ vs)[i]? = some u → (xs ++ ys)[i]? = some x → Q u x := by
  intro vs
  induction vs with
  | nil => intro ys h _ vals xs _ h2 i u x h3 h4; obtain rfl : ys = [] := List.length_eq_zero_iff.1 h.symm; simp at h3 h4; exact h2 i u x h3 h4
  | cons a r ih =>
    intro ys h hq vals xs hl h2
    obtain ⟨y, ys, rfl⟩ : ∃ y ys', ys = y :: ys' := List.exists_cons_of_length_eq_add_one (n := r.length) (by rw [← h]; simp)
    have := ih (ys := ys) (by simpa using h) (fun i u x h3 h4 => hq (i + 1) u x (by simpa using h3) (by simpa using h4)) (vals := vals ++ [a]) (xs := xs ++ [y]) (by simp [hl]) (vals_snoc hl h2 (hq 0 a y rfl rfl))
    simpa using this
theorem RL.apps {e : TypeId} {α : Type} {P : World → Value → α → Prop} (hK : KB e P) {w w1 wb : World} {base : Nat} {v v1 : Value} {xs ys : List α} {vals vs : List Value} (ho : w.ownsRow base e 1 v xs.length vals) (hl : vals.length = xs.length)
    (hc : ∀ (i : Nat) (u : Value) (x : α), vals[i]? = some u → xs[i]? = some x → P w u x) (hy : vs.length = ys.length) (hq : ∀ (i : Nat) (u : Value) (x : α), vs[i]? = some u → ys[i]? = some x → P w u x) (h1 : w1.ownsRow base e 1 v1 (xs.length + ys.length) (vals ++ vs))
    (hg : (v1.ownBlock = v.ownBlock ∧ w.grownBy w1 v.ownBlock) ∨ (v1.ownBlock = some w.heap.size ∧ Below w.heap.size w w1)) (hb : Below wb.heap.size wb w) (hbase : wb.heap.size ≤ base) :
    RL e P w1 base v1 (xs ++ ys) ∧ Below wb.heap.size wb w1 := by
  have hw : w.grownBy w1 v.ownBlock := by
    rcases hg with ⟨_, h⟩ | ⟨_, h⟩
    · exact h
    · exact grown_of_below h _
  exact ⟨⟨vals ++ vs, by simpa using h1, by simp [hl, hy], vals_more hy (fun i u x h1 h2 => hK ho hw u x (hq i u x h1 h2)) hl (fun i u x h1 h2 => hK ho hw u x (hc i u x h1 h2))⟩, hb.grown hw hb.size (fun k hk => Nat.le_trans hbase (ho.lt k hk).1)⟩
theorem litsR_take (R : List (List (List Ex))) (m : Nat) : litsR (R.take m) ≤ litsR R := by
  have h : litsR R = litsR (R.take m) + litsR (R.drop m) := by
    unfold litsR
    rw [← List.sum_append, ← List.map_append, List.take_append_drop]
  omega
theorem out5_next {R : List (List (List Ex))} {wr w7 w8 : World} {m n : Nat} {r : List (List Ex)} {a : List Ex} {v v1 : Value} {vals vs : List Value} (h : R[m]? = some r) (ha : r[0]? = some a) (hn : n = (flatR (R.take m)).length) (hb : Below wr.heap.size wr w7)
    (ho : w7.ownsRow wr.heap.size 63 1 v n vals) (hl : vals.length = n) (hc : ∀ (i : Nat) (u : Value) (x : Ex), vals[i]? = some u → (flatR (R.take m))[i]? = some x → P0 w7 u x)
    (hy : vs.length = a.length) (hq : ∀ (i : Nat) (u : Value) (x : Ex), vs[i]? = some u → a[i]? = some x → P0 w7 u x) (h1 : w8.ownsRow wr.heap.size 63 1 v1 (n + a.length) (vals ++ vs))
    (hg : (v1.ownBlock = v.ownBlock ∧ w7.grownBy w8 v.ownBlock) ∨ (v1.ownBlock = some w7.heap.size ∧ Below w7.heap.size w7 w8)) : Out5 R wr v1 (.int .i64 ((m : Int) + 1)) w8 := by
  subst hn
  obtain ⟨r1, r2⟩ := RL.apps (xs := flatR (R.take m)) (ys := a) (KB0 rfl) ho hl hc hy hq h1 hg hb (Nat.le_refl _)
  have e : r.headD [] = a := by
    cases r with
    | nil => cases ha
    | cons q t => injection ha
  exact ⟨m + 1, (List.getElem?_eq_some_iff.1 h).1, by simp, r2, by rw [take_snoc h, flatR_snoc, e]; exact r1⟩
theorem ready_one {w7 : World} {base : Nat} {v : Value} {l : List Ex} (h : RL 63 P0 w7 base v l) :
    RDR P2 ((w7.alloc (.cells #[v] 100)).alloc (.cells #[.slice (some ⟨w7.heap.size, 0, none⟩) 1 1] 102)) (w7.heap.size + 1) [[l]] := by
  have hb1 : Below w7.heap.size w7 (w7.alloc (.cells #[v] 100)) := (Below.refl _ _).alloc (Nat.le_refl _) _
  have hb2 : Below w7.heap.size w7 ((w7.alloc (.cells #[v] 100)).alloc (.cells #[.slice (some ⟨w7.heap.size, 0, none⟩) 1 1] 102)) := hb1.alloc (by simp) _
  intro k x hk
  obtain rfl : k = 0 := by
    have := (List.getElem?_eq_some_iff.1 hk).1
    simpa using this
  obtain rfl : [l] = x := by simpa using hk
  refine ⟨_, cell_at (heap_new _ _ (by simp)) _ rfl, [v], ?_, rfl, ?_⟩
  · refine World.ownsRow.alloc ?_ _
    exact ⟨rfl, .inr ⟨w7.heap.size, 1, #[v], rfl, Nat.zero_le _, heap_new _ _ rfl, Nat.le_refl _, by unfold maxLen; omega, rfl, rfl⟩⟩
  · intro i u x hu hx
    have hi : i = 0 := by
      have := (List.getElem?_eq_some_iff.1 hu).1
      simpa using this
    subst hi
    obtain rfl : v = u := by simpa using hu
    obtain rfl : l = x := by simpa using hx
    exact (h.below (KL0 hb2) hb2).lower (Nat.zero_le _)
theorem one_le (r : List (List Ex)) : ∀ a ∈ r, a.length ≤ (r.map List.length).sum := by
  induction r with
  | nil => intro a h; cases h
  | cons b q ih =>
    intro a h
    simp only [List.map_cons, List.sum_cons]
    rcases List.mem_cons.1 h with rfl | h
    · omega
    · have := ih a h; omega
end Go.Proofs.YteemenhinhkonaaDoor
/- The lines of PlusBuildLines: what its last three loops leave. -/
namespace Go.Proofs.YteemenhinhkonaaDoor
open Go.RowKit

theorem optW_snoc (ts : List (List UInt8)) (t : List UInt8) : optW (ts ++ [t]) = optW ts ++ (if ts = [] then t else 44 :: t) := by
  cases ts with
  | nil => simp [optW, commaT]
  | cons u r => simp [optW, commaT]
theorem optT_ne {ts : List (List UInt8)} (h : ts ≠ []) : optT ts = 32 :: optW ts := by
  cases ts with
  | nil => exact absurd rfl h
  | cons u r => rfl
theorem lineR_snoc (r : List (List Ex)) (a : List Ex) : lineR (r ++ [a]) = lineR r ++ optT (a.map Ex.text) := by
  unfold lineR
  rw [List.map_append, List.map_singleton, lineOf_snoc]
theorem lineR_nil : lineR [] = plHead := by simp [lineR, lineOf]

structure Fit (R : List (List (List Ex))) : Prop where
  len : R.length ≤ 40
  row : ∀ r ∈ R, r ≠ [] ∧ r.length ≤ 40
  opt : ∀ r ∈ R, ∀ a ∈ r, a ≠ [] ∧ a.length ≤ 40
  lit : ∀ r ∈ R, ∀ a ∈ r, ∀ l ∈ a, l.text.length ≤ 2097152
theorem commaT_len (ts : List (List UInt8)) (h : ∀ t ∈ ts, t.length ≤ 2097152) : (commaT ts).length ≤ ts.length * 2097153 := by
  induction ts with
  | nil => simp [commaT]
  | cons t r ih =>
    have h1 := h t (by simp)
    have h2 := ih fun u hu => h u (by simp [hu])
    have e : commaT (t :: r) = 44 :: (t ++ commaT r) := by simp [commaT]
    rw [e]
    simp only [List.length_cons, List.length_append]
    omega
theorem optW_len (ts : List (List UInt8)) (h : ∀ t ∈ ts, t.length ≤ 2097152) : (optW ts).length ≤ ts.length * 2097153 := by
  cases ts with
  | nil => simp [optW]
  | cons t r =>
    have h1 := h t (by simp)
    have h2 := commaT_len r fun u hu => h u (by simp [hu])
    simp only [optW, List.length_append, List.length_cons]
    omega
theorem optT_le (ts : List (List UInt8)) (h : ∀ t ∈ ts, t.length ≤ 2097152) : (optT ts).length ≤ 1 + ts.length * 2097153 := by
  by_cases hn : ts = []
  · subst hn; simp [optT]
  · have := optW_len ts h
    rw [optT_ne hn, List.length_cons]
    omega
theorem lineR_len (r : List (List Ex)) (h : ∀ a ∈ r, ∀ l ∈ a, l.text.length ≤ 2097152) : (lineR r).length ≤ 9 + r.length + (r.map List.length).sum * 2097153 := by
  revert h
  refine snocI (P := fun r => (∀ a ∈ r, ∀ l ∈ a, l.text.length ≤ 2097152) → (lineR r).length ≤ 9 + r.length + (r.map List.length).sum * 2097153) ?_ ?_ r
  · intro _; rw [lineR_nil]; simp [plHead]
  · intro r a ih h
    have h1 := ih fun b hb => h b (by simp [hb])
    have h2 := optT_le (a.map Ex.text) (fun t ht => by obtain ⟨l, hl, rfl⟩ := List.mem_map.1 ht; exact h a (by simp) l hl)
    rw [List.length_map] at h2
    rw [lineR_snoc, List.length_append, List.map_append, List.sum_append, List.length_append]
    simp only [List.map_cons, List.map_nil, List.sum_cons, List.sum_nil, List.length_singleton]
    omega
theorem sum_le40 (r : List (List Ex)) (h : ∀ a ∈ r, a.length ≤ 40) : (r.map List.length).sum ≤ r.length * 40 := by
  induction r with
  | nil => simp
  | cons a q ih =>
    have h1 := h a (by simp)
    have h2 := ih fun b hb => h b (by simp [hb])
    simp only [List.map_cons, List.sum_cons, List.length_cons]
    omega
theorem Fit.line {R : List (List (List Ex))} (h : Fit R) {r : List (List Ex)} (hr : r ∈ R) (m : Nat) : (lineR (r.take m)).length ≤ 10000000000 := by
  have h1 := lineR_len (r.take m) fun a ha l hl => h.lit r hr a (List.mem_of_mem_take ha) l hl
  have h2 := sum_le40 (r.take m) fun a ha => (h.opt r hr a (List.mem_of_mem_take ha)).2
  have h3 := (h.row r hr).2
  have h4 : (r.take m).length ≤ 40 := by rw [List.length_take]; omega
  have h5 : (r.take m).length * 40 ≤ 1600 := by omega
  omega
theorem Fit.opts {R : List (List (List Ex))} (h : Fit R) {r : List (List Ex)} (hr : r ∈ R) {a : List Ex} (ha : a ∈ r) (m : Nat) : (optW ((a.take m).map Ex.text)).length ≤ 100000000 := by
  have h1 := optW_len ((a.take m).map Ex.text) fun t ht => by obtain ⟨l, hl, rfl⟩ := List.mem_map.1 ht; exact h.lit r hr a ha l (List.mem_of_mem_take hl)
  have h2 := (h.opt r hr a ha).2
  rw [List.length_map, List.length_take] at h1
  omega
/- the builder of a line -/
def BS (w6 : World) (l : List UInt8) (w : World) : Prop := Lib.IsBuilder 105 5 w6.heap.size w6.heap.size (Lib.byteCells l) w ∧ Below w6.heap.size w6 w
theorem BS.fresh (w6 : World) : BS w6 [] (w6.alloc (.cells #[.pointer none, .slice none 0 0] 105)) := ⟨Lib.fresh_isBuilder _ _ w6, (Below.refl _ _).alloc (Nat.le_refl _) _⟩
theorem BS.heap {w6 w w' : World} {l : List UInt8} (h : BS w6 l w) (hh : w'.heap = w.heap) (hb : Below w6.heap.size w6 w') : BS w6 l w' := by
  refine ⟨?_, hb⟩
  have k : ∀ p, Lib.BuilderAt 105 5 w6.heap.size w6.heap.size p (Lib.byteCells l) w → Lib.BuilderAt 105 5 w6.heap.size w6.heap.size p (Lib.byteCells l) w' := by
    rintro p ⟨h1, v, h2, h3, h4⟩
    refine ⟨h1, v, by rw [hh]; exact h2, ?_, h4⟩
    exact ⟨h3.1, by rw [hh]; exact h3.2⟩
  exact h.1.imp (k _) (k _)
theorem BS.drewN {w6 w : World} {l : List UInt8} (h : BS w6 l w) (n : Nat) : BS w6 l (w.drewN n) := h.heap rfl (below_drewN' h.2 n)
theorem write_bs (w6 : World) (l : List UInt8) (s : ByteArray) (w : World) (h : BS w6 l w) (hlen : l.length + s.size ≤ 140737488355328) :
    Calls Tryd.prog 65 #[.pointer (some ⟨w6.heap.size, 0, none⟩), .string s] w fun e w' => e = .returned (.tuple #[.int .i64 s.size, .nilIface]) ∧ BS w6 (l ++ s.data.toList) w' := by
  refine (write_any w6.heap.size w6.heap.size (Lib.byteCells l) s w h.1 (by rw [Lib.byteCells_length]; exact hlen) h.2.size).mono ?_
  rintro e w' ⟨rfl, h1, h2⟩
  refine ⟨rfl, .inr ?_, h.2.trans h2⟩
  rw [Lib.byteCells_append]
  exact h1
theorem string_bs (w6 : World) (l : List UInt8) (w : World) (h : BS w6 l w) :
    Calls Tryd.prog 66 #[.pointer (some ⟨w6.heap.size, 0, none⟩)] w fun e w' => e = .returned (.string (mkB l)) ∧ Below w6.heap.size w6 w' := by
  refine (Tryd.Builder_String_any w6.heap.size w6.heap.size l w h.1 h.2.size).mono ?_
  rintro e w' ⟨rfl, h2⟩
  exact ⟨rfl, h.2.trans h2⟩
/- loops 8, 7, 6 -/
def Out8 (w6 : World) (pre : List UInt8) (a : List Ex) (i : Value) (w : World) : Prop := ∃ j : Nat, j ≤ a.length ∧ i = .int .i64 j ∧ BS w6 (pre ++ 32 :: optW ((a.take j).map Ex.text)) w
theorem out8_start {w6 w : World} {pre : List UInt8} {a : List Ex} (h : BS w6 (pre ++ [32]) w) : Out8 w6 pre a (.int .i64 0) w := ⟨0, Nat.zero_le _, rfl, h⟩
theorem out8_first {w6 w : World} {pre : List UInt8} {a : List Ex} {l : Ex} (h : a[0]? = some l) (hb : BS w6 ((pre ++ 32 :: optW ((a.take 0).map Ex.text)) ++ l.text) w) : Out8 w6 pre a (.int .i64 1) w := by
  refine ⟨1, (List.getElem?_eq_some_iff.1 h).1, rfl, ?_⟩
  rw [show (1 : Nat) = 0 + 1 from rfl, take_snoc h]
  simpa [optW, commaT] using hb
theorem out8_next {w6 w : World} {pre : List UInt8} {a : List Ex} {j : Nat} {l : Ex} (h : a[j]? = some l) (hj : 0 < j) (hb : BS w6 (((pre ++ 32 :: optW ((a.take j).map Ex.text)) ++ [44]) ++ l.text) w) : Out8 w6 pre a (.int .i64 ((j : Int) + 1)) w := by
  have hlt := (List.getElem?_eq_some_iff.1 h).1
  refine ⟨j + 1, hlt, by simp, ?_⟩
  have hn : (a.take j).map Ex.text ≠ [] := by
    intro e
    have := congrArg List.length e
    rw [List.length_map, List.length_take, List.length_nil] at this
    omega
  rw [take_snoc h, List.map_append, List.map_singleton, optW_snoc, if_neg hn]
  simpa using hb
def Out7 (w6 : World) (r : List (List Ex)) (i : Value) (w : World) : Prop := ∃ m : Nat, m ≤ r.length ∧ i = .int .i64 m ∧ BS w6 (lineR (r.take m)) w
theorem out7_start {w6 w : World} {r : List (List Ex)} (h : BS w6 plHead w) : Out7 w6 r (.int .i64 0) w := ⟨0, Nat.zero_le _, rfl, by rw [List.take_zero, lineR_nil]; exact h⟩
theorem out7_next {w6 w : World} {r : List (List Ex)} {m : Nat} {a : List Ex} (h : r[m]? = some a) (hn : a ≠ []) (hb : BS w6 (lineR (r.take m) ++ 32 :: optW (a.map Ex.text)) w) : Out7 w6 r (.int .i64 ((m : Int) + 1)) w := by
  refine ⟨m + 1, (List.getElem?_eq_some_iff.1 h).1, by simp, ?_⟩
  rw [take_snoc h, lineR_snoc, optT_ne (by simpa using hn)]
  exact hb
def linesV (R : List (List (List Ex))) : List Value := R.map fun r => Value.string (mkB (lineR r))
theorem linesV_length (R : List (List (List Ex))) : (linesV R).length = R.length := List.length_map _
def Out6 (R : List (List (List Ex))) (wB : World) (v i : Value) (w : World) : Prop := ∃ m : Nat, m ≤ R.length ∧ i = .int .i64 m ∧ Below wB.heap.size wB w ∧ w.ownsRow wB.heap.size 9 1 v m (linesV (R.take m))
theorem out6_start (R : List (List (List Ex))) (wB : World) : Out6 R wB (.slice none 0 0) (.int .i64 0) wB := ⟨0, Nat.zero_le _, rfl, Below.refl _ _, World.ownsRow_nil _ _ _ _⟩
theorem out6_next {R : List (List (List Ex))} {wB w w1 : World} {m : Nat} {r : List (List Ex)} {v v1 : Value} {o : Obj} (h : R[m]? = some r) (hb : Below wB.heap.size wB w) (ho : w.ownsRow wB.heap.size 9 1 v m (linesV (R.take m)))
    (h1 : w1.ownsRow wB.heap.size 9 1 v1 (m + 1) (linesV (R.take m) ++ [.string (mkB (lineR r))])) (hg : (w.alloc o).grownBy w1 v.ownBlock) : Out6 R wB v1 (.int .i64 ((m : Int) + 1)) w1 := by
  have hg' : w.grownBy w1 v.ownBlock := (World.grownBy_alloc w o _).trans hg
  refine ⟨m + 1, (List.getElem?_eq_some_iff.1 h).1, by simp, hb.grown hg' hb.size (fun q hq => (ho.lt q hq).1), ?_⟩
  rw [take_snoc h]
  unfold linesV at h1 ⊢
  rw [List.map_append, List.map_singleton]
  exact h1
/- the rows fit -/
theorem tagsLe_and {x y : Ex} {n : Nat} (h : (Ex.and x y).tagsLe n) : x.tagsLe n ∧ y.tagsLe n := h
theorem tagsLe_or {x y : Ex} {n : Nat} (h : (Ex.or x y).tagsLe n) : x.tagsLe n ∧ y.tagsLe n := h
theorem pn_tagsLe (x : Ex) (n : Nat) : ∀ b, x.tagsLe n → (pn b x).tagsLe n := by
  induction x with
  | tag t => intro b h; cases b <;> exact h
  | not x ih => intro b h; exact ih (!b) h
  | and x y ihx ihy => intro b h; cases b <;> exact ⟨ihx _ h.1, ihy _ h.2⟩
  | or x y ihx ihy => intro b h; cases b <;> exact ⟨ihx _ h.1, ihy _ h.2⟩
theorem lit_len {l : Ex} (hb : litB l = true) (hn : l.nnf) (ht : l.tagsLe 1048576) : l.text.length ≤ 2097152 := by
  cases l with
  | tag t => have h : t.size ≤ 1048576 := ht; have e : t.data.toList.length = t.size := by simp
             simp only [Ex.text]; omega
  | not x =>
    obtain ⟨t, rfl⟩ := hn
    have h : t.size ≤ 1048576 := ht
    have e : t.data.toList.length = t.size := by simp
    have e2 : Ex.text (.not (.tag t)) = 33 :: t.data.toList := rfl
    rw [e2, List.length_cons]
    omega
  | and x y => cases hb
  | or x y => cases hb
theorem lits_len (y : Ex) (hn : y.nnf) (ht : y.tagsLe 1048576) (hf : fineR (rowsE y) = true) : ∀ r ∈ rowsE y, ∀ a ∈ r, ∀ l ∈ a, l.text.length ≤ 2097152 := by
  intro r hr a ha l hl
  have hb : litB l = true := by
    unfold fineR at hf
    exact List.all_eq_true.1 (List.all_eq_true.1 (List.all_eq_true.1 hf r hr) a ha) l hl
  have hq := rowsE_mem (Q := fun l => l.nnf ∧ l.tagsLe 1048576) (fun x y h => ⟨⟨h.1.1, h.2.1⟩, ⟨h.1.2, h.2.2⟩⟩) (fun x y h => ⟨⟨h.1.1, h.2.1⟩, ⟨h.1.2, h.2.2⟩⟩) _ ⟨hn, ht⟩ r hr a ha l hl
  exact lit_len hb hq.1 hq.2
theorem len_lits (R : List (List (List Ex))) (hp : ∀ r ∈ R, r ≠ [] ∧ ∀ a ∈ r, a ≠ []) : R.length ≤ litsR R ∧ ∀ r ∈ R, r.length ≤ litsR R := by
  have h1 : ∀ r : List (List Ex), (∀ a ∈ r, a ≠ []) → r.length ≤ (r.map List.length).sum := by
    intro r h
    induction r with
    | nil => simp
    | cons a q ih =>
      have h1 := List.length_pos_iff.2 (h a (by simp))
      have h2 := ih fun b hb => h b (by simp [hb])
      simp only [List.map_cons, List.sum_cons, List.length_cons]
      omega
  refine ⟨?_, fun r hr => Nat.le_trans (h1 r (hp r hr).2) (row_le R r hr)⟩
  induction R with
  | nil => simp [litsR]
  | cons r q ih =>
    have h2 := ih fun b hb => hp b (by simp [hb])
    have h3 := h1 r (hp r (by simp)).2
    have h4 := List.length_pos_iff.2 (hp r (by simp)).1
    simp only [litsR, List.map_cons, List.sum_cons, List.length_cons] at h2 ⊢
    omega
theorem fit_rows (y : Ex) (hl : y.leaves ≤ 40) (hn : y.nnf) (ht : y.tagsLe 1048576) (hf : fineR (rowsE y) = true) : Fit (rowsE y) := by
  obtain ⟨-, hp⟩ := rowsE_pos y
  have hle := litsR_le y
  obtain ⟨h1, h2⟩ := len_lits _ hp
  exact ⟨by omega, fun r hr => ⟨(hp r hr).1, by have := h2 r hr; omega⟩, fun r hr a ha => ⟨(hp r hr).2 a ha, by have := row_le _ r hr; have := one_le r a ha; omega⟩, lits_len y hn ht hf⟩
theorem fit_one (y : Ex) (hl : y.leaves ≤ 40) (hn : y.nnf) (ht : y.tagsLe 1048576) (hf : fineR (rowsE y) = true) : Fit [[flatR (rowsE y)]] := by
  obtain ⟨hne, hp⟩ := rowsE_pos y
  have hle := litsR_le y
  have hfl := flatR_len (rowsE y)
  have hfn := flatR_ne _ hne hp
  have hll := lits_len y hn ht hf
  refine ⟨by simp, fun r hr => ?_, fun r hr a ha => ?_, fun r hr a ha l hl => ?_⟩
  · obtain rfl : r = [flatR (rowsE y)] := by simpa using hr
    simp
  · obtain rfl : r = [flatR (rowsE y)] := by simpa using hr
    obtain rfl : a = flatR (rowsE y) := by simpa using ha
    exact ⟨hfn, by omega⟩
  · obtain rfl : r = [flatR (rowsE y)] := by simpa using hr
    obtain rfl : a = flatR (rowsE y) := by simpa using ha
    obtain ⟨r, hr, a, ha, hl⟩ := flatR_mem _ l hl
    exact hll r hr a ha l hl
end Go.Proofs.YteemenhinhkonaaDoor
