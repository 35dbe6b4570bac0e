/- An expression in memory as raw data; specExpr of it. -/
import Derived.Test.YteemenhinhkonaaDoorProg
import Derived.Test.YteemenhinhkonaaDoorEx
import Derived.Test.YteemenhinhkonaaDoorSpecExpr
namespace Go.Proofs.YteemenhinhkonaaDoor
open Go.RowKit

theorem EIs.step {S : Nat → Prop} {w : World} : ∀ {n : Nat} {e : E} {c0 c1 c2 : Value}, EIs S w n e c0 c1 c2 → EIs S w (n + 1) e c0 c1 c2 := by
  intro n
  induction n with
  | zero => intro e c0 c1 c2 h; exact h.elim
  | succ n ih =>
    intro e c0 c1 c2 h
    obtain ⟨h0, h1, h2, h3, h4, a, cap, h5, h6, h7⟩ := h
    refine ⟨h0, h1, h2, h3, h4, a, cap, h5, h6, fun i x hi => ?_⟩
    obtain ⟨b, off, x0, x1, x2, g1, g2, g3, g4, g5, g6⟩ := h7 i x hi
    exact ⟨b, off, x0, x1, x2, g1, g2, g3, g4, g5, ih g6⟩
theorem EIs.more {S : Nat → Prop} {w : World} {n m : Nat} {e : E} {c0 c1 c2 : Value} (h : EIs S w n e c0 c1 c2) (hm : n ≤ m) : EIs S w m e c0 c1 c2 := by
  obtain ⟨d, rfl⟩ := Nat.exists_eq_add_of_le hm
  clear hm
  induction d with
  | zero => exact h
  | succ d ih => exact ih.step
theorem two_cases {α : Type} {a b x : α} {i : Nat} (h : [a, b][i]? = some x) : (i = 0 ∧ x = a) ∨ (i = 1 ∧ x = b) := by
  match i, h with
  | 0, h => exact .inl ⟨rfl, (Option.some.inj h).symm⟩
  | 1, h => exact .inr ⟨rfl, (Option.some.inj h).symm⟩
  | i + 2, h => simp at h
theorem EIs_of_X {S : Nat → Prop} {w : World} : ∀ {x : Ex} {c0 c1 c2 : Value}, XIs S w x c0 c1 c2 → ∃ e, isEx x e ∧ EIs S w x.deep e c0 c1 c2 := by
  intro x
  induction x with
  | tag t =>
    intro c0 c1 c2 h
    obtain ⟨h0, h1, h2, a, cap, h3⟩ := h
    exact ⟨.mk 1 t [], ⟨rfl, rfl, rfl⟩, h0, by simp [E.kind], by simp [E.kind], h1, h2, a, cap, h3, by simp [E.subs], fun i x hi => by simp [E.subs] at hi⟩
  | not x ih =>
    intro c0 c1 c2 h
    obtain ⟨h0, ⟨s, h1, h2⟩, b, off, cap, x0, x1, x2, h3, hS, k0, k1, k2, hx⟩ := h
    obtain ⟨e, he, hE⟩ := ih hx
    refine ⟨.mk 2 s [e], ⟨rfl, e, rfl, he⟩, h0, by simp [E.kind], by simp [E.kind], h1, h2, _, cap, h3, by simp [E.subs], fun i y hi => ?_⟩
    cases i with
    | zero => obtain rfl := (Option.some.inj hi); exact ⟨b, off, x0, x1, x2, rfl, hS, k0, k1, k2, hE⟩
    | succ i => simp [E.subs] at hi
  | and x y ihx ihy =>
    intro c0 c1 c2 h
    obtain ⟨h0, ⟨s, h1, h2⟩, b, off, cap, x0, x1, x2, y0, y1, y2, h3, hS, k0, k1, k2, k3, k4, k5, hx, hy⟩ := h
    obtain ⟨e, he, hE⟩ := ihx hx
    obtain ⟨g, hg, hG⟩ := ihy hy
    refine ⟨.mk 3 s [e, g], ⟨rfl, e, g, rfl, he, hg⟩, h0, by simp [E.kind], by simp [E.kind], h1, h2, _, cap, h3, by simp [E.subs], fun i z hi => ?_⟩
    rcases two_cases hi with ⟨rfl, rfl⟩ | ⟨rfl, rfl⟩
    · exact ⟨b, off, x0, x1, x2, rfl, hS, k0, k1, k2, hE.more (Nat.le_max_left _ _)⟩
    · exact ⟨b, off, y0, y1, y2, rfl, hS, k3, k4, k5, hG.more (Nat.le_max_right _ _)⟩
  | or x y ihx ihy =>
    intro c0 c1 c2 h
    obtain ⟨h0, ⟨s, h1, h2⟩, b, off, cap, x0, x1, x2, y0, y1, y2, h3, hS, k0, k1, k2, k3, k4, k5, hx, hy⟩ := h
    obtain ⟨e, he, hE⟩ := ihx hx
    obtain ⟨g, hg, hG⟩ := ihy hy
    refine ⟨.mk 4 s [e, g], ⟨rfl, e, g, rfl, he, hg⟩, h0, by simp [E.kind], by simp [E.kind], h1, h2, _, cap, h3, by simp [E.subs], fun i z hi => ?_⟩
    rcases two_cases hi with ⟨rfl, rfl⟩ | ⟨rfl, rfl⟩
    · exact ⟨b, off, x0, x1, x2, rfl, hS, k0, k1, k2, hE.more (Nat.le_max_left _ _)⟩
    · exact ⟨b, off, y0, y1, y2, rfl, hS, k3, k4, k5, hG.more (Nat.le_max_right _ _)⟩

def XPost (x : Ex) (w : World) (en : Ending) (w' : World) : Prop := ∃ c0 c1 c2, en = .returned (.agg #[c0, c1, c2]) ∧ XIs (fun b => w.heap.size ≤ b) w' x c0 c1 c2 ∧ Below w.heap.size w w'
theorem specX_any (x : Ex) (c0 c1 c2 : Value) (w : World) (h : XIs (fun _ => True) w x c0 c1 c2) : Calls Tryd.prog 17 #[.agg #[c0, c1, c2]] w (XPost x w) := by
  obtain ⟨e, he, hE⟩ := EIs_of_X h
  refine (specExpr_any x.deep e c0 c1 c2 w hE).mono ?_
  rintro en w' ⟨c2', rfl, hE', hb⟩
  exact ⟨_, _, _, rfl, XIs_of he hE', hb⟩
end Go.Proofs.YteemenhinhkonaaDoor
