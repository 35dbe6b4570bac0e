/- A map of the call's own from texts to numbers, by what it answers. -/
import Derived.Test.YtncjclmhdhimdaaDoorProg
import Derived.Test.YtncjclmhdhimdaaDoorDStr
import Derived.Maps.OwnOps
import Derived.Maps.OwnSet
import Derived.Maps.Views
namespace Go.Proofs.YtncjclmhdhimdaaDoor
open Go.RowKit Go.Maps Go.WideMaps

theorem keyed_str : Keyed Tryd.prog 9 := string_keyed Tryd.underlying9
theorem zero_int (w : World) : (zeroValue 3).run Tryd.prog w = .ok (.int .i64 0) w := by kernel_rfl
def MM (w : World) (B n : Nat) (f : List UInt8 → Int) (g : List UInt8 → Bool) : Prop :=
  ∃ D : DataW Unit, w.ownsMap Tryd.prog 9 (plainElem Tryd.prog 3) B n D ∧ IsMap D ∧ ∀ t, D.atKey (.string t) (.lit (.int .i64 0)) = .lit (.int .i64 (f t)) ∧ Maps.has D (.string t) = g t
theorem MM.start (w : World) : MM (w.alloc (.map #[] 0)) w.heap.size 0 (fun _ => 0) (fun _ => false) := by
  refine ⟨.map [], World.ownsMap_made _ _ _ _, isMap_empty, fun t => ⟨?_, rfl⟩⟩
  exact atKey_of_not_has rfl _
theorem MM.mono {w : World} {B n n' : Nat} {f : List UInt8 → Int} {g : List UInt8 → Bool} (h : MM w B n f g) (hn : n ≤ n') : MM w B n' f g := by
  obtain ⟨D, h1, h2⟩ := h
  exact ⟨D, h1.mono hn, h2⟩
theorem MM.congr {w : World} {B n : Nat} {f f' : List UInt8 → Int} {g g' : List UInt8 → Bool} (h : MM w B n f g) (hf : ∀ t, f t = f' t) (hg : ∀ t, g t = g' t) : MM w B n f' g' := by
  obtain ⟨D, h1, h2, h3⟩ := h
  exact ⟨D, h1, h2, fun t => by rw [← hf t, ← hg t]; exact h3 t⟩
theorem MM.block {w w' : World} {B n : Nat} {f : List UInt8 → Int} {g : List UInt8 → Bool} (h : MM w B n f g) (hb : w'.heap[B]? = w.heap[B]?) : MM w' B n f g := by
  obtain ⟨D, ⟨es, clock, h1, h4⟩, h2, h3⟩ := h
  exact ⟨D, ⟨es, clock, hb.trans h1, h4⟩, h2, h3⟩
theorem MM.lt {w : World} {B n : Nat} {f : List UInt8 → Int} {g : List UInt8 → Bool} (h : MM w B n f g) : B < w.heap.size := by
  obtain ⟨D, ⟨es, clock, h1, h4⟩, h2, h3⟩ := h
  exact lt_of_heap h1
theorem key_str {l : List UInt8} (h : l.length ≤ 1152921504606846976) : keyOf Tryd.prog 9 (.string (mkB l)) = some (.string l) := by
  have := keyOf_string_mk (P := Tryd.prog) (k := 9) Tryd.underlying9 (s := mkB l) (by rw [mkB_size]; unfold maxLen; omega)
  rwa [mkB_toList] at this
theorem mm_look {ops : Array Oper} {rest : List Oper} {o : Oper} {a : Act} {Q : Exit → Act → World → Prop} {w : World} {B n : Nat} {f : List UInt8 → Int} {g : List UInt8 → Bool} (h : MM w B n f g) (l : List UInt8) (hl : l.length ≤ 1152921504606846976)
    (hg : o.guard = none) (m x : Operand) (hop : o.op = Op.lookup 45 m x false) (hm : a.eval m = .map (some B)) (hx : a.eval x = .string (mkB l))
    (hK : wpList Tryd.prog ops Q rest (a.put o.dst (.int .i64 (f l))) w) : wpList Tryd.prog ops Q (o :: rest) a w := by
  obtain ⟨D, h1, h2, h3⟩ := h
  refine wpList_lookup_own_int w hg m x 45 hop 9 3 .i64 keyed_str Tryd.underlying45 Tryd.underlying3 (zero_int _) B n D hm h1 _ _ hx (key_str hl) fun c hat _ => ?_
  rw [(h3 l).1] at hat
  injection hat with hat
  injection hat with _ hat
  rw [← hat]
  exact hK
theorem mm_ok {ops : Array Oper} {rest : List Oper} {o : Oper} {a : Act} {Q : Exit → Act → World → Prop} {w : World} {B n : Nat} {f : List UInt8 → Int} {g : List UInt8 → Bool} (h : MM w B n f g) (l : List UInt8) (hl : l.length ≤ 1152921504606846976)
    (hg : o.guard = none) (m x : Operand) (hop : o.op = Op.lookup 45 m x true) (hm : a.eval m = .map (some B)) (hx : a.eval x = .string (mkB l))
    (hK : wpList Tryd.prog ops Q rest (a.put o.dst (.tuple #[.int .i64 (f l), .bool (g l)])) w) : wpList Tryd.prog ops Q (o :: rest) a w := by
  obtain ⟨D, h1, h2, h3⟩ := h
  refine wpList_lookup_own_ok_int w hg m x 45 hop 9 3 .i64 keyed_str Tryd.underlying45 Tryd.underlying3 (zero_int _) B n D hm h1 _ _ hx (key_str hl) fun c hat _ => ?_
  rw [(h3 l).1] at hat
  injection hat with hat
  injection hat with _ hat
  rw [← hat, (h3 l).2]
  exact hK
theorem mm_put {ops : Array Oper} {rest : List Oper} {o : Oper} {a : Act} {Q : Exit → Act → World → Prop} {w : World} {B n : Nat} {f : List UInt8 → Int} {g : List UInt8 → Bool} (h : MM w B n f g) (l : List UInt8) (hl : l.length ≤ 1152921504606846976) (hn : n ≤ 1000000)
    (hg : o.guard = none) (m x v : Operand) (hop : o.op = Op.mapUpdate 45 m x v) (hm : a.eval m = .map (some B)) (hx : a.eval x = .string (mkB l)) (c : Int) (hv : a.eval v = .int .i64 c) (hc : -9223372036854775808 ≤ c ∧ c ≤ 9223372036854775807)
    (hK : ∀ w', MM w' B (n + 1) (fun u => if u = l then c else f u) (fun u => decide (u = l) || g u) → w.grownBy w' (some B) → wpList Tryd.prog ops Q rest (a.put o.dst undef) w') : wpList Tryd.prog ops Q (o :: rest) a w := by
  obtain ⟨D, h1, h2, h3⟩ := h
  refine wpList_mapUpdate_own w hg m x v 45 hop 9 3 keyed_str Tryd.underlying45 _ B n D hm h1 (by unfold maxLen; omega) _ _ _ hx hv (key_str hl) _ [] (plainElem_int Tryd.underlying3 (WalkArith.wf_i64 (by omega))) fun w' hown hgr => hK w' ⟨_, hown, h2.put _ _, fun t => ?_⟩ hgr
  show _ = DataW.lit (.int .i64 (if t = l then c else f t)) ∧ _ = (decide (t = l) || g t)
  by_cases ht : t = l
  · subst ht
    rw [if_pos rfl, atKey_put_same (k := .string t) h2 trivial, has_put_same (k := .string t) h2 trivial]
    simp
  · have hne : (Lit.string t) ≠ .string l := fun h => ht (by injection h)
    rw [if_neg ht, atKey_put_other hne, has_put_other hne, (h3 t).1, (h3 t).2]
    simp [ht]
end Go.Proofs.YtncjclmhdhimdaaDoor
