/- Plain lemmas on the model's memory that the later texts of this seat use: cells of a known block, rows that the call owns, and the reading of a nested expression. Nothing of the program is in it. -/
import Derived.WalkKit
import Derived.WalkSpells
import Derived.WalkLawsBesides
import Derived.Handy
import Derived.Lib.Hide
import Derived.Deep.RegionLaw
import Derived.Maps.AppendAt
namespace Go.Proofs.YteemenhinhkonaaDoor
open Go.RowKit

/- cells -/
theorem cell_at {w : World} {b o : Nat} {cs : Array Value} {t : TypeId} {f : Nat × Nat} (h : w.heap[b]? = some (.cells cs t f)) (v : Value) (hv : cs[o]? = some v) : w.cell? ⟨b, o, none⟩ = some v := by
  simp [World.cell?, h, hv]
theorem free_at {w : World} {b : Nat} {cs : Array Value} {t : TypeId} (h : w.heap[b]? = some (.cells cs t (0, 0))) (o : Nat) : w.frozen? ⟨b, o, none⟩ = false := by
  simp [World.frozen?, h]
theorem lt_of_cell {w : World} {b o : Nat} {v : Value} (h : w.cell? ⟨b, o, none⟩ = some v) : b < w.heap.size := by
  unfold World.cell? at h
  dsimp only at h
  cases hb : w.heap[b]? with
  | none => simp [hb] at h
  | some o => exact (Array.getElem?_eq_some_iff.1 hb).1
theorem lt_of_heap {w : World} {b : Nat} {o : Obj} (h : w.heap[b]? = some o) : b < w.heap.size := (Array.getElem?_eq_some_iff.1 h).1
theorem cell_old_alloc (w : World) (o : Obj) {p : Addr} (h : p.block < w.heap.size) : (w.alloc o).cell? p = w.cell? p := World.cell?_of_block (Below.heap_alloc w o p.block h)
theorem frozen_old_alloc (w : World) (o : Obj) {p : Addr} (h : p.block < w.heap.size) : (w.alloc o).frozen? p = w.frozen? p := World.frozen?_of_block (Below.heap_alloc w o p.block h)
theorem heap_new (w : World) (o : Obj) {b : Nat} (h : b = w.heap.size) : (w.alloc o).heap[b]? = some o := by subst h; exact heap_alloc_new w o
theorem heap_set (w : World) {b o : Nat} {cs : Array Value} {t : TypeId} {f : Nat × Nat} (h : w.heap[b]? = some (.cells cs t f)) (v : Value) : (w.setCell ⟨b, o, none⟩ v).heap[b]? = some (.cells (cs.setIfInBounds o v) t f) := by
  simp [World.setCell, Array.getElem?_modify, h]

/- worlds that only grew -/
theorem grown_of_below {w w' : World} (h : Below w.heap.size w w') (row : Option Nat) : w.grownBy w' row := ⟨h.os, h.tape, h.output, h.size, fun i hi _ => h.block i hi⟩
theorem ownsRow_below {w w' : World} {base : Nat} {e : TypeId} {size : Nat} {v : Value} {n : Nat} {xs : List Value} (h : w.ownsRow base e size v n xs) (hb : Below w.heap.size w w') : w'.ownsRow base e size v n xs :=
  h.kept (grown_of_below hb none) (by cases hv : v.ownBlock <;> simp)
theorem ownsRow_slice {w : World} {base : Nat} {e : TypeId} {size : Nat} {v : Value} {n : Nat} {xs : List Value} (h : w.ownsRow base e size v n xs) : ∃ p cap, v = .slice p n cap := by
  rcases h.2 with ⟨hv, rfl⟩ | ⟨g, cap, cur, hv, _⟩
  · exact ⟨none, 0, hv⟩
  · exact ⟨_, cap, hv⟩
theorem ownsRow_at {w : World} {base : Nat} {e : TypeId} {size : Nat} {p : Option Addr} {n cap : Nat} {xs : List Value} (h : w.ownsRow base e size (.slice p n cap) n xs) (hn : 0 < n) : ∃ g, p = some ⟨g, 0, none⟩ ∧ base ≤ g ∧ g < w.heap.size ∧ ∀ j u, xs[j]? = some u → w.cell? ⟨g, j, none⟩ = some u := by
  rcases h.2 with ⟨hv, hn0⟩ | ⟨g, cap', cur, hv, hb, hg, _⟩
  · omega
  · have hp : p = some ⟨g, 0, none⟩ := by injection hv
    subst hp
    refine ⟨g, rfl, hb, lt_of_heap hg, fun j u hu => ?_⟩
    have := h.cells (g := g) rfl j u hu
    rwa [show (⟨g, 0, none⟩ : Addr).add j = ⟨g, j, none⟩ from by unfold Addr.add; split <;> simp_all] at this
theorem grown_block {w w' w0 : World} {base : Nat} {e : TypeId} {size : Nat} {v : Value} {n : Nat} {xs : List Value} (hg : w.grownBy w' v.ownBlock) (ho : w0.ownsRow base e size v n xs) {b : Nat} (hb : b < base) (hs : b < w.heap.size) : w'.heap[b]? = w.heap[b]? :=
  hg.block b hs fun he => by have := (ho.lt b he.symm).1; omega
theorem grown_cell {w w' w0 : World} {base : Nat} {e : TypeId} {size : Nat} {v : Value} {n : Nat} {xs : List Value} (hg : w.grownBy w' v.ownBlock) (ho : w0.ownsRow base e size v n xs) {p : Addr} (hb : p.block < base) (hs : p.block < w.heap.size) : w'.cell? p = w.cell? p :=
  World.cell?_of_block (grown_block hg ho hb hs)
theorem grown_frozen {w w' w0 : World} {base : Nat} {e : TypeId} {size : Nat} {v : Value} {n : Nat} {xs : List Value} (hg : w.grownBy w' v.ownBlock) (ho : w0.ownsRow base e size v n xs) {p : Addr} (hb : p.block < base) (hs : p.block < w.heap.size) : w'.frozen? p = w.frozen? p :=
  World.frozen?_of_block (grown_block hg ho hb hs)
theorem cells_new3 (w : World) (t : TypeId) (x y z : Value) : ∀ j u, [x, y, z][j]? = some u → (w.alloc (.cells #[x, y, z] t)).cell? ((⟨w.heap.size, 0, none⟩ : Addr).add j) = some u := by
  intro j u h
  match j with
  | 0 => simpa [Addr.add, go_sem] using h
  | 1 => simpa [Addr.add, go_sem] using h
  | 2 => simpa [Addr.add, go_sem] using h
  | j + 3 => simp at h

/- append as one step of a region that draws its order; the row that comes out lies where it lay or in a new block -/
theorem step_append_own_at {P : Program} {w : World} {ops : Array Oper} {o : Oper} {a : Act} {K : Act → World → Prop} {Q : Exit → Act → World → Prop} {E : Prop} (hg : o.guard = none) (s x : Operand) (t : TypeId)
    (ho : o.op = .call { callee := .builtin .append, args := #[s, x], argTypes := #[t, t] })
    (base : Nat) (e : TypeId) (i : TypeInfo) (z : Value) (size bytes : Nat) (ht : P.underlying t = some (.slice e)) (hi : P.info? e = some i) (hz : i.zero = some z)
    (hsize : i.size = size) (hby : i.bytes = bytes) (hzs : z.cells.size = size) (hsz : 0 < size)
    (v : Value) (n : Nat) (xs : List Value) (hs : a.eval s = v) (hown : w.ownsRow base e size v n xs)
    (ad : Addr) (m c : Nat) (news : List Value) (hx : a.eval x = .slice (some ad) m c) (hl : news.length = m * size) (hnews : ∀ j u, news[j]? = some u → w.cell? (ad.add j) = some u) (h1 : ∀ u ∈ news, u.oneCell' = true)
    (h63 : n + m ≤ maxLen) (hbytes : (n + m) * bytes ≤ 140737488355328) (hbase : base ≤ w.heap.size)
    (h : ∀ v' w', w'.ownsRow base e size v' (n + m) (xs ++ news) → w.grownBy w' v.ownBlock → (v'.ownBlock = v.ownBlock ∨ v'.ownBlock = some w.heap.size) → K (a.put o.dst v') w') :
    if Region.wanted o (yielded ops a.tmps) = true then Oper.wp P o a w K Q else E := by
  have hw : Region.wanted o (yielded ops a.tmps) = true := by simp [Region.wanted, hg]
  rw [if_pos hw]
  obtain ⟨v', w', hr, h2, h3, _, h5⟩ := run_append_own_at (P := P) w base t o.type e i z size bytes ht hi hz hsize hby hzs hsz v n xs hown ad m c news hl hnews h1 h63 hbytes hbase
  unfold Oper.wp execOp
  simp only [ho, resolve, invoke, builtin, Sem.run_bind, Sem.run_pure, Result.andThen_ok, List.map_toArray, List.map_cons, List.map_nil, hs, hx, hr]
  exact h v' w' h2 h3 h5

/- expressions as the two packages lay them: a kind, a tag, and the slice of the parts, three cells each -/
inductive E where
  | mk (kind : Int) (tag : ByteArray) (subs : List E)
def E.kind : E → Int | .mk k _ _ => k
def E.tag : E → ByteArray | .mk _ t _ => t
def E.subs : E → List E | .mk _ _ s => s

/- 'EIs S w n e c0 c1 c2': the three cells read in w as e, at most n deep; every block that is read lies in S -/
def EIs (S : Nat → Prop) (w : World) : Nat → E → Value → Value → Value → Prop
  | 0, _, _, _, _ => False
  | n + 1, e, c0, c1, c2 => c0 = .int .i64 e.kind ∧ -9223372036854775808 ≤ e.kind ∧ e.kind ≤ 9223372036854775807 ∧ c1 = .string e.tag ∧ e.tag.size ≤ 1152921504606846976 ∧
      ∃ a cap, c2 = .slice a e.subs.length cap ∧ e.subs.length * 48 ≤ 140737488355328 ∧
        ∀ i x, e.subs[i]? = some x → ∃ b off x0 x1 x2, a = some ⟨b, off, none⟩ ∧ S b ∧ w.cell? ⟨b, off + i * 3, none⟩ = some x0 ∧ w.cell? ⟨b, off + i * 3 + 1, none⟩ = some x1 ∧ w.cell? ⟨b, off + i * 3 + 2, none⟩ = some x2 ∧ EIs S w n x x0 x1 x2

theorem EIs.form {S : Nat → Prop} {w : World} {n : Nat} {e : E} {c0 c1 c2 : Value} (h : EIs S w n e c0 c1 c2) : ∃ a cap, c0 = .int .i64 e.kind ∧ c1 = .string e.tag ∧ c2 = .slice a e.subs.length cap := by
  cases n with
  | zero => exact h.elim
  | succ n =>
    obtain ⟨h0, _, _, h1, _, a, cap, h2, _⟩ := h
    exact ⟨a, cap, h0, h1, h2⟩
theorem EIs.frame {S : Nat → Prop} {w w' : World} {n : Nat} : ∀ {e : E} {c0 c1 c2 : Value}, EIs S w n e c0 c1 c2 → (∀ b, S b → b < w.heap.size → w'.heap[b]? = w.heap[b]?) → EIs S w' n e c0 c1 c2 := by
  induction n with
  | zero => intro e c0 c1 c2 h _; exact h.elim
  | succ n ih =>
    intro e c0 c1 c2 h hf
    obtain ⟨h0, k0, k1, h1, ht, a, cap, h2, hl, hs⟩ := h
    refine ⟨h0, k0, k1, h1, ht, a, cap, h2, hl, fun i x hx => ?_⟩
    obtain ⟨b, off, x0, x1, x2, ha, hS, g0, g1, g2, hx'⟩ := hs i x hx
    have hb := hf b hS (lt_of_cell g0)
    exact ⟨b, off, x0, x1, x2, ha, hS, (World.cell?_of_block (a := ⟨b, _, none⟩) hb).trans g0, (World.cell?_of_block (a := ⟨b, _, none⟩) hb).trans g1, (World.cell?_of_block (a := ⟨b, _, none⟩) hb).trans g2, ih hx' hf⟩
theorem EIs.widen {S S' : Nat → Prop} {w : World} {n : Nat} : ∀ {e : E} {c0 c1 c2 : Value}, EIs S w n e c0 c1 c2 → (∀ b, S b → b < w.heap.size → S' b) → EIs S' w n e c0 c1 c2 := by
  induction n with
  | zero => intro e c0 c1 c2 h _; exact h.elim
  | succ n ih =>
    intro e c0 c1 c2 h hf
    obtain ⟨h0, k0, k1, h1, ht, a, cap, h2, hl, hs⟩ := h
    refine ⟨h0, k0, k1, h1, ht, a, cap, h2, hl, fun i x hx => ?_⟩
    obtain ⟨b, off, x0, x1, x2, ha, hS, g0, g1, g2, hx'⟩ := hs i x hx
    exact ⟨b, off, x0, x1, x2, ha, hf b hS (lt_of_cell g0), g0, g1, g2, ih hx' hf⟩
theorem EIs.move {S S' : Nat → Prop} {w w' : World} {n : Nat} {e : E} {c0 c1 c2 : Value} (h : EIs S w n e c0 c1 c2) (hm : ∀ b, S b → b < w.heap.size → S' b ∧ w'.heap[b]? = w.heap[b]?) : EIs S' w' n e c0 c1 c2 := by
  have h1 : EIs (fun b => S b ∧ b < w.heap.size) w n e c0 c1 c2 := h.widen fun b hb hl => ⟨hb, hl⟩
  exact (h1.frame (w' := w') fun b hb _ => (hm b hb.1 hb.2).2).widen fun b hb _ => (hm b hb.1 hb.2).1
theorem EIs.below {S : Nat → Prop} {w w' : World} {n : Nat} {e : E} {c0 c1 c2 : Value} (h : EIs S w n e c0 c1 c2) (hb : Below w.heap.size w w') : EIs S w' n e c0 c1 c2 := h.frame fun b _ hlt => hb.block b hlt

/- the row of elements that a loop has collected -/
def ElemsOk (S : Nat → Prop) (w : World) (n : Nat) (ss : List E) (k : Nat) (xs : List Value) : Prop :=
  ∀ j x, j < k → ss[j]? = some x → ∃ x0 x1 x2, xs[j * 3]? = some x0 ∧ xs[j * 3 + 1]? = some x1 ∧ xs[j * 3 + 2]? = some x2 ∧ EIs S w n x x0 x1 x2

/- small maps with integer keys, by their entries -/
theorem run_checkKey_int {P : Program} (w : World) {k : TypeId} {q : IntKind} (hk : P.underlying k = some (.int q)) (em : Bool) (n : Nat) (v : Value) : (Instr.checkKey em (n + 1) k v).run P w = .ok () w := by
  simp [Instr.checkKey, run_underlying hk]
theorem run_findKey_now {P : Program} (w : World) {k : TypeId} {q : IntKind} (hk : P.underlying k = some (.int q)) (v : Value) (es : List MapEntry) (r : Option (Nat × Value)) (hf : Instr.findNow (.int q) v es 0 = some r) : (Instr.findKey k v es).run P w = .ok r w := by
  simp [Instr.findKey, run_underlying hk, hf]
theorem push_set {α : Type} (a : Array α) (x y : α) : (a.push x).setIfInBounds a.size y = a.push y := by
  obtain ⟨l⟩ := a
  simp
theorem setObj_alloc (V : World) (o o' : Obj) : ({ V.alloc o with heap := (V.alloc o).heap.setIfInBounds V.heap.size o' } : World) = V.alloc o' := by
  show ({ V with heap := (V.heap.push o).setIfInBounds V.heap.size o' } : World) = { V with heap := V.heap.push o' }
  rw [push_set]
theorem run_mapUpdate_new {P : Program} {w : World} {t k e : TypeId} {q : IntKind} (ht : P.underlying t = some (.map k e)) (hk : P.underlying k = some (.int q)) {es : Array MapEntry} {c r : Nat} (hb : w.heap[r]? = some (.map es c)) (key val : Value)
    (hf : Instr.findNow (.int q) key es.toList 0 = some none) :
    (Instr.mapUpdate t (.map (some r)) key val).run P w = .ok () { w with heap := w.heap.setIfInBounds r (.map (es.push ⟨key, val, c⟩) (c + 1)) } := by
  simp [Instr.mapUpdate, run_underlying ht, getObj, setObj, Sem.run, hb, run_checkKey_int _ hk, run_findKey_now _ hk _ _ _ hf]
theorem run_mapUpdate_last {P : Program} (V : World) {t k e : TypeId} {q : IntKind} (ht : P.underlying t = some (.map k e)) (hk : P.underlying k = some (.int q)) (es : Array MapEntry) (c : Nat) (key val : Value)
    (hf : Instr.findNow (.int q) key es.toList 0 = some none) {r : Nat} (hr : r = V.heap.size) :
    (Instr.mapUpdate t (.map (some r)) key val).run P (V.alloc (.map es c)) = .ok () (V.alloc (.map (es.push ⟨key, val, c⟩) (c + 1))) := by
  subst hr
  rw [run_mapUpdate_new ht hk (heap_alloc_new V _) key val hf, setObj_alloc]
theorem run_lookup_int {P : Program} {w : World} {t k e : TypeId} {q : IntKind} (ht : P.underlying t = some (.map k e)) (hk : P.underlying k = some (.int q)) {r c : Nat} {es : Array MapEntry} (hb : w.heap[r]? = some (.map es c)) (key z : Value)
    (hz : (zeroValue e).run P w = .ok z w) (x : Option (Nat × Value)) (hf : Instr.findNow (.int q) key es.toList 0 = some x) :
    (Instr.lookup t (.map (some r)) key true).run P w = .ok (.tuple #[(x.map (·.2)).getD z, .bool x.isSome]) w := by
  simp [Instr.lookup, run_underlying ht, getObj, Sem.run, hb, run_checkKey_int _ hk, run_findKey_now _ hk _ _ _ hf]
  cases x with
  | none => simp [hz]
  | some x => simp

/- endings, lists -/
theorem ret_bool {a b : Bool} (h : a = b) : Ending.returned (.bool a) = .returned (.bool b) := by rw [h]
theorem ret_str {a b : ByteArray} (h : a = b) : Ending.returned (.string a) = .returned (.string b) := by rw [h]
theorem ret_i64 {a b : Int} (h : a = b) : Ending.returned (.int .i64 a) = .returned (.int .i64 b) := by rw [h]
theorem all_false_of {α : Type} {l : List α} {p : α → Bool} {k : Nat} {x : α} (h : l[k]? = some x) (hp : p x = false) : l.all p = false := by
  rw [List.all_eq_false]
  exact ⟨x, List.mem_of_getElem? h, by simp [hp]⟩
theorem all_take_snoc {α : Type} {l : List α} {p : α → Bool} {k : Nat} {x : α} (h : l[k]? = some x) (ha : (l.take k).all p = true) (hp : p x = true) : (l.take (k + 1)).all p = true := by
  rw [List.take_add_one, List.all_append, ha, h]
  simp [hp]
theorem all_take_all {α : Type} {l : List α} {p : α → Bool} {k : Nat} (ha : (l.take k).all p = true) (hk : l.length ≤ k) : l.all p = true := by
  rwa [List.take_of_length_le hk] at ha
theorem any_true_of {α : Type} {l : List α} {p : α → Bool} {k : Nat} {x : α} (h : l[k]? = some x) (hp : p x = true) : l.any p = true := by
  rw [List.any_eq_true]
  exact ⟨x, List.mem_of_getElem? h, hp⟩
theorem any_take_snoc {α : Type} {l : List α} {p : α → Bool} {k : Nat} {x : α} (h : l[k]? = some x) (ha : (l.take k).any p = false) (hp : p x = false) : (l.take (k + 1)).any p = false := by
  rw [List.take_add_one, List.any_append, ha, h]
  simp [hp]
theorem any_take_all {α : Type} {l : List α} {p : α → Bool} {k : Nat} (ha : (l.take k).any p = false) (hk : l.length ≤ k) : l.any p = false := by
  rwa [List.take_of_length_le hk] at ha

/- a slice value that reads as a list of strings -/
def SS (w : World) (v : Value) (ss : List ByteArray) : Prop :=
  ∃ a cap, v = .slice a ss.length cap ∧ ss.length ≤ 140737488355328 ∧ ∀ i s, ss[i]? = some s → ∃ b off, a = some ⟨b, off, none⟩ ∧ w.cell? ⟨b, off + i, none⟩ = some (.string s)
theorem SS.below {w w' : World} {v : Value} {ss : List ByteArray} (h : SS w v ss) (hb : Below w.heap.size w w') : SS w' v ss := by
  obtain ⟨a, cap, hv, hl, hc⟩ := h
  refine ⟨a, cap, hv, hl, fun i s hs => ?_⟩
  obtain ⟨b, off, ha, hcell⟩ := hc i s hs
  exact ⟨b, off, ha, (hb.cell (p := ⟨b, off + i, none⟩) (lt_of_cell hcell)).trans hcell⟩
theorem SS.of_row {w : World} {base : Nat} {e : TypeId} {v : Value} {n : Nat} {ss : List ByteArray} (h : w.ownsRow base e 1 v n (ss.map Value.string)) (hl : ss.length ≤ 140737488355328) : SS w v ss := by
  have hn : ss.length = n := by have := h.1; simpa using this
  obtain ⟨p, cap, rfl⟩ := ownsRow_slice h
  subst hn
  refine ⟨p, cap, rfl, hl, fun i s hs => ?_⟩
  have hi : i < ss.length := (List.getElem?_eq_some_iff.1 hs).1
  obtain ⟨g, rfl, _, _, hc⟩ := ownsRow_at h (by omega)
  exact ⟨g, 0, rfl, by rw [Nat.zero_add]; exact hc i _ (by simp [hs])⟩
def hasB (ss : List ByteArray) (s : ByteArray) : Bool := ss.any (fun x => x.toList == s.toList)
theorem toList_inj {a b : ByteArray} (e : a.toList = b.toList) : a = b := by
  rw [ByteArray.toList_eq, ByteArray.toList_eq] at e
  obtain ⟨⟨la⟩⟩ := a
  obtain ⟨⟨lb⟩⟩ := b
  simp at e
  rw [e]
theorem toList_beq (a b : ByteArray) : (a.toList == b.toList) = decide (a = b) := by
  by_cases h : a = b
  · simp [h]
  · have : a.toList ≠ b.toList := fun e => h (toList_inj e)
    simp [h, this]
end Go.Proofs.YteemenhinhkonaaDoor
