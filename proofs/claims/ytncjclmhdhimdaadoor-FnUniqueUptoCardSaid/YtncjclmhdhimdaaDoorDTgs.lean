/- The package's tgs: the matches of two lists of lines. -/
import Derived.Test.YtncjclmhdhimdaaDoorProg
import Derived.Test.YtncjclmhdhimdaaDoorApp
import Derived.Test.YtncjclmhdhimdaaDoorDSplit
import Derived.Test.YtncjclmhdhimdaaDoorDMap
import Derived.Test.YtncjclmhdhimdaaDoorDUniq
import Derived.Test.YtncjclmhdhimdaaDoorDTgsClo
import Derived.RegionTactic
import Derived.ChangeAlike
import Derived.BigRegion
namespace Go.Proofs.YtncjclmhdhimdaaDoor
open Go.RowKit Go.Maps

/- a slice that reads as a list of lines -/
def LS (w : World) (v : Value) (X : List (List UInt8)) : Prop := ∃ a cap, v = .slice a X.length cap ∧ ∀ i t, X[i]? = some t → ∃ b off, a = some ⟨b, off, none⟩ ∧ w.cell? ⟨b, off + i, none⟩ = some (.string (mkB t))
theorem LS.of {w : World} {v : Value} {X : List (List UInt8)} (h : SS w v (X.map mkB)) : LS w v X := by
  obtain ⟨a, cap, hv, _, hc⟩ := h
  rw [List.length_map] at hv
  exact ⟨a, cap, hv, fun i t ht => hc i (mkB t) (by simp [ht])⟩
theorem LS.below {w w' : World} {v : Value} {X : List (List UInt8)} (h : LS w v X) (hb : Below w.heap.size w w') : LS w' v X := by
  obtain ⟨a, cap, hv, hc⟩ := h
  refine ⟨a, cap, hv, fun i s hs => ?_⟩
  obtain ⟨b, off, ha, hcell⟩ := hc i s hs
  exact ⟨b, off, ha, (hb.cell (p := ⟨b, off + i, none⟩) (lt_of_cell hcell)).trans hcell⟩
theorem LS.cell {w : World} {a : Option Addr} {n cap : Nat} {X : List (List UInt8)} (h : LS w (.slice a n cap) X) {i : Nat} {t : List UInt8} (ht : X[i]? = some t) : ∃ b off, a = some ⟨b, off, none⟩ ∧ w.cell? ⟨b, off + i, none⟩ = some (.string (mkB t)) := by
  obtain ⟨a', cap', hv, hc⟩ := h
  injection hv with hv
  subst hv
  exact hc i t ht
def small (X : List (List UInt8)) : Prop := X.length ≤ 10000 ∧ ∀ t ∈ X, t.length ≤ 1099511627776

def L1 (X : List (List UInt8)) (w : World) (i : Value) (wr : World) : Prop := ∃ k : Nat, k ≤ X.length ∧ i = .int .i64 k ∧ MM wr w.heap.size k (fx (X.take k)) (fun t => decide (t ∈ X.take k)) ∧ Below w.heap.size w wr
def L2 (X Y : List (List UInt8)) (w : World) (i : Value) (wr : World) : Prop := ∃ k : Nat, k ≤ Y.length ∧ i = .int .i64 k ∧ MM wr w.heap.size (X.length + k) (fxy X (Y.take k)) (fun t => decide (t ∈ X ∨ t ∈ Y.take k)) ∧ Below w.heap.size w wr
theorem L1_put {X : List (List UInt8)} {w wr w1 : World} {k : Nat} {s : List UInt8} (hs : X[k]? = some s) (hc : cnt (X.take k) s < 2) (hb : Below w.heap.size w wr)
    (h : MM w1 w.heap.size (k + 1) (fun u => if u = s then fx (X.take k) s - 1 else fx (X.take k) u) (fun u => decide (u = s) || decide (u ∈ X.take k))) (hg : wr.grownBy w1 (some w.heap.size)) : L1 X w (.int .i64 ((k : Int) + 1)) w1 := by
  have ht : X.take (k + 1) = X.take k ++ [s] := by rw [List.take_add_one, hs]; rfl
  refine ⟨k + 1, (List.getElem?_eq_some_iff.1 hs).1, by simp, ?_, hb.grown hg hb.size (fun q hq => by injection hq with hq; omega)⟩
  rw [ht]
  refine h.congr (fun u => fx_put hc u) fun u => ?_
  by_cases h1 : u = s <;> by_cases h2 : u ∈ X.take k <;> simp [h1, h2]
theorem L1_skip {X : List (List UInt8)} {w wr : World} {k : Nat} {s : List UInt8} (hs : X[k]? = some s) (hc : ¬ cnt (X.take k) s < 2) (hb : Below w.heap.size w wr)
    (h : MM wr w.heap.size k (fx (X.take k)) (fun t => decide (t ∈ X.take k))) : L1 X w (.int .i64 ((k : Int) + 1)) wr := by
  have ht : X.take (k + 1) = X.take k ++ [s] := by rw [List.take_add_one, hs]; rfl
  have hm : s ∈ X.take k := cnt_mem (by omega)
  refine ⟨k + 1, (List.getElem?_eq_some_iff.1 hs).1, by simp, ?_, hb⟩
  rw [ht]
  refine (h.mono (Nat.le_succ k)).congr (fun u => fx_skip hc u) fun u => ?_
  by_cases h1 : u = s
  · subst h1; simp [hm]
  · simp [h1]
theorem L2_put {X Y : List (List UInt8)} {w wr w1 : World} {k : Nat} {s : List UInt8} (hs : Y[k]? = some s) (hc : cnt (Y.take k) s < 2) (hb : Below w.heap.size w wr)
    (h : MM w1 w.heap.size (X.length + k + 1) (fun u => if u = s then fxy X (Y.take k) s - 4 else fxy X (Y.take k) u) (fun u => decide (u = s) || decide (u ∈ X ∨ u ∈ Y.take k))) (hg : wr.grownBy w1 (some w.heap.size)) : L2 X Y w (.int .i64 ((k : Int) + 1)) w1 := by
  have ht : Y.take (k + 1) = Y.take k ++ [s] := by rw [List.take_add_one, hs]; rfl
  refine ⟨k + 1, (List.getElem?_eq_some_iff.1 hs).1, by simp, ?_, hb.grown hg hb.size (fun q hq => by injection hq with hq; omega)⟩
  rw [ht]
  refine h.congr (fun u => fxy_put hc u) fun u => ?_
  by_cases h1 : u = s <;> by_cases h2 : u ∈ Y.take k <;> by_cases h3 : u ∈ X <;> simp [h1, h2, h3]
theorem L2_skip {X Y : List (List UInt8)} {w wr : World} {k : Nat} {s : List UInt8} (hs : Y[k]? = some s) (hc : ¬ cnt (Y.take k) s < 2) (hb : Below w.heap.size w wr)
    (h : MM wr w.heap.size (X.length + k) (fxy X (Y.take k)) (fun t => decide (t ∈ X ∨ t ∈ Y.take k))) : L2 X Y w (.int .i64 ((k : Int) + 1)) wr := by
  have ht : Y.take (k + 1) = Y.take k ++ [s] := by rw [List.take_add_one, hs]; rfl
  have hm : s ∈ Y.take k := cnt_mem (by omega)
  refine ⟨k + 1, (List.getElem?_eq_some_iff.1 hs).1, by simp, ?_, hb⟩
  rw [ht]
  refine (h.mono (Nat.le_succ _)).congr (fun u => fxy_skip hc u) fun u => ?_
  by_cases h1 : u = s
  · subst h1; simp [hm]
  · simp [h1]

/- rows of numbers -/
theorem info_num : (Tryd.prog.info? 3).map (fun i => (i.zero, i.size, i.bytes)) = some (some (.int .i64 0), 1, 8) := by kernel_rfl
def nums (l : List Nat) : List Value := l.map fun (j : Nat) => .int .i64 j
theorem nums_snoc (l : List Nat) (j : Nat) : nums (l ++ [j]) = nums l ++ [.int .i64 j] := by simp [nums]
theorem nums_len (l : List Nat) : (nums l).length = l.length := by simp [nums]
def rowI (wr : World) (B : Nat) (v : Value) (l : List Nat) : Prop := wr.ownsRow B 3 1 v l.length (nums l)
theorem rowI.snoc {w3 : World} {B : Nat} {v' : Value} {l : List Nat} {j : Nat} (h : w3.ownsRow B 3 1 v' (l.length + 1) (nums l ++ [.int .i64 j])) : rowI w3 B v' (l ++ [j]) := by
  unfold rowI
  rw [nums_snoc, List.length_append]
  exact h
def Apt (v u : Value) : Prop := ∀ b, v.ownBlock = some b → u.ownBlock ≠ some b
theorem Apt.symm {v u : Value} (h : Apt v u) : Apt u v := fun b hb hv => h b hv hb
/- what an append to one row does to another one -/
theorem app_keep {w w' : World} {v v' u : Value} {base : Nat} {e : TypeId} {size n : Nat} {xs : List Value} (h : (v'.ownBlock = v.ownBlock ∧ w.grownBy w' v.ownBlock) ∨ (v'.ownBlock = some w.heap.size ∧ Below w.heap.size w w')) (hu : w.ownsRow base e size u n xs) (ha : Apt v u) : w'.ownsRow base e size u n xs ∧ Apt v' u := by
  rcases h with ⟨h1, h2⟩ | ⟨h1, h2⟩
  · refine ⟨hu.kept h2 ?_, fun b hb => ha b (h1 ▸ hb)⟩
    cases hv : v.ownBlock with
    | none => cases hub : u.ownBlock with
      | none => exact .inl rfl
      | some c => right; simp
    | some b => right; exact ha b hv
  · refine ⟨ownsRow_below hu h2, fun b hb hub => ?_⟩
    rw [h1] at hb
    injection hb with hb
    have := (hu.lt b hub).2
    omega
theorem app_block {w w' : World} {v v' : Value} {base : Nat} {e : TypeId} {size n : Nat} {xs : List Value} {w0 : World} (h : (v'.ownBlock = v.ownBlock ∧ w.grownBy w' v.ownBlock) ∨ (v'.ownBlock = some w.heap.size ∧ Below w.heap.size w w')) (hv : w0.ownsRow base e size v n xs) {b : Nat} (hb : b < base) (hlt : b < w.heap.size) : w'.heap[b]? = w.heap[b]? := by
  rcases h with ⟨_, h2⟩ | ⟨_, h2⟩
  · exact h2.block b hlt fun he => by have := (hv.lt b he.symm).1; omega
  · exact h2.block b hlt
theorem app_below {w0 w w' : World} {v v' : Value} {base B : Nat} {e : TypeId} {size n : Nat} {xs : List Value} {wv : World} (hB : Below B w0 w) (h : (v'.ownBlock = v.ownBlock ∧ w.grownBy w' v.ownBlock) ∨ (v'.ownBlock = some w.heap.size ∧ Below w.heap.size w w')) (hv : wv.ownsRow base e size v n xs) (hb : B ≤ base) (hs : B ≤ w.heap.size) : Below B w0 w' := by
  rcases h with ⟨_, h2⟩ | ⟨_, h2⟩
  · exact hB.grown h2 hs (fun q hq => by have := (hv.lt q hq).1; omega)
  · exact hB.trans (h2.mono hs)
theorem app_size {w w' : World} {v v' : Value} (h : (v'.ownBlock = v.ownBlock ∧ w.grownBy w' v.ownBlock) ∨ (v'.ownBlock = some w.heap.size ∧ Below w.heap.size w w')) : w.heap.size ≤ w'.heap.size := by
  rcases h with ⟨_, h2⟩ | ⟨_, h2⟩
  · exact h2.size
  · exact h2.size

def L3 (X Y : List (List UInt8)) (w : World) (v i : Value) (wr : World) : Prop := ∃ k : Nat, k ≤ Y.length ∧ i = .int .i64 k ∧ MM wr w.heap.size (X.length + Y.length + k) (fm X Y k) (fun t => decide (t ∈ X ∨ t ∈ Y)) ∧ rowI wr (w.heap.size + 1) v (ix (uq X Y) Y k) ∧ Below w.heap.size w wr
theorem L3_put {X Y : List (List UInt8)} {w wr w1 w3 : World} {k : Nat} {s : List UInt8} {v v' : Value} {o : Obj} (hs : Y[k]? = some s) (hu : uq X Y s = true) (hb : Below w.heap.size w wr) (hv : rowI wr (w.heap.size + 1) v (ix (uq X Y) Y k))
    (h : MM w1 w.heap.size (X.length + Y.length + k + 1) (fun u => if u = s then ((ix (uq X Y) Y k).length : Int) else fm X Y k u) (fun u => decide (u = s) || decide (u ∈ X ∨ u ∈ Y))) (hg : wr.grownBy w1 (some w.heap.size))
    (ho : w3.ownsRow (w.heap.size + 1) 3 1 v' ((ix (uq X Y) Y k).length + 1) (nums (ix (uq X Y) Y k) ++ [.int .i64 k])) (ha : (v'.ownBlock = v.ownBlock ∧ (w1.alloc o).grownBy w3 v.ownBlock) ∨ (v'.ownBlock = some (w1.alloc o).heap.size ∧ Below (w1.alloc o).heap.size (w1.alloc o) w3)) : L3 X Y w v' (.int .i64 ((k : Int) + 1)) w3 := by
  have hm := h.lt
  have hlt : w.heap.size < (w1.alloc o).heap.size := by simp; omega
  have hb1 : Below w.heap.size w w1 := hb.grown hg hb.size (fun q hq => by injection hq with hq; omega)
  refine ⟨k + 1, (List.getElem?_eq_some_iff.1 hs).1, by simp, ?_, ?_, app_below (hb1.alloc hb1.size _) ha hv (by omega) (by omega)⟩
  · refine MM.block (w := w1) ?_ ((app_block ha hv (Nat.lt_succ_self _) hlt).trans (Below.heap_alloc w1 o w.heap.size hm))
    refine h.congr (fun u => fm_put hs hu u) fun u => ?_
    by_cases h1 : u = s
    · subst h1; simp [List.mem_of_getElem? hs]
    · simp [h1]
  · rw [ix_succ hs, if_pos hu]
    exact rowI.snoc ho
theorem L3_skip {X Y : List (List UInt8)} {w wr : World} {k : Nat} {s : List UInt8} {v : Value} (hs : Y[k]? = some s) (hu : ¬ uq X Y s = true) (hb : Below w.heap.size w wr) (hv : rowI wr (w.heap.size + 1) v (ix (uq X Y) Y k))
    (h : MM wr w.heap.size (X.length + Y.length + k) (fm X Y k) (fun t => decide (t ∈ X ∨ t ∈ Y))) : L3 X Y w v (.int .i64 ((k : Int) + 1)) wr := by
  refine ⟨k + 1, (List.getElem?_eq_some_iff.1 hs).1, by simp, (h.mono (Nat.le_succ _)).congr (fun u => fm_skip hs hu u) (fun _ => rfl), ?_, hb⟩
  rw [ix_succ hs, if_neg hu]
  exact hv

def L4 (X Y : List (List UInt8)) (w : World) (vy v u i : Value) (wr : World) : Prop := ∃ k : Nat, k ≤ X.length ∧ i = .int .i64 k ∧ MM wr w.heap.size (X.length + Y.length + Y.length) (fm X Y Y.length) (fun t => decide (t ∈ X ∨ t ∈ Y)) ∧
  rowI wr (w.heap.size + 1) v (ix (uq X Y) X k) ∧ rowI wr (w.heap.size + 1) u (inv X Y k) ∧ rowI wr (w.heap.size + 1) vy (ix (uq X Y) Y Y.length) ∧ Apt v u ∧ Apt v vy ∧ Apt u vy ∧ Below w.heap.size w wr
theorem L4_put {X Y : List (List UInt8)} {w wr w1 w2 : World} {k : Nat} {s : List UInt8} {vy v u v' u' : Value} {o o' : Obj} (hs : X[k]? = some s) (hu : uq X Y s = true) (hb : Below w.heap.size w wr) (hm : MM wr w.heap.size (X.length + Y.length + Y.length) (fm X Y Y.length) (fun t => decide (t ∈ X ∨ t ∈ Y)))
    (hv : rowI wr (w.heap.size + 1) v (ix (uq X Y) X k)) (hu' : rowI wr (w.heap.size + 1) u (inv X Y k)) (hy : rowI wr (w.heap.size + 1) vy (ix (uq X Y) Y Y.length)) (a1 : Apt v u) (a2 : Apt v vy) (a3 : Apt u vy)
    (ho : w1.ownsRow (w.heap.size + 1) 3 1 v' ((ix (uq X Y) X k).length + 1) (nums (ix (uq X Y) X k) ++ [.int .i64 k])) (ha : (v'.ownBlock = v.ownBlock ∧ (wr.alloc o).grownBy w1 v.ownBlock) ∨ (v'.ownBlock = some (wr.alloc o).heap.size ∧ Below (wr.alloc o).heap.size (wr.alloc o) w1))
    (ho2 : w2.ownsRow (w.heap.size + 1) 3 1 u' ((inv X Y k).length + 1) (nums (inv X Y k) ++ [.int .i64 (posn X Y s)])) (ha2 : (u'.ownBlock = u.ownBlock ∧ (w1.alloc o').grownBy w2 u.ownBlock) ∨ (u'.ownBlock = some (w1.alloc o').heap.size ∧ Below (w1.alloc o').heap.size (w1.alloc o') w2)) :
    L4 X Y w vy v' u' (.int .i64 ((k : Int) + 1)) w2 := by
  have hml := hm.lt
  obtain ⟨u1, b1⟩ := app_keep ha (hu'.alloc o) a1
  obtain ⟨y1, b2⟩ := app_keep ha (hy.alloc o) a2
  obtain ⟨v2, b3⟩ := app_keep ha2 (ho.alloc o') b1.symm
  obtain ⟨y2, b4⟩ := app_keep ha2 (y1.alloc o') a3
  have l1 : w.heap.size < (wr.alloc o).heap.size := by simp; omega
  have l2 : w.heap.size < w1.heap.size := Nat.lt_of_lt_of_le l1 (app_size ha)
  have l3 : w.heap.size < (w1.alloc o').heap.size := by simp; omega
  have B1 : Below w.heap.size w w1 := app_below (hb.alloc hb.size _) ha hv (by omega) (by omega)
  have B2 : Below w.heap.size w w2 := app_below (B1.alloc B1.size _) ha2 hu' (by omega) (by omega)
  refine ⟨k + 1, (List.getElem?_eq_some_iff.1 hs).1, by simp, ?_, ?_, ?_, y2, b3.symm, b2, b4, B2⟩
  · refine hm.block ?_
    rw [app_block ha2 hu' (Nat.lt_succ_self _) l3, Below.heap_alloc w1 o' _ l2, app_block ha hv (Nat.lt_succ_self _) l1, Below.heap_alloc wr o _ hml]
  · rw [ix_succ hs, if_pos hu]
    exact rowI.snoc v2
  · rw [inv_succ hs, if_pos hu]
    exact rowI.snoc ho2
theorem L4_skip {X Y : List (List UInt8)} {w wr : World} {k : Nat} {s : List UInt8} {vy v u : Value} (hs : X[k]? = some s) (hu : ¬ uq X Y s = true) (hb : Below w.heap.size w wr) (hm : MM wr w.heap.size (X.length + Y.length + Y.length) (fm X Y Y.length) (fun t => decide (t ∈ X ∨ t ∈ Y)))
    (hv : rowI wr (w.heap.size + 1) v (ix (uq X Y) X k)) (hu' : rowI wr (w.heap.size + 1) u (inv X Y k)) (hy : rowI wr (w.heap.size + 1) vy (ix (uq X Y) Y Y.length)) (a1 : Apt v u) (a2 : Apt v vy) (a3 : Apt u vy) : L4 X Y w vy v u (.int .i64 ((k : Int) + 1)) wr := by
  refine ⟨k + 1, (List.getElem?_eq_some_iff.1 hs).1, by simp, hm, ?_, ?_, hy, a1, a2, a3, hb⟩
  · rw [ix_succ hs, if_neg hu]
    exact hv
  · rw [inv_succ hs, if_neg hu]
    exact hu'

/- a slice that reads as a list of numbers -/
def IS (w : World) (v : Value) (l : List Nat) : Prop := ∃ a cap, v = .slice a l.length cap ∧ ∀ (i j : Nat), l[i]? = some j → ∃ b off, a = some ⟨b, off, none⟩ ∧ w.cell? ⟨b, off + i, none⟩ = some (.int .i64 j)
theorem IS.of {w : World} {B : Nat} {v : Value} {l : List Nat} (h : rowI w B v l) : IS w v l := by
  obtain ⟨p, cap, rfl⟩ := ownsRow_slice h
  refine ⟨p, cap, rfl, fun i j hj => ?_⟩
  have hi : i < l.length := (List.getElem?_eq_some_iff.1 hj).1
  obtain ⟨g, rfl, _, _, hc⟩ := ownsRow_at h (by omega)
  exact ⟨g, 0, rfl, by rw [Nat.zero_add]; exact hc i _ (by simp [nums, hj])⟩
theorem IS.below {w w' : World} {v : Value} {l : List Nat} (h : IS w v l) (hb : Below w.heap.size w w') : IS w' v l := by
  obtain ⟨a, cap, hv, hc⟩ := h
  refine ⟨a, cap, hv, fun i j hj => ?_⟩
  obtain ⟨b, off, ha, hcell⟩ := hc i j hj
  exact ⟨b, off, ha, (hb.cell (p := ⟨b, off + i, none⟩) (lt_of_cell hcell)).trans hcell⟩
theorem IS.cell {w : World} {a : Option Addr} {n cap : Nat} {l : List Nat} (h : IS w (.slice a n cap) l) {i j : Nat} (hj : l[i]? = some j) : ∃ b off, a = some ⟨b, off, none⟩ ∧ w.cell? ⟨b, off + i, none⟩ = some (.int .i64 j) := by
  obtain ⟨a', cap', hv, hc⟩ := h
  injection hv with hv
  subst hv
  exact hc i j hj
theorem nums_get {l : List Nat} {i j : Nat} (h : l[i]? = some j) : (nums l).toArray[i]? = some (.int .i64 j) := by simp [nums, h]
theorem nums_set (l : List Nat) (i j : Nat) : (nums l).toArray.setIfInBounds i (.int .i64 j) = (nums (l.set i j)).toArray := by
  rw [List.setIfInBounds_toArray]
  congr 1
  unfold nums
  rw [List.map_set]
theorem nums_made (n : Nat) : madeCells #[.int .i64 0] n = (nums (List.replicate n 0)).toArray := by
  apply Array.toList_inj.1
  rw [toList_madeCells_one]
  simp [nums]
/- the piles in memory: their box, the row of last numbers with its box, the row of labels -/
structure St (M n : Nat) (w4 : World) (vJ : Value) (T L : List Nat) (wr : World) : Prop where
  jb : wr.heap[M]? = some (.cells #[vJ] 40 (0, 0))
  tr : wr.heap[M + 1]? = some (.cells (nums T).toArray 3 (0, 0))
  tb : wr.heap[M + 2]? = some (.cells #[.slice (some ⟨M + 1, 0, none⟩) n n] 40 (0, 0))
  lr : wr.heap[M + 3]? = some (.cells (nums L).toArray 3 (0, 0))
  bl : Below M w4 wr
  tl : T.length = n
  ll : L.length = n
theorem St.below {M n : Nat} {w4 wr w' : World} {vJ : Value} {T L : List Nat} (h : St M n w4 vJ T L wr) (hM : M ≤ wr.heap.size) (hb : Below wr.heap.size wr w') : St M n w4 vJ T L w' where
  jb := (hb.block _ (lt_of_heap h.jb)).trans h.jb
  tr := (hb.block _ (lt_of_heap h.tr)).trans h.tr
  tb := (hb.block _ (lt_of_heap h.tb)).trans h.tb
  lr := (hb.block _ (lt_of_heap h.lr)).trans h.lr
  bl := h.bl.trans (hb.mono hM)
  tl := h.tl
  ll := h.ll
theorem St.size {M n : Nat} {w4 wr : World} {vJ : Value} {T L : List Nat} (h : St M n w4 vJ T L wr) : M + 4 ≤ wr.heap.size := lt_of_heap h.lr
theorem St.setT {M n : Nat} {w4 wr : World} {vJ : Value} {T L : List Nat} (h : St M n w4 vJ T L wr) (i j : Nat) : St M n w4 vJ (T.set i j) L (wr.setCell ⟨M + 1, i, none⟩ (.int .i64 j)) where
  jb := by rw [Below.heap_setCell _ _ _ _ (show M ≠ M + 1 by omega)]; exact h.jb
  tr := by rw [heap_set _ h.tr, nums_set]
  tb := by rw [Below.heap_setCell _ _ _ _ (show M + 2 ≠ M + 1 by omega)]; exact h.tb
  lr := by rw [Below.heap_setCell _ _ _ _ (show M + 3 ≠ M + 1 by omega)]; exact h.lr
  bl := h.bl.setCell (p := ⟨M + 1, i, none⟩) (by simp) _
  tl := by rw [List.length_set]; exact h.tl
  ll := h.ll
theorem St.setL {M n : Nat} {w4 wr : World} {vJ : Value} {T L : List Nat} (h : St M n w4 vJ T L wr) (i j : Nat) : St M n w4 vJ T (L.set i j) (wr.setCell ⟨M + 3, i, none⟩ (.int .i64 j)) where
  jb := by rw [Below.heap_setCell _ _ _ _ (show M ≠ M + 3 by omega)]; exact h.jb
  tr := by rw [Below.heap_setCell _ _ _ _ (show M + 1 ≠ M + 3 by omega)]; exact h.tr
  tb := by rw [Below.heap_setCell _ _ _ _ (show M + 2 ≠ M + 3 by omega)]; exact h.tb
  lr := by rw [heap_set _ h.lr, nums_set]
  bl := h.bl.setCell (p := ⟨M + 3, i, none⟩) (by simp) _
  tl := h.tl
  ll := by rw [List.length_set]; exact h.ll
theorem St_start (n : Nat) (w4 : World) (vJ : Value) : St w4.heap.size n w4 vJ (List.replicate n 0) (List.replicate n 0) ((((w4.alloc (.cells #[vJ] 40)).alloc (.cells (nums (List.replicate n 0)).toArray 3)).alloc (.cells #[.slice (some ⟨w4.heap.size + 1, 0, none⟩) n n] 40)).alloc (.cells (nums (List.replicate n 0)).toArray 3)) where
  jb := by rw [Below.heap_alloc _ _ _ (by simp; omega), Below.heap_alloc _ _ _ (by simp; omega), Below.heap_alloc _ _ _ (by simp)]; exact heap_new _ _ rfl
  tr := by rw [Below.heap_alloc _ _ _ (by simp), Below.heap_alloc _ _ _ (by simp)]; exact heap_new _ _ (by simp)
  tb := by rw [Below.heap_alloc _ _ _ (by simp)]; exact heap_new _ _ (by simp)
  lr := heap_new _ _ (by simp)
  bl := ((((Below.refl _ _).alloc (Nat.le_refl _) _).alloc (by simp) _).alloc (by simp; omega) _).alloc (by simp; omega) _
  tl := by simp
  ll := by simp
def L5 (M n : Nat) (w4 : World) (vJ : Value) (i : Value) (wr : World) : Prop := ∃ k : Nat, k ≤ n ∧ i = .int .i64 k ∧ St M n w4 vJ (List.replicate k (n + 1) ++ List.replicate (n - k) 0) (List.replicate n 0) wr
theorem L5_step {M n k : Nat} {w4 wr : World} {vJ : Value} (hk : k < n) (h : St M n w4 vJ (List.replicate k (n + 1) ++ List.replicate (n - k) 0) (List.replicate n 0) wr) : L5 M n w4 vJ (.int .i64 ((k : Int) + 1)) (wr.setCell ⟨M + 1, k, none⟩ (.int .i64 ((n + 1 : Nat) : Int))) := by
  refine ⟨k + 1, hk, by simp, ?_⟩
  have := h.setT k (n + 1)
  have e : (List.replicate k (n + 1) ++ List.replicate (n - k) 0).set k (n + 1) = List.replicate (k + 1) (n + 1) ++ List.replicate (n - (k + 1)) 0 := by
    rw [List.set_append_right _ _ (by simp), List.length_replicate, Nat.sub_self, show n - k = (n - (k + 1)) + 1 by omega, List.replicate_succ, List.set_cons_zero, List.replicate_succ', List.append_assoc]
    rfl
  rwa [e] at this
def L6 (J : List Nat) (M n : Nat) (w4 : World) (vJ : Value) (kx : Nat) (p : Value) (wr : World) : Prop := ∃ (k bi : Nat) (T L : List Nat) (q : Nat), p = .pointer (some ⟨bi, 0, none⟩) ∧ k ≤ n ∧ n - k ≤ kx ∧ M + 4 ≤ bi ∧ wr.heap[bi]? = some (.cells #[.int .i64 k] 3 (0, 0)) ∧ St M n w4 vJ T L wr ∧ PInv J n k T L q

def maxL (l : List Nat) : Nat := l.foldl max 0
theorem maxL_step {L : List Nat} {j lj : Nat} (h : L[j]? = some lj) : maxL (L.take (j + 1)) = max (maxL (L.take j)) lj := by
  unfold maxL
  rw [List.take_add_one, h, List.foldl_append]
  rfl
theorem maxL_spec : ∀ (l : List Nat), (∀ x ∈ l, x ≤ maxL l) ∧ (0 < maxL l → maxL l ∈ l) := by
  have key : ∀ (l : List Nat) (a : Nat), (∀ x ∈ l, x ≤ l.foldl max a) ∧ a ≤ l.foldl max a ∧ (l.foldl max a = a ∨ l.foldl max a ∈ l) := by
    intro l
    induction l with
    | nil => intro a; exact ⟨fun x h => (by cases h), Nat.le_refl _, .inl rfl⟩
    | cons y l ih =>
      intro a
      obtain ⟨h1, h2, h3⟩ := ih (max a y)
      rw [List.foldl_cons]
      refine ⟨fun x hx => ?_, by omega, ?_⟩
      · rcases List.mem_cons.1 hx with rfl | hx
        · omega
        · exact h1 x hx
      · rcases h3 with h3 | h3
        · rw [h3]
          rcases Nat.le_total a y with h4 | h4
          · right; rw [Nat.max_eq_right h4]; simp
          · left; exact Nat.max_eq_left h4
        · right; exact List.mem_cons_of_mem _ h3
  intro l
  obtain ⟨h1, _, h3⟩ := key l 0
  refine ⟨h1, fun hp => ?_⟩
  rcases h3 with h3 | h3
  · have h3 : maxL l = 0 := h3
    omega
  · exact h3
def L7 (L : List Nat) (kv i : Value) : Prop := ∃ j : Nat, j ≤ L.length ∧ i = .int .i64 j ∧ kv = .int .i64 (maxL (L.take j) : Nat)
theorem info_pair : (Tryd.prog.info? 60).map (fun i => (i.zero, i.size, i.bytes)) = some (some (.agg #[.int .i64 0, .int .i64 0]), 2, 16) := by kernel_rfl
def flat (M : List (Nat × Nat)) : List Nat := M.flatMap fun m => [m.1, m.2]
theorem flat_zero (k : Nat) : flat (List.replicate k (0, 0)) = List.replicate (k * 2) 0 := by
  induction k with
  | zero => rfl
  | succ k ih =>
    rw [List.replicate_succ]
    unfold flat at ih ⊢
    rw [List.flatMap_cons, ih, Nat.succ_mul, Nat.add_comm, ← List.replicate_append_replicate]
    rfl
theorem pairs_made (k : Nat) : madeCells #[.int .i64 0, .int .i64 0] (k * 2) = (nums (flat (List.replicate k (0, 0)))).toArray := by
  rw [flat_zero]
  apply Array.toList_inj.1
  unfold madeCells nums
  apply List.ext_getElem
  · simp
  · intro i h1 h2
    have : i % 2 = 0 ∨ i % 2 = 1 := by omega
    rcases this with h | h <;> simp [h]
theorem flat_get : ∀ {M : List (Nat × Nat)} {i : Nat} {m : Nat × Nat}, M[i]? = some m → (flat M)[2 * i]? = some m.1 ∧ (flat M)[2 * i + 1]? = some m.2 := by
  intro M
  induction M with
  | nil => intro i m h; simp at h
  | cons x M ih =>
    intro i m h
    cases i with
    | zero => simp at h; subst h; exact ⟨rfl, rfl⟩
    | succ i =>
      rw [List.getElem?_cons_succ] at h
      obtain ⟨h1, h2⟩ := ih h
      unfold flat at h1 h2 ⊢
      rw [List.flatMap_cons, show 2 * (i + 1) = 2 * i + 2 by omega]
      exact ⟨h1, h2⟩
theorem flat_set : ∀ (M : List (Nat × Nat)) (i a b : Nat), ((flat M).set (2 * i) a).set (2 * i + 1) b = flat (M.set i (a, b)) := by
  intro M
  induction M with
  | nil => intro i a b; rfl
  | cons x M ih =>
    intro i a b
    cases i with
    | zero => rfl
    | succ i =>
      have := ih i a b
      unfold flat at this ⊢
      rw [List.set_cons_succ, List.flatMap_cons, List.flatMap_cons, ← this, show 2 * (i + 1) = 2 * i + 2 by omega]
      rfl
structure L8s (J L xi yi : List Nat) (K S lx ly i k : Nat) (ch : List Nat) (R : List (Nat × Nat)) (n : Nat) (wr : World) : Prop where
  b : BInv J L n K i k ch
  s : wr.heap[S]? = some (.cells (nums (flat R)).toArray 60 (0, 0))
  len : R.length = K + 2
  first : R[0]? = some (0, 0)
  last : R[1 + K]? = some (lx, ly)
  at_ : ∀ (c t : Nat), ch[c]? = some t → ∃ j a b, J[t]? = some j ∧ xi[t]? = some a ∧ yi[j]? = some b ∧ R[k + 1 + c]? = some (a, b)
def L8 (J T L xi yi : List Nat) (K S lx ly M n : Nat) (w4 : World) (vJ : Value) (kv i : Value) (wr : World) : Prop := ∃ (i' k : Nat) (ch : List Nat) (R : List (Nat × Nat)), i = .int .i64 ((i' : Int) - 1) ∧ kv = .int .i64 (k : Int) ∧ i' ≤ n ∧ L8s J L xi yi K S lx ly i' k ch R n wr ∧ St M n w4 vJ T L wr
theorem sq_set {w : World} {S i a b : Nat} {R : List (Nat × Nat)} {t : TypeId} (h : w.heap[S]? = some (.cells (nums (flat R)).toArray t (0, 0))) : ((w.setCell ⟨S, i * 2, none⟩ (.int .i64 (a : Int))).setCell ⟨S, i * 2 + 1, none⟩ (.int .i64 (b : Int))).heap[S]? = some (.cells (nums (flat (R.set i (a, b)))).toArray t (0, 0)) := by
  have h1 := heap_set w (o := i * 2) h (.int .i64 (a : Int))
  rw [nums_set] at h1
  have h2 := heap_set _ (o := i * 2 + 1) h1 (.int .i64 (b : Int))
  rw [nums_set, Nat.mul_comm, flat_set] at h2
  rw [Nat.mul_comm]
  exact h2
theorem St.setS {M n S o : Nat} {w4 wr : World} {vJ : Value} {T L : List Nat} (h : St M n w4 vJ T L wr) (hS : M + 4 ≤ S) (v : Value) : St M n w4 vJ T L (wr.setCell ⟨S, o, none⟩ v) where
  jb := by rw [Below.heap_setCell _ _ _ _ (show M ≠ S by omega)]; exact h.jb
  tr := by rw [Below.heap_setCell _ _ _ _ (show M + 1 ≠ S by omega)]; exact h.tr
  tb := by rw [Below.heap_setCell _ _ _ _ (show M + 2 ≠ S by omega)]; exact h.tb
  lr := by rw [Below.heap_setCell _ _ _ _ (show M + 3 ≠ S by omega)]; exact h.lr
  bl := h.bl.setCell (p := ⟨S, o, none⟩) (show M ≤ S by omega) _
  tl := h.tl
  ll := h.ll
theorem L8_start {J T L xi yi : List Nat} {K S lx ly M n : Nat} {w4 w7 : World} {vJ : Value} (hS : M + 4 ≤ S) (h7 : w7.heap[S]? = some (.cells (nums (flat (List.replicate (K + 2) (0, 0)))).toArray 60 (0, 0))) (hs : St M n w4 vJ T L w7) :
    L8 J T L xi yi K S lx ly M n w4 vJ (.int .i64 (K : Int)) (.int .i64 ((n : Int) - 1)) ((w7.setCell ⟨S, (1 + K) * 2, none⟩ (.int .i64 (lx : Int))).setCell ⟨S, (1 + K) * 2 + 1, none⟩ (.int .i64 (ly : Int))) := by
  refine ⟨n, K, [], (List.replicate (K + 2) (0, 0)).set (1 + K) (lx, ly), rfl, rfl, Nat.le_refl _, ⟨BInv.init J L n K, sq_set h7, by simp, ?_, ?_, fun c t h => by simp at h⟩, (hs.setS hS _).setS hS _⟩
  · rw [List.getElem?_set_ne (by omega), List.getElem?_replicate, if_pos (by omega)]
  · rw [List.getElem?_set_self (by simp; omega)]
theorem L8_take {J T L xi yi ch : List Nat} {R : List (Nat × Nat)} {K S lx ly M n t k j a b q : Nat} {w4 wr : World} {vJ : Value} (hS : M + 4 ≤ S) (hP : PInv J n n T L q) (ht : t + 1 ≤ n) (h : L8s J L xi yi K S lx ly (t + 1) (k + 1) ch R n wr) (hs : St M n w4 vJ T L wr)
    (hL : L[t]? = some (k + 1)) (hj : J[t]? = some j) (hx : xi[t]? = some a) (hy : yi[j]? = some b) :
    L8 J T L xi yi K S lx ly M n w4 vJ (.int .i64 (k : Int)) (.int .i64 ((t : Int) - 1)) (((wr.setCell ⟨S, (k + 1) * 2, none⟩ (.int .i64 (a : Int))).setCell ⟨S, (k + 1) * 2 + 1, none⟩ (.int .i64 (b : Int))).drew) := by
  have hk := h.b.len
  have hlen := h.len
  refine ⟨t, k, t :: ch, R.set (k + 1) (a, b), rfl, rfl, by omega, ⟨h.b.take hP (by omega) hL, sq_set h.s, by rw [List.length_set]; exact hlen, ?_, ?_, fun c u hc => ?_⟩, ((hs.setS hS _).setS hS _).below (by have := hs.size; simp; omega) (Below.refl _ _).drew⟩
  · rw [List.getElem?_set_ne (by omega)]; exact h.first
  · rw [List.getElem?_set_ne (by omega)]; exact h.last
  · cases c with
    | zero =>
      simp at hc
      subst hc
      exact ⟨j, a, b, hj, hx, hy, by rw [Nat.add_zero, List.getElem?_set_self (by omega)]⟩
    | succ c =>
      rw [List.getElem?_cons_succ] at hc
      obtain ⟨j', a', b', h1, h2, h3, h4⟩ := h.at_ c u hc
      exact ⟨j', a', b', h1, h2, h3, by rw [List.getElem?_set_ne (by omega), ← h4]; congr 1; omega⟩
theorem L8_pass {J T L xi yi ch : List Nat} {R : List (Nat × Nat)} {K S lx ly M n t k : Nat} {w4 wr : World} {vJ : Value} (ht : t + 1 ≤ n) (h : L8s J L xi yi K S lx ly (t + 1) k ch R n wr) (hs : St M n w4 vJ T L wr) (hL : L[t]? ≠ some k) :
    L8 J T L xi yi K S lx ly M n w4 vJ (.int .i64 (k : Int)) (.int .i64 ((t : Int) - 1)) wr :=
  ⟨t, k, ch, R, rfl, rfl, by omega, ⟨h.b.pass hL, h.s, h.len, h.first, h.last, h.at_⟩, hs⟩
/- a slice that reads as a list of pairs -/
def PS (w : World) (v : Value) (M : List (Nat × Nat)) : Prop := ∃ b cap, v = .slice (some ⟨b, 0, none⟩) M.length cap ∧ w.heap[b]? = some (.cells (nums (flat M)).toArray 60 (0, 0))
def Opt (X Y : List (List UInt8)) (K : Nat) : Prop := ∃ lab : List Nat, lab.length = (ix (uq X Y) X X.length).length ∧ (∀ x ∈ lab, 1 ≤ x ∧ x ≤ K) ∧ ∀ (s t a b c d : Nat), s < t → (inv X Y X.length)[s]? = some a → (inv X Y X.length)[t]? = some b → a < b → lab[s]? = some c → lab[t]? = some d → c < d
def TgsPost (X Y : List (List UInt8)) (w : World) (en : Ending) (w' : World) : Prop := ∃ M v, en = .returned v ∧ PS w' v M ∧ Matches X Y M ∧ Opt X Y (M.length - 2) ∧ Below w.heap.size w w'
theorem ps_of {w : World} {S K : Nat} {R : List (Nat × Nat)} (hl : R.length = K + 2) (h : w.heap[S]? = some (.cells (nums (flat R)).toArray 60 (0, 0))) : PS w (.slice (some ⟨S, 0, none⟩) (K + 2) (K + 2)) R := ⟨S, K + 2, by rw [hl], h⟩
theorem flat_cells {w : World} {S i : Nat} {m : Nat × Nat} {M : List (Nat × Nat)} {t : TypeId} (h : w.heap[S]? = some (.cells (nums (flat M)).toArray t (0, 0))) (hm : M[i]? = some m) : w.cell? ⟨S, i * 2, none⟩ = some (.int .i64 (m.1 : Int)) ∧ w.cell? ⟨S, i * 2 + 1, none⟩ = some (.int .i64 (m.2 : Int)) := by
  obtain ⟨h1, h2⟩ := flat_get hm
  exact ⟨cell_at h _ (nums_get (by rw [Nat.mul_comm]; exact h1)), cell_at h _ (nums_get (by rw [Nat.mul_comm]; exact h2))⟩
theorem once_of {X Y : List (List UInt8)} {i j : Nat} {s : List UInt8} (hu : uq X Y s = true) (hx : X[i]? = some s) (hy : Y[j]? = some s) : Once X Y (i, j) := by
  obtain ⟨h1, h2⟩ := uq_iff.1 hu
  refine ⟨s, hx, hy, fun a ha => ?_, fun b hb => ?_⟩
  · rw [← once_idx h1 ha, once_idx h1 hx]
  · rw [← once_idx h2 hb, once_idx h2 hy]
theorem matches_of {X Y : List (List UInt8)} {J L xi yi ch : List Nat} {R : List (Nat × Nat)} {K S n : Nat} {wr : World} (hx : xi = ix (uq X Y) X X.length) (hJ : J = inv X Y X.length) (hy : yi = ix (uq X Y) Y Y.length) (h : L8s J L xi yi K S X.length Y.length 0 0 ch R n wr) : Matches X Y R := by
  have hlen := h.len
  have hch := h.b.len
  have real : ∀ (t : Nat) (m : Nat × Nat), R[t]? = some m → 0 < t → t + 1 < R.length → ∃ u j s, ch[t - 1]? = some u ∧ J[u]? = some j ∧ xi[u]? = some m.1 ∧ yi[j]? = some m.2 ∧ X[m.1]? = some s ∧ Y[m.2]? = some s ∧ uq X Y s = true := by
    intro t m ht h0 h1
    obtain ⟨u, hu⟩ : ∃ u, ch[t - 1]? = some u := ⟨_, List.getElem?_eq_getElem (by omega)⟩
    obtain ⟨j, a, b, g1, g2, g3, g4⟩ := h.at_ (t - 1) u hu
    rw [show 0 + 1 + (t - 1) = t by omega, ht] at g4
    injection g4 with g4
    subst g4
    have g5 := g1
    rw [hJ] at g5
    obtain ⟨i, s, k1, k2, k3, k4, k5, k6⟩ := inv_at g5
    rw [hx, k1] at g2
    injection g2 with g2
    subst g2
    rw [hy, k5] at g3
    injection g3 with g3
    subst g3
    exact ⟨u, j, s, hu, g1, by rw [hx]; exact k1, by rw [hy]; exact k5, k2, k6, k3⟩
  have inc : ∀ (d c s t : Nat), ch[c]? = some s → ch[c + d]? = some t → s ≤ t ∧ (∀ a b, J[s]? = some a → J[t]? = some b → a ≤ b) ∧ (0 < d → s < t) := by
    intro d
    induction d with
    | zero =>
      intro c s t hs ht
      rw [Nat.add_zero, hs] at ht
      injection ht with ht
      subst ht
      exact ⟨Nat.le_refl _, fun a b ha hb => by rw [ha] at hb; injection hb with hb; omega, fun h => by omega⟩
    | succ d ih =>
      intro c s t hs ht
      have hl := (List.getElem?_eq_some_iff.1 ht).1
      obtain ⟨r, hr⟩ : ∃ r, ch[c + d]? = some r := ⟨_, List.getElem?_eq_getElem (by omega)⟩
      obtain ⟨h1, h2, _⟩ := ih c s r hs hr
      obtain ⟨h3, h4⟩ := h.b.inc (c + d) r t hr (by rw [← ht]; congr 1)
      refine ⟨by omega, fun a b ha hb => ?_, fun _ => by omega⟩
      obtain ⟨j, _, _, hj, _⟩ := h.at_ _ _ hr
      have := h2 a j ha hj
      have := h4 j b hj hb
      omega
  refine ⟨h.first, fun t m ht h1 => ?_, fun t m ht h0 h1 => ?_, fun s t m m' hs ht hst => ?_, by omega, fun s t m m' hs ht h0 hst hl => ?_⟩
  · obtain rfl : t = 1 + K := by omega
    rw [h.last] at ht
    injection ht with ht
    exact ht.symm
  · obtain ⟨u, j, s, _, _, _, _, h2, h3, h4⟩ := real t m ht h0 h1
    exact once_of h4 h2 h3
  · rcases Nat.eq_zero_or_pos s with h0 | h0
    · subst h0
      rw [h.first] at hs
      injection hs with hs
      subst hs
      exact ⟨Nat.zero_le _, Nat.zero_le _⟩
    · have htl := (List.getElem?_eq_some_iff.1 ht).1
      rcases Nat.lt_or_ge (t + 1) R.length with h1 | h1
      · obtain ⟨u, j, z, a1, a2, a3, a4, _⟩ := real s m hs h0 (by omega)
        obtain ⟨u', j', z', b1, b2, b3, b4, _⟩ := real t m' ht (by omega) h1
        obtain ⟨i1, i2, _⟩ := inc (t - s) (s - 1) u u' a1 (by rw [← b1]; congr 1; omega)
        have i3 := i2 j j' a2 b2
        rw [hx] at a3 b3
        rw [hy] at a4 b4
        constructor
        · rcases Nat.eq_or_lt_of_le i1 with h5 | h5
          · subst h5; rw [a3] at b3; injection b3 with b3; omega
          · exact Nat.le_of_lt (ix_rise _ _ _ _ _ _ _ a3 b3 h5)
        · rcases Nat.eq_or_lt_of_le i3 with h5 | h5
          · subst h5; rw [a4] at b4; injection b4 with b4; omega
          · exact Nat.le_of_lt (ix_rise _ _ _ _ _ _ _ a4 b4 h5)
      · obtain rfl : t = 1 + K := by omega
        rw [h.last] at ht
        injection ht with ht
        subst ht
        rcases Nat.lt_or_ge (s + 1) R.length with h2 | h2
        · obtain ⟨u, j, z, _, _, _, _, g1, g2, _⟩ := real s m hs h0 h2
          exact ⟨Nat.le_of_lt (List.getElem?_eq_some_iff.1 g1).1, Nat.le_of_lt (List.getElem?_eq_some_iff.1 g2).1⟩
        · obtain rfl : s = 1 + K := by omega
          rw [h.last] at hs
          injection hs with hs
          subst hs
          exact ⟨Nat.le_refl _, Nat.le_refl _⟩
  · obtain ⟨u, j, z, a1, a2, a3, a4, _⟩ := real s m hs h0 (by omega)
    obtain ⟨u', j', z', b1, b2, b3, b4, _⟩ := real t m' ht (by omega) hl
    obtain ⟨_, _, i3⟩ := inc (t - s) (s - 1) u u' a1 (by rw [← b1]; congr 1; omega)
    rw [hx] at a3 b3
    exact ix_rise _ _ _ _ _ _ _ a3 b3 (i3 (by omega))
theorem opt_of {X Y : List (List UInt8)} {J T L xi : List Nat} {K n q : Nat} (hx : xi = ix (uq X Y) X X.length) (hJ : J = inv X Y X.length) (hn : n = xi.length) (hP : PInv J n n T L q) (hK : ∀ x ∈ L, x ≤ K) : Opt X Y K := by
  refine ⟨L, by rw [hP.ll, hn, hx], fun x hxl => ⟨?_, hK x hxl⟩, fun s t a b c d hst ha hb hab hc hd => ?_⟩
  · obtain ⟨i, hi⟩ := List.mem_iff_getElem?.1 hxl
    have hil := (List.getElem?_eq_some_iff.1 hi).1
    rw [hP.ll] at hil
    obtain ⟨c, h1, _⟩ := hP.lab i hil
    rw [hi] at h1
    injection h1 with h1
    omega
  · have htl := (List.getElem?_eq_some_iff.1 hd).1
    rw [hP.ll] at htl
    rw [← hJ] at ha hb
    exact hP.opt s t a b c d hst htl ha hb hab hc hd
theorem L6_step {J T L : List Nat} {M n k kk q : Nat} {w4 w2 : World} {vJ : Value} (hlt : k < n) (hs : M + 4 ≤ w2.heap.size) (h : St M n w4 vJ T L w2) (hp : PInv J n (k + 1) T (L.set k (kk + 1)) q) :
    L6 J M n w4 vJ (n - (k + 1)) (.pointer (some ⟨w2.heap.size, 0, none⟩)) ((w2.setCell ⟨M + 3, k, none⟩ (.int .i64 ((kk : Int) + 1))).alloc (.cells #[.int .i64 ((k : Int) + 1)] 3)) := by
  have h2 := h.setL k (kk + 1)
  refine ⟨k + 1, w2.heap.size, T, L.set k (kk + 1), q, rfl, hlt, Nat.le_refl _, hs, ?_, h2.below (by simp; omega) ((Below.refl _ _).alloc (Nat.le_refl _) _), hp⟩
  exact heap_new _ _ (by simp)

set_option maxHeartbeats 4000000 in
set_option maxRecDepth 1000000 in
theorem tgs_any (X Y : List (List UInt8)) (vx vy : Value) (w : World) (hx : LS w vx X) (hy : LS w vy Y) (sx : small X) (sy : small Y) : Calls Tryd.prog 30 #[vx, vy] w (TgsPost X Y w) := by
  obtain ⟨hxl, hxs⟩ := sx
  obtain ⟨hyl, hys⟩ := sy
  have HX := Lib.hid hx
  have HY := Lib.hid hy
  obtain ⟨ax, cx, rfl, -⟩ := hx
  obtain ⟨ay, cy, rfl, -⟩ := hy
  have HXS := Lib.hid hxs
  have HYS := Lib.hid hys
  clear hxs hys
  have hmm := @run_makeMap Tryd.prog
  go_enter Tryd.func30, Tryd.ntmps30
  go_wp2_with fail
  go_loopw [37] (fun i wr => L1 X w i wr) (fun i _ => X.length - (intOf i).toNat)
  case atStart => exact ⟨0, Nat.zero_le _, rfl, (MM.start w).congr (fun t => by simp [fx]) (fun t => by simp), (Below.refl _ _).alloc (Nat.le_refl _) _⟩
  case round =>
    obtain ⟨k, hk, rfl, hm, hb⟩ := hrel
    have HM := Lib.hid hm
    have HB := Lib.hid hb
    clear hm hb
    by_cases hlt : k < X.length
    · obtain ⟨s, hs⟩ : ∃ s, X[k]? = some s := ⟨_, List.getElem?_eq_getElem hlt⟩
      obtain ⟨bx, ox, rfl, hcell⟩ := (HX.out.below HB.out).cell hs
      have hsl : s.length ≤ 1152921504606846976 := by have := HXS.out s (List.mem_of_getElem? hs); omega
      have hr := fx_range (X.take k) s
      have htest := fx_test (X.take k) s
      have HSK := Lib.hid hs
      clear hs
      by_cases hc : cnt (X.take k) s < 2
      · have hgt := htest.2 hc
        have HC := Lib.hid hc
        clear hc htest
        go_wp2_with (first | (at_lookup; refine mm_look HM.out s hsl rfl _ _ rfl rfl rfl ?_) | (at_mapUpdate; refine mm_put HM.out s hsl (by omega) rfl _ _ _ rfl rfl rfl _ rfl (by omega) ?_; intro w1 hm1 hg1; have HM1 := Lib.hid hm1; have HG1 := Lib.hid hg1; clear hm1 hg1))
        exact ⟨L1_put HSK.out HC.out HB.out HM1.out HG1.out, by simp [intOf]; omega⟩
      · have hgt : ¬ -2 < fx (X.take k) s := fun h => hc (htest.1 h)
        have HC := Lib.hid hc
        clear hc htest
        go_wp2_with (at_lookup; refine mm_look HM.out s hsl rfl _ _ rfl rfl rfl ?_)
        exact ⟨L1_skip HSK.out HC.out HB.out HM.out, by simp [intOf]; omega⟩
    · have HM2 : Hid (MM wr w.heap.size X.length (fx X) (fun t => decide (t ∈ X))) := Lib.hid (by
        have := HM.out
        rwa [show k = X.length by omega, List.take_length] at this)
      clear HM hk
      go_wp2_with fail
      go_loopw [53] (fun i wq => L2 X Y w i wq) (fun i _ => Y.length - (intOf i).toNat)
      case atStart => exact ⟨0, Nat.zero_le _, rfl, HM2.out.congr (fun t => by simp [fxy]) (fun t => by simp), HB.out⟩
      case round =>
        clear HM2 HB
        obtain ⟨k, hk, rfl, hm, hb⟩ := hrel
        have HM := Lib.hid hm
        have HB := Lib.hid hb
        clear hm hb
        by_cases hlt : k < Y.length
        · obtain ⟨s, hs⟩ : ∃ s, Y[k]? = some s := ⟨_, List.getElem?_eq_getElem hlt⟩
          obtain ⟨by_, oy, rfl, hcell⟩ := (HY.out.below HB.out).cell hs
          have hsl : s.length ≤ 1152921504606846976 := by have := HYS.out s (List.mem_of_getElem? hs); omega
          have hr := fxy_range X (Y.take k) s
          have htest := fxy_test X (Y.take k) s
          have HSK := Lib.hid hs
          clear hs
          by_cases hc : cnt (Y.take k) s < 2
          · have hgt := htest.2 hc
            have HC := Lib.hid hc
            clear hc htest
            go_wp2_with (first | (at_lookup; refine mm_look HM.out s hsl rfl _ _ rfl rfl rfl ?_) | (at_mapUpdate; refine mm_put HM.out s hsl (by omega) rfl _ _ _ rfl rfl rfl _ rfl (by omega) ?_; intro w1 hm1 hg1; have HM1 := Lib.hid hm1; have HG1 := Lib.hid hg1; clear hm1 hg1))
            exact ⟨L2_put HSK.out HC.out HB.out HM1.out HG1.out, by simp [intOf]; omega⟩
          · have hgt : ¬ -8 < fxy X (Y.take k) s := fun h => hc (htest.1 h)
            have HC := Lib.hid hc
            clear hc htest
            go_wp2_with (at_lookup; refine mm_look HM.out s hsl rfl _ _ rfl rfl rfl ?_)
            exact ⟨L2_skip HSK.out HC.out HB.out HM.out, by simp [intOf]; omega⟩
        · have HM2 : Hid (MM wr w.heap.size (X.length + Y.length) (fxy X Y) (fun t => decide (t ∈ X ∨ t ∈ Y))) := Lib.hid (by
            have := HM.out
            rwa [show k = Y.length by omega, List.take_length] at this)
          obtain ⟨i0, hi, hz0, hz1, hz2⟩ := info_parts info_num
          clear HM hk
          go_wp2_with fail
          go_loopw [13, 69] (fun v i wq => L3 X Y w v i wq) (fun _ i _ => Y.length - (intOf i).toNat)
          case atStart => exact ⟨0, Nat.zero_le _, rfl, HM2.out.congr (fun t => (fm_zero X Y t).symm) (fun t => rfl), World.ownsRow_nil _ _ _ _, HB.out⟩
          case round =>
            clear HM2 HB
            obtain ⟨k, hk, rfl, hm, hrow, hb⟩ := hrel
            have HM := Lib.hid hm
            have HB := Lib.hid hb
            have HR := Lib.hid hrow
            have hml := hm.lt
            obtain ⟨pv, cv, rfl⟩ := ownsRow_slice hrow
            have hix := ix_len (uq X Y) Y k
            clear hm hb hrow
            by_cases hlt : k < Y.length
            · obtain ⟨s, hs⟩ : ∃ s, Y[k]? = some s := ⟨_, List.getElem?_eq_getElem hlt⟩
              obtain ⟨by_, oy, rfl, hcell⟩ := (HY.out.below HB.out).cell hs
              have hsl : s.length ≤ 1152921504606846976 := by have := HYS.out s (List.mem_of_getElem? hs); omega
              have htest := fm_test (X := X) hs
              have HSK := Lib.hid hs
              clear hs
              by_cases hu : uq X Y s = true
              · have h5 : (fm X Y k s == -5) = true := by rw [htest.2 hu]; rfl
                have HU := Lib.hid hu
                obtain ⟨n, hn⟩ : ∃ n, n = (ix (uq X Y) Y k).length := ⟨_, rfl⟩
                have HN := Lib.hid hn
                rw [← hn] at hix ⊢
                clear hu htest hn
                go_wp2_with (first | (at_lookup; refine mm_look HM.out s hsl rfl _ _ rfl rfl rfl ?_) | (at_mapUpdate; refine mm_put HM.out s hsl (by omega) rfl _ _ _ rfl rfl rfl _ rfl (by omega) ?_; intro w1 hm1 hg1; have HM1 := Lib.hid hm1; have HG1 := Lib.hid hg1; have HR1 : Hid (rowI w1 (w.heap.size + 1) (.slice pv n cv) (ix (uq X Y) Y k)) := Lib.hid (by rw [HN.out]; exact HR.out.kept hg1 (.inr fun he => by have := (HR.out.lt _ he).1; omega)); have hsz1 := hg1.size; clear hm1 hg1) | (at_builtin; refine wpList_append_own2 rfl _ _ 40 rfl (w.heap.size + 1) 3 i0 _ 1 8 Tryd.underlying40 hi hz0 hz1 hz2 rfl (by decide) _ _ _ rfl (HR1.out.alloc _) ⟨_, 0, none⟩ 1 1 [.int .i64 k] rfl rfl (cell_one_new _ _ _) (by simp [Value.oneCell']) (by have := HN.out; unfold maxLen; omega) (by have := HN.out; omega) (by simp; omega) ?_; intro v' w3 hown3 hat3; have HO3 := Lib.hid hown3; have HA3 := Lib.hid hat3; clear hown3 hat3))
                have hn := HN.out
                subst hn
                exact ⟨L3_put HSK.out HU.out HB.out HR.out HM1.out HG1.out HO3.out HA3.out, by simp [intOf]; omega⟩
              · have h5 : (fm X Y k s == -5) = false := by
                  rw [beq_eq_false_iff_ne]
                  exact fun h => hu (htest.1 h)
                have HU := Lib.hid hu
                clear hu htest
                go_wp2_with (at_lookup; refine mm_look HM.out s hsl rfl _ _ rfl rfl rfl ?_)
                exact ⟨L3_skip HSK.out HU.out HB.out HR.out HM.out, by simp [intOf]; omega⟩
            · have HM2 : Hid (MM wr w.heap.size (X.length + Y.length + Y.length) (fm X Y Y.length) (fun t => decide (t ∈ X ∨ t ∈ Y))) := Lib.hid (by
                have := HM.out
                rwa [show k = Y.length by omega] at this)
              have HR2 : Hid (rowI wr (w.heap.size + 1) (.slice pv (ix (uq X Y) Y k).length cv) (ix (uq X Y) Y Y.length)) := Lib.hid (by
                have := HR.out
                rwa [show k = Y.length by omega] at this ⊢)
              have hkY : (ix (uq X Y) Y k).length = (ix (uq X Y) Y Y.length).length := by rw [show k = Y.length by omega]
              obtain ⟨m, hm⟩ : ∃ m, m = (ix (uq X Y) Y Y.length).length := ⟨_, rfl⟩
              have hmY : m ≤ Y.length := by rw [hm]; exact ix_len _ _ _
              rw [hkY, ← hm] at HR2
              rw [hkY, ← hm]
              have HMM := Lib.hid hm
              clear HM HR hk hkY hix hm
              obtain ⟨vy, hvy⟩ : ∃ vy, vy = Value.slice pv m cv := ⟨_, rfl⟩
              rw [← hvy] at HR2
              have HVY := Lib.hid hvy
              clear hvy
              go_wp2_with fail
              go_loopw [12, 14, 89] (fun v u i wq => L4 X Y w vy v u i wq) (fun _ _ i _ => X.length - (intOf i).toNat)
              case atStart => exact ⟨0, Nat.zero_le _, rfl, HM2.out, World.ownsRow_nil _ _ _ _, World.ownsRow_nil _ _ _ _, HR2.out, (fun b hb => by simp [Value.ownBlock] at hb), (fun b hb => by simp [Value.ownBlock] at hb), (fun b hb => by simp [Value.ownBlock] at hb), HB.out⟩
              case round =>
                clear HM2 HR2 HB
                obtain ⟨k, hk, rfl, hm, hrv, hru, hry, a1, a2, a3, hb⟩ := hrel
                have HM := Lib.hid hm
                have HB := Lib.hid hb
                have HV := Lib.hid hrv
                have HU := Lib.hid hru
                have HYR := Lib.hid hry
                have A1 := Lib.hid a1
                have A2 := Lib.hid a2
                have A3 := Lib.hid a3
                have hml := hm.lt
                have hix := ix_len (uq X Y) X k
                have hil := inv_len X Y k
                clear hm hb hrv hru hry a1 a2 a3
                by_cases hlt : k < X.length
                · obtain ⟨s, hs⟩ : ∃ s, X[k]? = some s := ⟨_, List.getElem?_eq_getElem hlt⟩
                  obtain ⟨bx, ox, rfl, hcell⟩ := (HX.out.below HB.out).cell hs
                  have hsl : s.length ≤ 1152921504606846976 := by have := HXS.out s (List.mem_of_getElem? hs); omega
                  have hmem : decide (s ∈ X ∨ s ∈ Y) = true := by simp [List.mem_of_getElem? hs]
                  have hfm := fm_all (Y := Y) hs
                  have HSK := Lib.hid hs
                  clear hs
                  by_cases hu : uq X Y s = true
                  · have hpos := (hfm.1 hu).1
                    have HUQ := Lib.hid hu
                    obtain ⟨n1, hn1⟩ : ∃ n, n = (ix (uq X Y) X k).length := ⟨_, rfl⟩
                    obtain ⟨n2, hn2⟩ : ∃ n, n = (inv X Y k).length := ⟨_, rfl⟩
                    have hn3 : n1 ≤ k := by omega
                    have hn4 : n2 ≤ k := by omega
                    have HN1 := Lib.hid hn1
                    have HN2 := Lib.hid hn2
                    have hrv := HV.out
                    have hru := HU.out
                    obtain ⟨pv1, cv1, rfl⟩ := ownsRow_slice hrv
                    obtain ⟨pu, cu, rfl⟩ := ownsRow_slice hru
                    rw [← hn1] at HV A1 A2 ⊢
                    rw [← hn2] at HU A1 A3 ⊢
                    obtain ⟨ps, hps⟩ : ∃ ps, ps = posn X Y s := ⟨_, rfl⟩
                    rw [← hps] at hpos
                    have HPS := Lib.hid hps
                    clear hu hfm hn1 hn2 hrv hru hps hix hil
                    have tok1 : True := trivial
                    go_wp2_with (first | (at_lookup; refine mm_ok HM.out s hsl rfl _ _ rfl rfl rfl ?_) | (at_builtin; have _t := tok1; refine wpList_append_own2 rfl _ _ 40 rfl (w.heap.size + 1) 3 i0 _ 1 8 Tryd.underlying40 hi hz0 hz1 hz2 rfl (by decide) _ _ _ rfl (HV.out.alloc _) ⟨_, 0, none⟩ 1 1 [.int .i64 k] rfl rfl (cell_one_new _ _ _) (by simp [Value.oneCell']) (by have := HN1.out; unfold maxLen; omega) (by have := HN1.out; omega) (by simp; omega) ?_; intro v1 w1 hown1 hat1; have HO1 := Lib.hid hown1; have HA1 := Lib.hid hat1; have HU1 := Lib.hid (app_keep hat1 (HU.out.alloc _) A1.out).1; have hs1 := app_size hat1; clear hown1 hat1 _t tok1) | (at_builtin; refine wpList_append_own2 rfl _ _ 40 rfl (w.heap.size + 1) 3 i0 _ 1 8 Tryd.underlying40 hi hz0 hz1 hz2 rfl (by decide) _ _ _ rfl (HU1.out.alloc _) ⟨_, 0, none⟩ 1 1 [.int .i64 ps] rfl rfl (cell_one_new _ _ _) (by simp [Value.oneCell']) (by have := HN2.out; unfold maxLen; omega) (by have := HN2.out; omega) (by simp at hs1 ⊢; omega) ?_; intro v2 w2 hown2 hat2; have HO2 := Lib.hid hown2; have HA2 := Lib.hid hat2; clear hown2 hat2))
                    have hn1 := HN1.out
                    have hn2 := HN2.out
                    have hps := HPS.out
                    subst hn1 hn2 hps
                    exact ⟨L4_put HSK.out HUQ.out HB.out HM.out HV.out HU.out HYR.out A1.out A2.out A3.out HO1.out HA1.out HO2.out HA2.out, by simp [intOf]; omega⟩
                  · have hneg := hfm.2 hu
                    have HUQ := Lib.hid hu
                    clear hu hfm
                    go_wp2_with (at_lookup; refine mm_ok HM.out s hsl rfl _ _ rfl rfl rfl ?_)
                    exact ⟨L4_skip HSK.out HUQ.out HB.out HM.out HV.out HU.out HYR.out A1.out A2.out A3.out, by simp [intOf]; omega⟩
                · have hke : k = X.length := by omega
                  obtain ⟨xi, hxi⟩ : ∃ xi, xi = ix (uq X Y) X X.length := ⟨_, rfl⟩
                  obtain ⟨J, hJ⟩ : ∃ J, J = inv X Y X.length := ⟨_, rfl⟩
                  obtain ⟨yi, hyi⟩ : ∃ yi, yi = ix (uq X Y) Y Y.length := ⟨_, rfl⟩
                  obtain ⟨n, hn⟩ : ∃ n, n = xi.length := ⟨_, rfl⟩
                  rw [hke, ← hxi] at HV
                  rw [hke, ← hJ] at HU
                  rw [← hyi] at HYR
                  have hJn : J.length = n := by rw [hn, hJ, hxi]; exact inv_len X Y X.length
                  have hnX : n ≤ 10000 := by rw [hn, hxi]; have := ix_len (uq X Y) X X.length; omega
                  have IX := Lib.hid (IS.of HV.out)
                  have IJ := Lib.hid (IS.of HU.out)
                  have IY := Lib.hid (IS.of HYR.out)
                  have HJL : Hid (∀ (t j : Nat), J[t]? = some j → j < n) := Lib.hid fun t j h => by rw [hJ] at h; have := inv_lt h; rw [hn, hxi]; exact this
                  have HXI := Lib.hid hxi
                  have HJJ := Lib.hid hJ
                  have HYI := Lib.hid hyi
                  have HJN := Lib.hid hJn
                  obtain ⟨w4, hw4⟩ : ∃ w4 : World, w4 = wr := ⟨_, rfl⟩
                  rw [← hw4] at IX IJ IY HB ⊢
                  have hrv := HV.out
                  have hru := HU.out
                  obtain ⟨pv1, cv1, rfl⟩ := ownsRow_slice hrv
                  obtain ⟨pu, cu, rfl⟩ := ownsRow_slice hru
                  rw [← hn] at IX ⊢
                  rw [hJn] at IJ ⊢
                  have HNN := Lib.hid hn
                  clear hke hxi hJ hyi hn hJn HV HU HYR A1 A2 A3 HM hix hil hrv hru hml hw4
                  have hmk : ∀ W : World, (Instr.makeSlice 40 (.int .i64 (n : Int)) (.int .i64 (n : Int))).run Tryd.prog W = .ok (.slice (some ⟨W.heap.size, 0, none⟩) n n) (W.alloc (.cells (nums (List.replicate n 0)).toArray 3)) := fun W => by
                    have := run_makeSlice (P := Tryd.prog) W 40 3 i0 _ Tryd.underlying40 hi hz0 .i64 .i64 (n : Int) (n : Int) (by omega) (by omega) (by rw [hz1]; omega) (by rw [hz2]; omega) (by omega)
                    rw [this, hz1, Int.toNat_natCast, Nat.mul_one]
                    rw [show (Value.int IntKind.i64 0).cells = #[.int .i64 0] from rfl, nums_made]
                  go_wp2_with fail
                  obtain ⟨w5, hw5⟩ : ∃ w5, w5 = ((((w4.alloc (.cells #[.slice pu n cu] 40)).alloc (.cells (nums (List.replicate n 0)).toArray 3)).alloc (.cells #[.slice (some ⟨w4.heap.size + 1, 0, none⟩) n n] 40)).alloc (.cells (nums (List.replicate n 0)).toArray 3)) := ⟨_, rfl⟩
                  have H5 : Hid (St w4.heap.size n w4 (.slice pu n cu) (List.replicate n 0) (List.replicate n 0) w5) := Lib.hid (by rw [hw5]; exact St_start n w4 _)
                  rw [← hw5]
                  clear hw5
                  go_loopw [123] (fun i wq => L5 w4.heap.size n w4 (.slice pu n cu) i wq) (fun i _ => n - (intOf i).toNat)
                  case atStart => exact ⟨0, Nat.zero_le _, rfl, by simpa using H5.out⟩
                  case round =>
                    clear H5
                    obtain ⟨k, hk, rfl, hst⟩ := hrel
                    have HS := Lib.hid hst
                    have c1 := cell_at (o := 0) hst.tb (.slice (some ⟨w4.heap.size + 1, 0, none⟩) n n) rfl
                    have f1 := free_at hst.tr k
                    clear hst
                    by_cases hlt : k < n
                    · have c2 : wr.cell? ⟨w4.heap.size + 1, k, none⟩ = some (.int .i64 ((0 : Nat) : Int)) := cell_at HS.out.tr _ (nums_get (by rw [List.getElem?_append_right (by rw [List.length_replicate]; exact Nat.le_refl _), List.length_replicate, Nat.sub_self, List.getElem?_replicate, if_pos (by omega)]))
                      go_wp2_with fail
                      exact ⟨L5_step hlt HS.out, by simp [intOf]; omega⟩
                    · obtain rfl : n = k := by omega
                      have HS2 : Hid (St w4.heap.size n w4 (.slice pu n cu) (List.replicate n (n + 1)) (List.replicate n 0) wr) := Lib.hid (by
                        have := HS.out
                        rwa [Nat.sub_self, show (List.replicate 0 0 : List Nat) = [] from rfl, List.append_nil] at this)
                      have hsz := HS.out.size
                      clear HS c1 f1
                      go_wp2_with fail
                      obtain ⟨w6, hw6⟩ : ∃ w6, w6 = wr.alloc (.cells #[.int .i64 0] 3) := ⟨_, rfl⟩
                      have H6 : Hid (St w4.heap.size n w4 (.slice pu n cu) (List.replicate n (n + 1)) (List.replicate n 0) w6 ∧ w6.heap[wr.heap.size]? = some (.cells #[.int .i64 0] 3 (0, 0))) := Lib.hid (by rw [hw6]; exact ⟨HS2.out.below (by omega) ((Below.refl _ _).alloc (Nat.le_refl _) _), heap_new _ _ rfl⟩)
                      rw [← hw6]
                      clear hw6 HS2
                      go_loopg [26] n (fun kx p wq => L6 J w4.heap.size n w4 (.slice pu n cu) kx p wq)
                      case atStart => exact ⟨0, wr.heap.size, _, _, 0, rfl, Nat.zero_le _, by omega, by omega, H6.out.2, H6.out.1, PInv.init J n⟩
                      case round =>
                        clear H6 hsz
                        obtain ⟨k, bi, T, L, q, rfl, hk, hkx, hbi, hib, hst, hp⟩ := hrel
                        have HP := Lib.hid hp
                        have HS := Lib.hid hst
                        have HIB := Lib.hid hib
                        have ci := cell_at (o := 0) hib (.int .i64 (k : Int)) rfl
                        have c1 := cell_at (o := 0) hst.tb (.slice (some ⟨w4.heap.size + 1, 0, none⟩) n n) rfl
                        have c2 := cell_at (o := 0) hst.jb (.slice pu n cu) rfl
                        have hsz := hst.size
                        clear hib hst hp
                        by_cases hlt : k < n
                        · obtain ⟨jk, hjk⟩ : ∃ jk, J[k]? = some jk := ⟨_, List.getElem?_eq_getElem (by rw [HJN.out]; exact hlt)⟩
                          obtain ⟨gJ, oJ, rfl, hjc⟩ := IJ.out.cell hjk
                          have hjc' := (HS.out.bl.cell (p := ⟨gJ, oJ + k, none⟩) (lt_of_cell hjc)).trans hjc
                          have HJK := Lib.hid hjk
                          have HGJ := Lib.hid (lt_of_cell hjc)
                          clear hjk hjc
                          go_wp2_with fail
                          refine (search_any wr T (w4.heap.size + 2) w4.heap.size bi (w4.heap.size + 1) gJ oJ n n n cu k jk hlt (by omega) HS.out.tl c1 c2 ci (fun i t ht => cell_at HS.out.tr _ (nums_get ht)) hjc' (HP.out.rises HJL.out)).mono ?_
                          rintro e1 w1 ⟨kk, hkk, rfl, hlo, hhi, hb1⟩
                          obtain ⟨hkn, hp1⟩ := HP.out.step HJL.out hlt HJK.out hlo hhi hkk
                          have HP1 := Lib.hid hp1
                          have HS1 := Lib.hid (HS.out.below (by omega) hb1)
                          have HIB1 := Lib.hid ((hb1.block _ (lt_of_heap HIB.out)).trans HIB.out)
                          have d0 := cell_at (o := 0) HIB1.out (.int .i64 (k : Int)) rfl
                          have d1 := cell_at (o := 0) HS1.out.tb (.slice (some ⟨w4.heap.size + 1, 0, none⟩) n n) rfl
                          have d2 := cell_at (o := 0) HS1.out.jb (.slice (some ⟨gJ, oJ, none⟩) n cu) rfl
                          have d3 := (hb1.cell (p := ⟨gJ, oJ + k, none⟩) (lt_of_cell hjc')).trans hjc'
                          have d4 := free_at HS1.out.tr kk
                          obtain ⟨tk, htk⟩ : ∃ tk, T[kk]? = some tk := ⟨_, List.getElem?_eq_getElem (by rw [HS.out.tl]; exact hkn)⟩
                          have d5 := cell_at HS1.out.tr _ (nums_get htk)
                          have hs1 := hb1.size
                          clear htk
                          clear hlo hhi hb1 hp1 hjc' c1 c2 ci
                          go_wp2_with fail
                          go_region
                          obtain ⟨w2, hw2⟩ : ∃ w2, w2 = (w1.setCell ⟨w4.heap.size + 1, kk, none⟩ (.int .i64 (jk : Int))).drew := ⟨_, rfl⟩
                          have HS2 : Hid (St w4.heap.size n w4 (.slice (some ⟨gJ, oJ, none⟩) n cu) (T.set kk jk) L w2) := Lib.hid (by rw [hw2]; exact (HS1.out.setT kk jk).below (by simp; omega) (Below.refl _ _).drew)
                          have hib2 : w2.heap[bi]? = some (.cells #[.int .i64 (k : Int)] 3 (0, 0)) := by
                            rw [hw2]
                            show (w1.setCell ⟨w4.heap.size + 1, kk, none⟩ (.int .i64 (jk : Int))).heap[bi]? = _
                            rw [Below.heap_setCell _ _ _ _ (show bi ≠ w4.heap.size + 1 by omega)]
                            exact HIB1.out
                          rw [← hw2]
                          obtain ⟨lk, hlk⟩ : ∃ lk, L[k]? = some lk := ⟨_, List.getElem?_eq_getElem (by rw [HS.out.ll]; exact hlt)⟩
                          have g0 := cell_at (o := 0) hib2 (.int .i64 (k : Int)) rfl
                          have g1 := cell_at HS2.out.lr _ (nums_get hlk)
                          have g2 := free_at HS2.out.lr k
                          have HIB2 := Lib.hid hib2
                          have hbl := lt_of_heap hib2
                          have hne1 : ¬ bi = w4.heap.size + 3 := by omega
                          have hne2 : ¬ w4.heap.size + 3 = bi := by omega
                          clear hw2 hib2 hlk d0 d1 d2 d3 d4 d5
                          go_wp2_with fail
                          go_roundg (n - (k + 1))
                          case rel => exact L6_step hlt (by omega) HS2.out HP1.out
                          case measure => omega
                        · obtain rfl : n = k := by omega
                          have lc : Hid (∀ (i l : Nat), L[i]? = some l → wr.cell? ⟨w4.heap.size + 3, i, none⟩ = some (.int .i64 (l : Int))) := Lib.hid fun i l hl => cell_at HS.out.lr _ (nums_get hl)
                          clear c1 HIB
                          go_wp2_with fail
                          go_loop [28, 155] (fun kv i => L7 L kv i) (fun _ i => n - (intOf i).toNat)
                          case atStart => exact ⟨0, Nat.zero_le _, rfl, rfl⟩
                          case round =>
                            obtain ⟨j, hj, rfl, rfl⟩ := hrel
                            have hjn : j ≤ n := by have := HS.out.ll; omega
                            by_cases hlt2 : j < n
                            · obtain ⟨lj, hlj⟩ : ∃ lj, L[j]? = some lj := ⟨_, List.getElem?_eq_getElem (by rw [HS.out.ll]; exact hlt2)⟩
                              have cl := lc.out j lj hlj
                              have HLJ := Lib.hid hlj
                              have hlb : lj ≤ 1000000 := by
                                obtain ⟨c, h1, h2, _⟩ := HP.out.lab j hlt2
                                have h3 := HP.out.qi
                                rw [h1] at hlj
                                injection hlj with hlj
                                omega
                              obtain ⟨mx, hmx⟩ : ∃ mx, mx = maxL (L.take j) := ⟨_, rfl⟩
                              rw [← hmx]
                              have HMX := Lib.hid hmx
                              clear hlj hmx
                              by_cases hgt : mx < lj
                              · go_wp2_with fail
                                exact ⟨⟨j + 1, by have := HS.out.ll; omega, by go_num, by rw [maxL_step HLJ.out, ← HMX.out, Nat.max_eq_right (by omega)]⟩, by simp [intOf]; omega⟩
                              · go_wp2_with fail
                                exact ⟨⟨j + 1, by have := HS.out.ll; omega, by go_num, by rw [maxL_step HLJ.out, ← HMX.out, Nat.max_eq_left (by omega)]⟩, by simp [intOf]; omega⟩
                            · obtain rfl : n = j := by omega
                              have HTL : Hid (L.take n = L) := Lib.hid (List.take_of_length_le (by have := HS.out.ll; omega))
                              rw [HTL.out]
                              obtain ⟨K, hK⟩ : ∃ K, K = maxL L := ⟨_, rfl⟩
                              rw [← hK]
                              have HK : Hid ((∀ x ∈ L, x ≤ K) ∧ (0 < K → K ∈ L)) := Lib.hid (by rw [hK]; exact maxL_spec L)
                              have hKn : K ≤ n := by
                                rcases Nat.eq_zero_or_pos K with h0 | h0
                                · omega
                                · obtain ⟨i, hi⟩ := List.mem_iff_getElem?.1 (HK.out.2 h0)
                                  have hil := (List.getElem?_eq_some_iff.1 hi).1
                                  rw [HS.out.ll] at hil
                                  obtain ⟨c, h1, h2, _⟩ := HP.out.lab i hil
                                  have h3 := HP.out.qi
                                  rw [hi] at h1
                                  injection h1 with h1
                                  omega
                              obtain ⟨ip, hip, pz0, pz1, pz2⟩ := info_parts info_pair
                              obtain ⟨w7, hw7⟩ : ∃ w7, w7 = wr.alloc (.cells (nums (flat (List.replicate (K + 2) (0, 0)))).toArray 60) := ⟨_, rfl⟩
                              have hmp : (Instr.makeSlice 61 (.int .i64 (2 + (K : Int))) (.int .i64 (2 + (K : Int)))).run Tryd.prog wr = .ok (.slice (some ⟨wr.heap.size, 0, none⟩) (K + 2) (K + 2)) w7 := by
                                have := run_makeSlice (P := Tryd.prog) wr 61 60 ip _ Tryd.underlying61 hip pz0 .i64 .i64 (2 + (K : Int)) (2 + (K : Int)) (by omega) (by omega) (by rw [pz1]; omega) (by rw [pz2]; omega) (by omega)
                                rw [this, pz1, show (2 + (K : Int)).toNat = K + 2 by omega]
                                rw [show (Value.agg #[.int .i64 0, .int .i64 0]).cells = #[.int .i64 0, .int .i64 0] from rfl, pairs_made, hw7]
                              have hs7 : w7.heap[wr.heap.size]? = some (.cells (nums (flat (List.replicate (K + 2) (0, 0)))).toArray 60 (0, 0)) := by rw [hw7]; exact heap_new _ _ rfl
                              have hb7 : Below wr.heap.size wr w7 := by rw [hw7]; exact (Below.refl _ _).alloc (Nat.le_refl _) _
                              have HS7 := Lib.hid (HS.out.below (by omega) hb7)
                              have H7 := Lib.hid hs7
                              have hg7 := flat_get (M := List.replicate (K + 2) (0, 0)) (i := 1 + K) (m := (0, 0)) (by rw [List.getElem?_replicate, if_pos (by omega)])
                              have q0 : w7.cell? ⟨wr.heap.size, (1 + K) * 2, none⟩ = some (.int .i64 ((0 : Nat) : Int)) := cell_at hs7 _ (nums_get (by rw [Nat.mul_comm]; exact hg7.1))
                              have q1 : w7.cell? ⟨wr.heap.size, (1 + K) * 2 + 1, none⟩ = some (.int .i64 ((0 : Nat) : Int)) := cell_at hs7 _ (nums_get (by rw [Nat.mul_comm]; exact hg7.2))
                              have q2 := free_at hs7 ((1 + K) * 2)
                              have q3 := free_at hs7 ((1 + K) * 2 + 1)
                              have hSM : w4.heap.size + 4 ≤ wr.heap.size := hsz
                              obtain ⟨S, hS⟩ : ∃ S, S = wr.heap.size := ⟨_, rfl⟩
                              rw [← hS] at hmp H7 q0 q1 q2 q3 hSM
                              clear hw7 hs7 hb7 hg7 hS
                              clear hK hmk
                              go_wp2_with fail
                              obtain ⟨w8, hw8⟩ : ∃ w8, w8 = (w7.setCell ⟨S, (1 + K) * 2, none⟩ (.int .i64 (X.length : Int))).setCell ⟨S, (1 + K) * 2 + 1, none⟩ (.int .i64 (Y.length : Int)) := ⟨_, rfl⟩
                              have H8 : Hid (L8 J T L xi yi K S X.length Y.length w4.heap.size n w4 (.slice pu n cu) (.int .i64 (K : Int)) (.int .i64 ((n : Int) - 1)) w8) := Lib.hid (by rw [hw8]; exact L8_start hSM H7.out HS7.out)
                              rw [← hw8]
                              clear hw8 q0 q1 q2 q3 hmp
                              have IY2 : Hid (IS w4 (.slice pv m cv) yi) := Lib.hid (by have := IY.out; rwa [HVY.out] at this)
                              go_loopw [28, 33] (fun kv i wq => L8 J T L xi yi K S X.length Y.length w4.heap.size n w4 (.slice pu n cu) kv i wq) (fun _ i _ => (intOf i + 1).toNat)
                              case atStart => exact H8.out
                              case round =>
                                clear H8 H7 HS7
                                obtain ⟨i', k, ch, R, rfl, rfl, hi', h8, hst⟩ := hrel
                                have HQ := Lib.hid h8
                                have HST := Lib.hid hst
                                have hkb := h8.b.len
                                clear h8 hst
                                cases i' with
                                | zero =>
                                  obtain rfl : k = 0 := HQ.out.b.done HP.out HJN.out (fun h0 => by
                                    obtain ⟨i, hi⟩ := List.mem_iff_getElem?.1 (HK.out.2 h0)
                                    exact ⟨i, by have := (List.getElem?_eq_some_iff.1 hi).1; rw [HS.out.ll] at this; exact this, hi⟩)
                                  obtain ⟨g1, g2⟩ := flat_get HQ.out.first
                                  have z0 : wr.cell? ⟨S, 0, none⟩ = some (.int .i64 ((0 : Nat) : Int)) := cell_at HQ.out.s _ (nums_get g1)
                                  have z1 : wr.cell? ⟨S, 1, none⟩ = some (.int .i64 ((0 : Nat) : Int)) := cell_at HQ.out.s _ (nums_get g2)
                                  have z2 := free_at HQ.out.s 0
                                  have z3 := free_at HQ.out.s 1
                                  clear g1 g2
                                  go_wp2_with fail
                                  go_ret
                                  have hset : R.set 0 (0, 0) = R := by
                                    have h0 := HQ.out.first
                                    cases R with
                                    | nil => simp at h0
                                    | cons x R => simp at h0; subst h0; rfl
                                  have hfin := sq_set (i := 0) (a := 0) (b := 0) HQ.out.s
                                  rw [hset] at hfin
                                  refine ⟨R, _, rfl, ps_of HQ.out.len hfin, matches_of HXI.out HJJ.out HYI.out HQ.out, by rw [HQ.out.len]; exact opt_of HXI.out HJJ.out HNN.out HP.out HK.out.1, ?_⟩
                                  exact HB.out.trans (((HST.out.setS hSM _).setS hSM _).bl.mono HB.out.size)
                                | succ t =>
                                  have et : ((t + 1 : Nat) : Int) - 1 = (t : Int) := by omega
                                  rw [et]
                                  obtain ⟨lt, hlt'⟩ : ∃ lt, L[t]? = some lt := ⟨_, List.getElem?_eq_getElem (by rw [HS.out.ll]; omega)⟩
                                  obtain ⟨jt, hjt⟩ : ∃ jt, J[t]? = some jt := ⟨_, List.getElem?_eq_getElem (by rw [HJN.out]; omega)⟩
                                  have e0 := cell_at HST.out.lr _ (nums_get hlt')
                                  have e1 := cell_at (o := 0) HST.out.jb (.slice pu n cu) rfl
                                  obtain ⟨gJ, oJ, rfl, hjc⟩ := IJ.out.cell hjt
                                  have e2 := (HST.out.bl.cell (p := ⟨gJ, oJ + t, none⟩) (lt_of_cell hjc)).trans hjc
                                  have hjn := HJL.out t jt hjt
                                  have HLT := Lib.hid hlt'
                                  have HJT := Lib.hid hjt
                                  clear et hlt' hjt hjc
                                  by_cases hlk : lt = k
                                  · subst hlk
                                    obtain ⟨k', rfl⟩ : ∃ k', lt = k' + 1 := by
                                      obtain ⟨c, h1, _⟩ := HP.out.lab t hi'
                                      rw [HLT.out] at h1
                                      injection h1 with h1
                                      exact ⟨c, h1⟩
                                    obtain ⟨a, ha⟩ : ∃ a, xi[t]? = some a := ⟨_, List.getElem?_eq_getElem (by rw [← HNN.out]; exact hi')⟩
                                    obtain ⟨b, hb⟩ : ∃ b, yi[jt]? = some b := by
                                      have := HJT.out
                                      rw [HJJ.out] at this
                                      obtain ⟨_, s, _, _, _, _, h5, _⟩ := inv_at this
                                      exact ⟨_, by rw [HYI.out]; exact h5⟩
                                    obtain ⟨gx, ox, rfl, hxc⟩ := IX.out.cell ha
                                    obtain ⟨gy, oy, rfl, hyc⟩ := IY2.out.cell hb
                                    have e3 := (HST.out.bl.cell (p := ⟨gx, ox + t, none⟩) (lt_of_cell hxc)).trans hxc
                                    have e4 := (HST.out.bl.cell (p := ⟨gy, oy + jt, none⟩) (lt_of_cell hyc)).trans hyc
                                    have hjm : jt < m := by have := (List.getElem?_eq_some_iff.1 hb).1; rw [HYI.out, ← HMM.out] at this; exact this
                                    obtain ⟨rk, hrk⟩ : ∃ rk, R[k' + 1]? = some rk := ⟨_, List.getElem?_eq_getElem (by rw [HQ.out.len]; omega)⟩
                                    obtain ⟨g1, g2⟩ := flat_get hrk
                                    have z0 : wr.cell? ⟨S, (k' + 1) * 2, none⟩ = some (.int .i64 (rk.1 : Int)) := cell_at HQ.out.s _ (nums_get (by rw [Nat.mul_comm]; exact g1))
                                    have z1 : wr.cell? ⟨S, (k' + 1) * 2 + 1, none⟩ = some (.int .i64 (rk.2 : Int)) := cell_at HQ.out.s _ (nums_get (by rw [Nat.mul_comm]; exact g2))
                                    have z2 := free_at HQ.out.s ((k' + 1) * 2)
                                    have z3 := free_at HQ.out.s ((k' + 1) * 2 + 1)
                                    have HXA := Lib.hid ha
                                    have HYB := Lib.hid hb
                                    clear ha hb hxc hyc hrk g1 g2
                                    go_wp2_with fail
                                    go_region
                                    all_goals go_wp2_with fail
                                    all_goals exact ⟨L8_take hSM HP.out hi' HQ.out HST.out HLT.out HJT.out HXA.out HYB.out, by simp [intOf]⟩
                                  · have hne : ((lt : Int) == (k : Int)) = false := by simp; omega
                                    go_wp2_with fail
                                    exact ⟨L8_pass hi' HQ.out HST.out (by rw [HLT.out]; intro h; injection h with h; exact hlk h), by simp [intOf]⟩
end Go.Proofs.YtncjclmhdhimdaaDoor
