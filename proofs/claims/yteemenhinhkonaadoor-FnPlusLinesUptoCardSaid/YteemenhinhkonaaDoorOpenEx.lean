/- From the reading of an argument of type impl.Expr to the expression that it reads as. -/
import Derived.Test.YteemenhinhkonaaDoorProg
import Derived.Test.YteemenhinhkonaaDoorBase
import Derived.ProofKit
import Derived.Lib.SmallJoins
import Derived.Deep.Slices
import Derived.SizedLaws
namespace Go.Proofs.YteemenhinhkonaaDoor
open Go.ChangeShapes Go.WideShapes Go.ChangeAt Go.RowKit Go.Deep Go.Joins

theorem EIs.deeper {S : Nat → Prop} {w : World} {n : Nat} : ∀ {m : Nat} {e : E} {c0 c1 c2 : Value}, n ≤ m → EIs S w n e c0 c1 c2 → EIs S w m e c0 c1 c2 := by
  induction n with
  | zero => intro m e c0 c1 c2 _ h; exact h.elim
  | succ n ih =>
    intro m e c0 c1 c2 hm h
    obtain ⟨k, rfl⟩ : ∃ k, m = k + 1 := ⟨m - 1, by omega⟩
    obtain ⟨h0, k0, k1, h1, ht, a, cap, h2, hl, hs⟩ := h
    refine ⟨h0, k0, k1, h1, ht, a, cap, h2, hl, fun i x hx => ?_⟩
    obtain ⟨b, off, x0, x1, x2, ha, hS, g0, g1, g2, hx'⟩ := hs i x hx
    exact ⟨b, off, x0, x1, x2, ha, hS, g0, g1, g2, ih (by omega) hx'⟩
theorem choose_list {α : Type} {Q : Nat → α → Prop} : ∀ n : Nat, (∀ i, i < n → ∃ x, Q i x) → ∃ l : List α, l.length = n ∧ ∀ i x, l[i]? = some x → Q i x := by
  intro n
  induction n with
  | zero => intro _; exact ⟨[], rfl, fun i x h => by simp at h⟩
  | succ n ih =>
    intro h
    obtain ⟨l, hl, hq⟩ := ih fun i hi => h i (by omega)
    obtain ⟨x, hx⟩ := h n (by omega)
    refine ⟨l ++ [x], by simp [hl], fun i y hy => ?_⟩
    by_cases hi : i < l.length
    · rw [List.getElem?_append_left hi] at hy
      exact hq i y hy
    · rw [List.getElem?_append_right (by omega)] at hy
      have h0 : i - l.length = 0 := by
        have := (List.getElem?_eq_some_iff.1 hy).1
        simp at this
        omega
      rw [h0] at hy
      simp at hy
      subst hy
      obtain rfl : i = n := by omega
      exact hx
theorem weightsAll_mem {H : Type} {P : Program} {t : TypeId} : ∀ {l : List (DataW H)} {d : DataW H}, d ∈ l → ∀ k ∈ d.weights P t, k ∈ DataW.weightsAll P t l := by
  intro l
  induction l with
  | nil => intro d h; cases h
  | cons x l ih =>
    intro d h k hk
    simp only [DataW.weightsAll, List.mem_append]
    rcases List.mem_cons.1 h with rfl | h
    · exact .inl hk
    · exact .inr (ih h k hk)
theorem addr_add (b off i : Nat) : (⟨b, off, none⟩ : Addr).add i = ⟨b, off + i, none⟩ := by
  unfold Addr.add
  split
  · rename_i h; subst h; rfl
  · rfl
theorem addr_of_cell {w : World} {a : Addr} {k : Nat} {v : Value} (h : w.cell? (a.add k) = some v) (hk : 0 < k ∨ a.spot = none) : w.cell? ⟨a.block, a.off + k, none⟩ = some v := by
  rcases Nat.eq_zero_or_pos k with rfl | hp
  · rcases hk with hk | hk
    · omega
    · obtain ⟨b, o, s⟩ := a
      simp at hk
      subst hk
      simpa [Addr.add] using h
  · have : a.add k = ⟨a.block, a.off + k, none⟩ := by unfold Addr.add; rw [if_neg (by omega)]
    rwa [this] at h
theorem spot_of_cell {w : World} {a : Addr} {v : Value} (h : w.cell? a = some v) : a.spot = none := by
  unfold World.cell? at h
  split at h
  · split at h
    · cases h
    · rename_i hs
      cases hsp : a.spot with
      | none => rfl
      | some x => simp [hsp] at hs
  · cases h

theorem agg_of_cells {v c0 c1 c2 : Value} (h : v.cells.toList = [c0, c1, c2]) : v = .agg #[c0, c1, c2] := by
  cases v <;> simp [Value.cells] at h
  rename_i cs
  obtain ⟨l⟩ := cs
  simp at h
  rw [h]

theorem cells_impl : Tryd.prog.cellsOf 29 = 3 := by kernel_rfl
theorem cells_int : Tryd.prog.cellsOf 3 = 1 := by kernel_rfl
theorem cells_str : Tryd.prog.cellsOf 9 = 1 := by kernel_rfl
theorem cells_subs : Tryd.prog.cellsOf 27 = 1 := by kernel_rfl
theorem bytes_impl : Tryd.prog.bytesOf 29 = 48 := by kernel_rfl

set_option maxRecDepth 1000000 in
theorem EIs_of_trod {H : Type} {enc : TypeId × Value → H} {w : World} {spare : Nat → Bool} {held : Bool} (N : Nat) : ∀ (fuel : Nat), fuel ≤ N → ∀ (cs : List Value) (x : DataW H × List MemPlace),
    DataW.trod enc Tryd.prog w 0 spare held fuel 29 cs = some x → (∀ k ∈ x.1.weights Tryd.prog 29, k ≤ reachBytes) → ∃ c0 c1 c2 e, cs = [c0, c1, c2] ∧ EIs (fun _ => True) w fuel e c0 c1 c2 := by
  induction N with
  | zero =>
    intro fuel hf cs x h
    obtain rfl : fuel = 0 := by omega
    simp [DataW.trod] at h
  | succ N ih =>
    intro fuel hf cs x h hw
    obtain ⟨xs, n, rfl, rfl, hlen, hxl, hfields⟩ := DataW.trod_struct Tryd.underlying29 h
    rw [cells_impl] at hlen
    obtain ⟨c0, c1, c2, rfl⟩ : ∃ c0 c1 c2, cs = [c0, c1, c2] := by
      match cs, hlen with
      | [c0, c1, c2], _ => exact ⟨c0, c1, c2, rfl⟩
    obtain ⟨y0, y1, y2, rfl⟩ : ∃ y0 y1 y2, xs = [y0, y1, y2] := by
      match xs, hxl with
      | [y0, y1, y2], _ => exact ⟨y0, y1, y2, rfl⟩
    have f0 := hfields 0 _ rfl
    have f1 := hfields 1 _ rfl
    have f2 := hfields 2 _ rfl
    simp [cells_int, cells_str, cells_subs] at f0 f1 f2
    obtain ⟨k, hk, hy0, hkw⟩ := DataW.trod_int Tryd.underlying3 f0
    obtain ⟨t, ht, hy1, hts⟩ := DataW.trod_string Tryd.underlying9 f1
    simp at hk ht
    subst hk ht
    simp only [DataW.weights, Tryd.underlying29, List.map_cons, List.map_nil, DataW.weightsEach, List.mem_append, hy0, hy1] at hw
    have htl : t.size ≤ 1152921504606846976 := by
      have := hw t.data.toList.length (by simp)
      unfold reachBytes at this
      simp at this
      exact Nat.le_trans this (by omega)
    have hkb : -9223372036854775808 ≤ k ∧ k ≤ 9223372036854775807 := by simpa [Lit.wf, IntKind.min, IntKind.max, IntKind.signed, IntKind.bits] using hkw
    refine ⟨.int .i64 k, .string t, c2, ?_⟩
    rcases DataW.trod_slice Tryd.underlying27 f2 with ⟨hc2, hy2⟩ | ⟨a, len, cap, elems, rest, n', hn', hc2, hy2, hb, hl, hm, hel, helems, -⟩
    · simp at hc2
      subst hc2
      exact ⟨.mk k t [], rfl, rfl, hkb.1, hkb.2, rfl, htl, none, 0, rfl, by simp [E.subs], fun i x hx => by simp [E.subs] at hx⟩
    · simp at hc2
      subst hc2 hn'
      have hw2 : ∀ q ∈ DataW.weights Tryd.prog 27 y2.1, q ≤ reachBytes := fun q hq => hw q (by simp [hq])
      rw [hy2] at hw2
      simp only [DataW.weights, Tryd.underlying27, List.length_map, bytes_impl] at hw2
      have hbound : len * 48 ≤ 140737488355328 := by
        have := hw2 _ (List.mem_cons_self ..)
        unfold reachBytes at this
        rw [hel] at this
        have h2 : len * 48 ≤ (len + rest.length) * 48 := Nat.mul_le_mul_right _ (by omega)
        omega
      have hspot : 0 < len → a.spot = none := by
        intro h0
        have h1 := helems 0 h0
        have hei : elems[0]? = some (elems[0]'(by omega)) := List.getElem?_eq_getElem (by omega)
        rw [hei] at h1
        cases hcells : w.cells? 0 (a.add (0 * Tryd.prog.cellsOf 29)) (Tryd.prog.cellsOf 29) with
        | none => rw [hcells] at h1; simp at h1
        | some cs' =>
          rw [hcells] at h1
          obtain ⟨_, hl', hat⟩ := World.cells?_some hcells
          rw [cells_impl] at hat hl'
          have g0 := hat 0 (by omega)
          rw [List.getElem?_eq_getElem (by omega)] at g0
          have := spot_of_cell g0
          simpa [Addr.add] using this
      have each : ∀ i, i < len → ∃ ex : E, ∃ b off x0 x1 x2, some a = some ⟨b, off, none⟩ ∧ w.cell? ⟨b, off + i * 3, none⟩ = some x0 ∧ w.cell? ⟨b, off + i * 3 + 1, none⟩ = some x1 ∧ w.cell? ⟨b, off + i * 3 + 2, none⟩ = some x2 ∧ EIs (fun _ => True) w (n' + 1) ex x0 x1 x2 := by
        intro i hi
        have h1 := helems i hi
        have hei : elems[i]? = some (elems[i]'(by omega)) := List.getElem?_eq_getElem (by omega)
        rw [hei] at h1
        cases hcells : w.cells? 0 (a.add (i * Tryd.prog.cellsOf 29)) (Tryd.prog.cellsOf 29) with
        | none => rw [hcells] at h1; simp at h1
        | some cs' =>
          rw [hcells] at h1
          simp only [Option.bind_some] at h1
          have hwi : ∀ q ∈ DataW.weights Tryd.prog 29 (elems[i]'(by omega)).1, q ≤ reachBytes := fun q hq => hw2 q (List.mem_cons_of_mem _ (List.mem_append.2 (.inl (weightsAll_mem (List.mem_map.2 ⟨_, List.getElem_mem _, rfl⟩) q hq))))
          obtain ⟨x0, x1, x2, ex, rfl, hE⟩ := ih n' (by omega) cs' _ h1 hwi
          obtain ⟨_, _, hat⟩ := World.cells?_some hcells
          rw [cells_impl] at hat
          have g0 := hat 0 (by omega)
          have g1 := hat 1 (by omega)
          have g2 := hat 2 (by omega)
          simp at g0 g1 g2
          have e0 : a.spot = none := hspot (by omega)
          obtain ⟨b, off, s⟩ := a
          simp at e0
          subst e0
          rw [addr_add] at g0 g1 g2
          rw [addr_add] at g0 g1 g2
          exact ⟨ex, b, off, x0, x1, x2, rfl, by simpa using g0, g1, g2, hE.deeper (by omega)⟩
      obtain ⟨l, hll, hq⟩ := choose_list len each
      refine ⟨.mk k t l, rfl, rfl, hkb.1, hkb.2, rfl, htl, some a, cap, by rw [E.subs, hll], by rw [E.subs, hll]; exact hbound, fun i x hx => ?_⟩
      obtain ⟨b, off, x0, x1, x2, ha, g0, g1, g2, hE⟩ := hq i x hx
      exact ⟨b, off, x0, x1, x2, ha, trivial, g0, g1, g2, hE⟩
end Go.Proofs.YteemenhinhkonaaDoor
