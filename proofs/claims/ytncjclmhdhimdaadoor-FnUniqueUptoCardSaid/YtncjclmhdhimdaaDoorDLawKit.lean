/- What the laws on hunks read in memory. -/
import Derived.Test.YtncjclmhdhimdaaDoorDReadLaw
import Derived.Test.YtncjclmhdhimdaaDoorDShort
import Derived.Deep.QuietTactic
import Derived.BigQuiet
namespace Go.Proofs.YtncjclmhdhimdaaDoor
open Go.RowKit

theorem str_ne2 {a b : List UInt8} (h : a ≠ b) : ((mkB a).toList == (mkB b).toList) = false := by
  rw [ByteArray.toList_eq, ByteArray.toList_eq, mkB_toList, mkB_toList]
  exact beq_eq_false_iff_ne.2 h
theorem hcells_get : ∀ {cs : List Hk} {us : List Value} {k : Nat} {c : Hk} {u : Value}, cs[k]? = some c → us[k]? = some u → (hcells cs us)[k * 3]? = some (.int .i64 (c.x : Int)) ∧ (hcells cs us)[k * 3 + 1]? = some (.int .i64 (c.y : Int)) ∧ (hcells cs us)[k * 3 + 2]? = some u := by
  intro cs
  induction cs with
  | nil => intro us k c u h; simp at h
  | cons d cs ih =>
    intro us k c u h1 h2
    cases us with
    | nil => simp at h2
    | cons z us =>
      have he : hcells (d :: cs) (z :: us) = [.int .i64 (d.x : Int), .int .i64 (d.y : Int), z] ++ hcells cs us := by simp [hcells]
      rw [he]
      cases k with
      | zero =>
        simp at h1 h2
        subst h1 h2
        exact ⟨rfl, rfl, rfl⟩
      | succ k =>
        rw [List.getElem?_cons_succ] at h1 h2
        obtain ⟨a1, a2, a3⟩ := ih h1 h2
        rw [List.getElem?_append_right (by simp; omega), List.getElem?_append_right (by simp; omega), List.getElem?_append_right (by simp; omega)]
        refine ⟨by rw [← a1]; congr 1; simp; omega, by rw [← a2]; congr 1; simp; omega, by rw [← a3]; congr 1; simp; omega⟩
/- a hunk's cells, and its lines -/
theorem HRow.get {w : World} {B cap : Nat} {pv : Option Addr} {cs : List Hk} {us : List Value} (h : HRow w B (.slice pv cs.length cap) cs us) {k : Nat} {c : Hk} (hk : cs[k]? = some c) :
    ∃ g pu cu, pv = some ⟨g, 0, none⟩ ∧ w.cell? ⟨g, k * 3, none⟩ = some (.int .i64 (c.x : Int)) ∧ w.cell? ⟨g, k * 3 + 1, none⟩ = some (.int .i64 (c.y : Int)) ∧ w.cell? ⟨g, k * 3 + 2, none⟩ = some (.slice pu c.ops.length cu) ∧
      ∀ j o, c.ops[j]? = some o → ∃ gu, pu = some ⟨gu, 0, none⟩ ∧ w.cell? ⟨gu, j, none⟩ = some (.string (mkB (o.1 :: o.2))) := by
  have hkl := (List.getElem?_eq_some_iff.1 hk).1
  obtain ⟨u, hu⟩ : ∃ u, us[k]? = some u := ⟨_, List.getElem?_eq_getElem (by rw [h.len]; exact hkl)⟩
  obtain ⟨g, rfl, _, _, hc⟩ := ownsRow_at h.row (by omega)
  obtain ⟨a1, a2, a3⟩ := hcells_get hk hu
  have hl := h.lines k c u hk hu
  obtain ⟨pu, cu, rfl⟩ := ownsRow_slice hl
  refine ⟨g, pu, cu, rfl, hc _ _ a1, hc _ _ a2, hc _ _ a3, fun j o ho => ?_⟩
  have hjl := (List.getElem?_eq_some_iff.1 ho).1
  obtain ⟨gu, rfl, _, _, hcu⟩ := ownsRow_at hl (by omega)
  exact ⟨gu, rfl, hcu _ _ (cts_get ho)⟩
theorem hk_new (w : World) (x y : Nat) (u : Value) : (w.alloc (.cells #[.int .i64 (x : Int), .int .i64 (y : Int), u] 28)).heap[w.heap.size]? = some (.cells #[.int .i64 (x : Int), .int .i64 (y : Int), u] 28 (0, 0)) := heap_new _ _ rfl
theorem DAll.signs {a b : List UInt8} {cs : List Hk} {F : Sc (List UInt8)} (h : DAll a b cs F) {c : Hk} (hc : c ∈ cs) {o : UInt8 × List UInt8} (ho : o ∈ c.ops) : o.1 = 32 ∨ o.1 = 45 ∨ o.1 = 43 := h.good.path.signs o (h.good.cov.mem c hc o ho)
theorem sign_get (o : UInt8 × List UInt8) (h : 0 < (mkB (o.1 :: o.2)).size) : (mkB (o.1 :: o.2))[0] = o.1 := rfl
theorem sign_size (o : UInt8 × List UInt8) : (mkB (o.1 :: o.2)).size = o.2.length + 1 := by rw [mkB_size]; rfl
theorem cX_take {F : Sc (List UInt8)} {j : Nat} {o : UInt8 × List UInt8} (h : F[j]? = some o) : cX (F.take (j + 1)) = cX (F.take j) + if o.1 = 43 then 0 else 1 := by
  rw [List.take_add_one, h, cX_app]
  show cX (F.take j) + cX [o] = _
  rw [cX_cons, cX_nil, Nat.zero_add]
theorem cY_take {F : Sc (List UInt8)} {j : Nat} {o : UInt8 × List UInt8} (h : F[j]? = some o) : cY (F.take (j + 1)) = cY (F.take j) + if o.1 = 45 then 0 else 1 := by
  rw [List.take_add_one, h, cY_app]
  show cY (F.take j) + cY [o] = _
  rw [cY_cons, cY_nil, Nat.zero_add]
end Go.Proofs.YtncjclmhdhimdaaDoor
