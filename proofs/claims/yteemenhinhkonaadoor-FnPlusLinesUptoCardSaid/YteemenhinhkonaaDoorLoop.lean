/- Small lemmas on lists of choices that the walks over them use. -/
import Derived.Test.YteemenhinhkonaaDoorProg
import Derived.Test.YteemenhinhkonaaDoorForm
import Derived.Test.YteemenhinhkonaaDoorChoices
import Derived.Test.YteemenhinhkonaaDoorImplEval
namespace Go.Proofs.YteemenhinhkonaaDoor
open Go.RowKit

theorem LL.cellsAt {w : World} {v : Value} {cs : List (List ByteArray)} (h : LL w v cs) : ∃ a cap, v = .slice a cs.length cap ∧ ∀ i c, cs[i]? = some c → ∃ b u, a = some ⟨b, 0, none⟩ ∧ w.cell? ⟨b, i, none⟩ = some u ∧ (∃ g cu, u = .slice (some ⟨g, 0, none⟩) c.length cu) ∧ (c.length ≤ 140737488355328 → SS w u c) := by
  obtain ⟨vals, base, ho, hl⟩ := h
  obtain ⟨p, cap, rfl⟩ := ownsRow_slice ho
  refine ⟨p, cap, rfl, fun i c hc => ?_⟩
  have hi : i < cs.length := (List.getElem?_eq_some_iff.1 hc).1
  obtain ⟨g, rfl, _, _, hcell⟩ := ownsRow_at ho (by omega)
  obtain ⟨u, hu⟩ : ∃ u, vals[i]? = some u := ⟨_, List.getElem?_eq_getElem (by have := hl.1; omega)⟩
  obtain ⟨hform, hrow⟩ := hl.2 i u c hu hc
  exact ⟨g, u, rfl, hcell i u hu, hform, fun h => SS.of_row hrow h⟩

def LoopB (n : Nat) (w : World) (i : Value) (wr : World) : Prop := ∃ k : Nat, k ≤ n ∧ i = .int .i64 k ∧ Below w.heap.size w wr
end Go.Proofs.YteemenhinhkonaaDoor
