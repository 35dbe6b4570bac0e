/- spec.Read, in the form that a law with two lines wants. -/
import Derived.Test.YteemenhinhkonaaDoorProg
import Derived.Test.YteemenhinhkonaaDoorRead
import Derived.Test.YteemenhinhkonaaDoorImplText
import Derived.Test.YteemenhinhkonaaDoorBridge
namespace Go.Proofs.YteemenhinhkonaaDoor
open Go.RowKit

def RdP2 (s : ByteArray) (w : World) (en : Ending) (w' : World) : Prop := Below w.heap.size w w' ∧ ∃ k t a n cap st, en = .returned (.tuple #[.agg #[.int .i64 k, .string t, .slice a n cap], .int .i64 st]) ∧
  (st = 1 → ∃ x m, k = x.kind ∧ n = x.arity ∧ XIs (fun _ => True) w' x (.int .i64 k) (.string t) (.slice a n cap) ∧ x.leaves ≤ s.size + 1 ∧ Rd m s.data.toList x ∧ s.data.toList.all plainB = true)
theorem read2 (s : ByteArray) (w : World) (hs : s.size ≤ 1152921504606846976) : Calls Tryd.prog 14 #[.string s] w (RdP2 s w) := by
  refine (read_any s w hs).mono ?_
  rintro e1 w1 ⟨hg1, hrd⟩
  refine ⟨below_of_grown hg1, ?_⟩
  rcases hrd with ⟨-, rfl⟩ | ⟨hok, x, c0, c1, c2, st, rfl, hx, hlv, hsp⟩
  · exact ⟨0, _, none, 0, 0, 0, rfl, fun h => by omega⟩
  · obtain ⟨sx, ax, cx, rfl, rfl, rfl, -⟩ := hx.form
    refine ⟨x.kind, sx, ax, x.arity, cx, st, rfl, fun h => ?_⟩
    subst h
    rcases hsp with ⟨_, n, h⟩ | ⟨h, _⟩ | ⟨h, _⟩
    · exact ⟨x, n, rfl, rfl, hx.any, hlv, h, textOk_plain hok⟩
    · omega
    · omega
end Go.Proofs.YteemenhinhkonaaDoor
