/- What the laws on Apply need: its premises out of a good diff. -/
import Derived.Test.YtncjclmhdhimdaaDoorDApply
namespace Go.Proofs.YtncjclmhdhimdaaDoor
open Go.RowKit

theorem ls_row {w : World} {B : Nat} {p : Option Addr} {c : Nat} {L : List (List UInt8)} (h : w.ownsRow B 9 1 (.slice p L.length c) L.length (strs L)) : LS w (.slice p L.length c) L := by
  refine ⟨p, c, rfl, fun i t ht => ?_⟩
  have hl := (List.getElem?_eq_some_iff.1 ht).1
  obtain ⟨g, rfl, _, _, hc⟩ := ownsRow_at h (by omega)
  exact ⟨g, 0, rfl, by rw [Nat.zero_add]; exact hc i _ (by simp [strs, List.getElem?_map, ht])⟩
theorem apc_of {a b : List UInt8} {cs : List Hk} {F : Sc (List UInt8)} (h : DGood (lns a) (lns b) cs F) (ha : (lns a).length ≤ 10000) (hb : (lns b).length ≤ 10000) (hal : a.length ≤ 1048577) (hbl : b.length ≤ 1048577) {w : World} {p : Option Addr} {c : Nat} (hr : LS w (.slice p (lns a).length c) (lns a)) : APc (lns a) (lns b) F w p c := by
  refine ⟨hr, h.path, ha, hb, fun o ho => ?_⟩
  rcases h.path.mem o ho with h1 | h1
  · have := lns_short h1; omega
  · have := lns_short h1; omega
theorem lns_small {a : List UInt8} (ha : a.length ≤ 1048577) : ∀ t ∈ lns a, t.length ≤ 1099511627776 := fun t ht => by have := lns_short ht; omega
end Go.Proofs.YtncjclmhdhimdaaDoor
