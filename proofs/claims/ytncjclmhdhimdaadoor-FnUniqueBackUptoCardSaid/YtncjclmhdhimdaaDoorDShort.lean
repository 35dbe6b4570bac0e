/- laws.short: whether two texts are not too long. -/
import Derived.Test.YtncjclmhdhimdaaDoorDLines
namespace Go.Proofs.YtncjclmhdhimdaaDoor
open Go.RowKit

def Short (a b : List UInt8) : Prop := (lns a).length ≤ 400 ∧ (lns b).length ≤ 400 ∧ a.length + b.length < 1048576
def ShortPost (a b : List UInt8) (w : World) (en : Ending) (w' : World) : Prop := ∃ r, en = .returned (.bool r) ∧ Below w.heap.size w w' ∧ (r = true ↔ Short a b)
set_option maxRecDepth 100000 in
set_option maxHeartbeats 2000000 in
theorem short_any (a b : List UInt8) (w : World) (ha : a.length ≤ 1099511627776) (hb : b.length ≤ 1099511627776) : Calls Tryd.prog 14 #[.string (mkB a), .string (mkB b)] w (ShortPost a b w) := by
  have Z1 := Lib.hid (mkB_size a)
  have Z2 := Lib.hid (mkB_size b)
  go_enter Tryd.func14, Tryd.ntmps14
  go_wp2_with fail
  refine (lines_any (mkB a) w (by rw [mkB_size]; exact ha)).mono ?_
  rw [mkB_toList]
  rintro e1 w1 ⟨v, rfl, hrow, hb1⟩
  obtain ⟨p, c, rfl⟩ := ownsRow_slice hrow
  have HB1 := Lib.hid hb1
  obtain ⟨n1, hn1⟩ : ∃ n, n = (lns a).length := ⟨_, rfl⟩
  have hl1 := lns_len a
  rw [← hn1] at hl1 ⊢
  have HN1 := Lib.hid hn1
  clear hrow hb1 hn1
  by_cases h1 : n1 ≤ 400
  · go_wp2_with fail
    refine (lines_any (mkB b) w1 (by rw [mkB_size]; exact hb)).mono ?_
    rw [mkB_toList]
    rintro e1 w2 ⟨v, rfl, hrow, hb2⟩
    obtain ⟨p2, c2, rfl⟩ := ownsRow_slice hrow
    have HB2 : Hid (Below w.heap.size w w2) := Lib.hid (HB1.out.trans (hb2.mono HB1.out.size))
    obtain ⟨n2, hn2⟩ : ∃ n, n = (lns b).length := ⟨_, rfl⟩
    have hl2 := lns_len b
    rw [← hn2] at hl2 ⊢
    have HN2 := Lib.hid hn2
    clear hrow hb2 hn2
    by_cases h2 : n2 ≤ 400
    · have hla := Lib.hid ha
      have hlb := Lib.hid hb
      clear ha hb hl1 hl2
      go_wp2_with fail
      go_ret
      refine ⟨_, rfl, HB2.out, ?_⟩
      have y1 := hla.out
      have y2 := hlb.out
      rw [decide_eq_true_iff, Z1.out, Z2.out]
      unfold Short wrap64
      rw [← HN1.out, ← HN2.out]
      omega
    · go_wp2_with fail
      go_ret
      exact ⟨_, rfl, HB2.out, ⟨fun h => (by cases h), fun h => absurd h.2.1 (by rw [← HN2.out]; exact h2)⟩⟩
  · go_wp2_with fail
    go_ret
    exact ⟨_, rfl, HB1.out, ⟨fun h => (by cases h), fun h => absurd h.1 (by rw [← HN1.out]; exact h1)⟩⟩
end Go.Proofs.YtncjclmhdhimdaaDoor
