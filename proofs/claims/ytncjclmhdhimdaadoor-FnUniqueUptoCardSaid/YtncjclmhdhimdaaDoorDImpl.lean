/- The thin package's Diff: it copies both texts and calls the package's Diff. -/
import Derived.Test.YtncjclmhdhimdaaDoorDDiff
import Derived.Lib.ConvBytes
namespace Go.Proofs.YtncjclmhdhimdaaDoor
open Go.RowKit

/- a slice of bytes that has an address -/
def BA (w : World) (v : Value) (l : List UInt8) : Prop := ∃ g cap, v = .slice (some ⟨g, 0, none⟩) l.length cap ∧ ∀ j b, l[j]? = some b → w.cell? ⟨g, j, none⟩ = some (.int .u8 b.toNat)
theorem BA.below {w w' : World} {v : Value} {l : List UInt8} (h : BA w v l) (hb : Below w.heap.size w w') : BA w' v l := by
  obtain ⟨g, cap, hv, hc⟩ := h
  exact ⟨g, cap, hv, fun j b hj => (hb.cell (p := ⟨g, j, none⟩) (lt_of_cell (hc j b hj))).trans (hc j b hj)⟩
theorem BA.bs {w : World} {v : Value} {l : List UInt8} (h : BA w v l) : BS w v l := by
  obtain ⟨g, cap, hv, hc⟩ := h
  exact ⟨_, cap, hv, fun j b hj => ⟨g, 0, rfl, by rw [Nat.zero_add]; exact hc j b hj⟩⟩
theorem conv_ba (w : World) (l : List UInt8) : ∃ v w', (convert 9 37 (.string (mkB l))).run Tryd.prog w = .ok v w' ∧ BA w' v l ∧ Below w.heap.size w w' := by
  refine ⟨_, _, Lib.run_convert_string_bytes w 9 37 5 (mkB l) Tryd.underlying9 Tryd.underlying37 Tryd.underlying5, ⟨w.heap.size, _, by rw [mkB_size], fun j b hj => ?_⟩, ?_⟩
  · rw [Lib.bytesWorld_cell w 5 (mkB l) j (by rw [mkB_size]; exact (List.getElem?_eq_some_iff.1 hj).1), mkB_toList]
    simp [List.getD, hj]
  · exact ⟨rfl, rfl, rfl, by rw [Lib.bytesWorld_size]; omega, fun q hq => Lib.bytesWorld_at_old w _ _ q hq⟩
theorem info_byte : (Tryd.prog.info? 5).map (fun i => (i.zero, i.size, i.bytes)) = some (some (.int .u8 0), 1, 1) := by kernel_rfl
theorem byteCells_get {l : List UInt8} {j : Nat} {u : Value} (h : (Lib.byteCells l)[j]? = some u) : ∃ b, l[j]? = some b ∧ u = .int .u8 b.toNat := by
  unfold Lib.byteCells at h
  rw [List.getElem?_map] at h
  obtain ⟨b, hb, rfl⟩ := Option.map_eq_some_iff.1 h
  exact ⟨b, hb, rfl⟩

theorem row_empty (w : World) : (w.alloc (.cells #[] 5)).ownsRow w.heap.size 5 1 (.slice (some ⟨w.heap.size, 0, none⟩) 0 0) 0 [] := by
  have h := World.ownsRow_made (base := w.heap.size) (e := 5) (size := 1) w #[] 0 (by simp) (by unfold maxLen; omega) rfl
  simpa using h
theorem src_cells {w : World} {g : Nat} {l : List UInt8} {o : Obj} (h : ∀ (j : Nat) (b : UInt8), l[j]? = some b → w.cell? ⟨g, j, none⟩ = some (.int .u8 b.toNat)) : ∀ j u, (Lib.byteCells l)[j]? = some u → (w.alloc o).cell? ((⟨g, 0, none⟩ : Addr).add j) = some u := by
  intro j u hu
  obtain ⟨b, hb, rfl⟩ := byteCells_get hu
  rw [addr_plus, Nat.zero_add]
  exact (((Below.refl _ _).alloc (Nat.le_refl _) o).cell (p := ⟨g, j, none⟩) (lt_of_cell (h j b hb))).trans (h j b hb)
theorem made_bs {w w1 : World} {v1 : Value} {l : List UInt8} {o : Obj} (hown : w1.ownsRow w.heap.size 5 1 v1 (0 + l.length) ([] ++ Lib.byteCells l)) (hg : (w.alloc o).grownBy w1 (some w.heap.size)) : BS w1 v1 l ∧ Below w.heap.size w w1 :=
  ⟨BS.of_cells (by omega) hown, ((Below.refl _ _).alloc (Nat.le_refl _) o).grown hg (by simp) (fun q hq => by injection hq with hq; omega)⟩
set_option maxRecDepth 100000 in
set_option maxHeartbeats 2000000 in
theorem implD_any (o n : List UInt8) (va vb : Value) (a b : List UInt8) (w : World) (ha : BA w va a) (hb : BA w vb b) (ho : o.length ≤ 1048576) (hn : n.length ≤ 1048576) (hal : a.length ≤ 1048576) (hbl : b.length ≤ 1048576) (hX : (dl a).length ≤ 10000) (hY : (dl b).length ≤ 10000)
    (htab : Lib.TabIs Tryd.prog w "internal/strconv.uint64pow10" .u64 Lib.pow10Tab) : Calls Tryd.prog 21 #[.string (mkB o), va, .string (mkB n), vb] w (DiffPost o n a b w) := by
  obtain ⟨ga, ca, rfl, hca⟩ := ha
  obtain ⟨gb, cb, rfl, hcb⟩ := hb
  have HCA := Lib.hid hca
  have HCB := Lib.hid hcb
  have HT := Lib.hid htab
  clear hca hcb htab
  obtain ⟨j0, hi, hz0, hz1, hz2⟩ := info_parts info_byte
  have HR0 : Hid ((w.alloc (.cells #[] 5)).ownsRow w.heap.size 5 1 (.slice (some ⟨w.heap.size, 0, none⟩) 0 0) 0 []) := Lib.hid (row_empty w)
  have tok0 : True := trivial
  go_enter Tryd.func21, Tryd.ntmps21
  go_wp2_with (first
    | (at_builtin; have _t := tok0; refine wpList_append_own_at _ rfl _ _ 37 rfl w.heap.size 5 j0 _ 1 1 Tryd.underlying37 hi hz0 hz1 hz2 rfl (by decide) _ _ _ rfl HR0.out ⟨ga, 0, none⟩ a.length _ (Lib.byteCells a) rfl (by rw [Lib.byteCells_length]; omega) (src_cells HCA.out) (byteCells_one a) (by unfold maxLen; omega) (by omega) (by simp) ?_; intro v1 w1 hown1 hg1 _ hat1; have H1 : Hid (BS w1 v1 a ∧ Below w.heap.size w w1) := Lib.hid (made_bs hown1 hg1); have HR1 : Hid ((w1.alloc (.cells #[] 5)).ownsRow w1.heap.size 5 1 (.slice (some ⟨w1.heap.size, 0, none⟩) 0 0) 0 []) := Lib.hid (row_empty w1); have HCB1 : Hid (∀ (j : Nat) (c : UInt8), b[j]? = some c → w1.cell? ⟨gb, j, none⟩ = some (.int .u8 c.toNat)) := Lib.hid (fun j c hj => (H1.out.2.cell (p := ⟨gb, j, none⟩) (lt_of_cell (HCB.out j c hj))).trans (HCB.out j c hj)); clear hown1 hg1 hat1 _t tok0)
    | (at_builtin; refine wpList_append_own_at _ rfl _ _ 37 rfl w1.heap.size 5 j0 _ 1 1 Tryd.underlying37 hi hz0 hz1 hz2 rfl (by decide) _ _ _ rfl HR1.out ⟨gb, 0, none⟩ b.length _ (Lib.byteCells b) rfl (by rw [Lib.byteCells_length]; omega) (src_cells HCB1.out) (byteCells_one b) (by unfold maxLen; omega) (by omega) (by simp) ?_; intro v2 w2 hown2 hg2 _ hat2; have H2 : Hid (BS w2 v2 b ∧ Below w1.heap.size w1 w2) := Lib.hid (made_bs hown2 hg2); clear hown2 hg2 hat2))
  have hB2 : Below w.heap.size w w2 := H1.out.2.trans (H2.out.2.mono H1.out.2.size)
  refine (diff_any o n v1 v2 a b w2 (H1.out.1.below H2.out.2) H2.out.1 ho hn hal hbl hX hY (Lib.tabBelow_of_tabIs HT.out w2 hB2)).mono ?_
  rintro e w3 ⟨v, rfl, hb3, hp⟩
  have HB3 : Hid (Below w.heap.size w w3) := Lib.hid (hB2.trans (hb3.mono hB2.size))
  have HP := Lib.hid hp
  clear hb3 hp hB2
  go_wp2_with fail
  go_ret
  exact ⟨v, rfl, HB3.out, HP.out⟩
end Go.Proofs.YtncjclmhdhimdaaDoor
