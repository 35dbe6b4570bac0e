/- laws.read: the hunks of the diff of two texts that are not the same. -/
import Derived.Test.YtncjclmhdhimdaaDoorDImpl
import Derived.Test.YtncjclmhdhimdaaDoorDReadDiff
import Derived.Test.YtncjclmhdhimdaaDoorDGood
namespace Go.Proofs.YtncjclmhdhimdaaDoor
open Go.RowKit

def ReadPost (a b : List UInt8) (w : World) (e : Ending) (w' : World) : Prop :=
  ∃ v us B cs F, e = .returned (.tuple #[v, .bool true]) ∧ HRow w' B v cs us ∧ Below w.heap.size w w' ∧ DAll a b cs F
theorem path_bound {a b : List UInt8} {cs : List Hk} {F : Sc (List UInt8)} (h : DGood (lns a) (lns b) cs F) (ha : (lns a).length ≤ 10000) (hb : (lns b).length ≤ 10000) : F.length ≤ 20000 := by
  have h1 := ops_len h.path
  obtain ⟨e1, e2⟩ := h.path.ends
  omega
theorem lns_short {l x : List UInt8} (h : x ∈ lns l) : x.length ≤ l.length := by
  have := len_flatten h
  rw [lns_flat] at this
  exact this
theorem ck_ok {a b : List UInt8} {cs : List Hk} {F : Sc (List UInt8)} (h : DAll a b cs F) (ha : (lns a).length ≤ 10000) (hb : (lns b).length ≤ 10000) (hal : a.length ≤ 1048576) (hbl : b.length ≤ 1048576) : (∀ c ∈ cs, CkOk c) ∧ cs.length ≤ 20000 := by
  have hF := path_bound h.good ha hb
  obtain ⟨c1, c2⟩ := cov_sum h.good.cov
  have sub : ∀ (cs : List (Ck (List UInt8))) (c : Ck (List UInt8)), c ∈ cs → c.ops.length ≤ (cs.map fun c => c.ops.length).sum := by
    intro cs
    induction cs with
    | nil => intro c hc; cases hc
    | cons d cs ih =>
      intro c hc
      rw [List.map_cons, List.sum_cons]
      rcases List.mem_cons.1 hc with rfl | hc
      · omega
      · have := ih c hc; omega
  have cnt : ∀ (cs : List (Ck (List UInt8))), (∀ c ∈ cs, 0 < c.ops.length) → cs.length ≤ (cs.map fun c => c.ops.length).sum := by
    intro cs
    induction cs with
    | nil => intro _; simp
    | cons d cs ih =>
      intro hp
      have := ih fun c hc => hp c (List.mem_cons_of_mem _ hc)
      have := hp d (List.mem_cons_self ..)
      rw [List.map_cons, List.sum_cons, List.length_cons]
      omega
  refine ⟨fun c hc => ?_, ?_⟩
  · have hs := sub cs c hc
    have hxy := c2 c hc
    refine ⟨by omega, by omega, by omega, fun p hp => ?_⟩
    have hm := h.good.cov.mem c hc p hp
    refine ⟨⟨h.good.path.signs p hm, ?_⟩, ?_⟩
    · rcases h.good.path.mem p hm with h1 | h1 <;> exact lns_line h1
    · rcases h.good.path.mem p hm with h1 | h1
      · have := lns_short h1; omega
      · have := lns_short h1; omega
  · have := cnt cs fun c hc => touched_pos (h.out c hc)
    omega
/- the diff's text is no longer than a machine bears -/
theorem diff_text_len {o n a b : List UInt8} {M : List (Nat × Nat)} {cs : List Hk} {F : Sc (List UInt8)} (h : DFin (dl a) (dl b) M cs F) (ha : (dl a).length ≤ 10000) (hb : (dl b).length ≤ 10000) (hal : a.length ≤ 1048576) (hbl : b.length ≤ 1048576) (ho : o.length ≤ 1048576) (hn : n.length ≤ 1048576) : (hdr o n ++ (cs.map ckText).flatten).length ≤ 1000000000000 := by
  have h1 := ops_len h.path
  obtain ⟨e1, e2⟩ := h.path.ends
  obtain ⟨c1, c2⟩ := cov_sum h.cov
  have sub : ∀ (cs : List (Ck (List UInt8))) (c : Ck (List UInt8)), c ∈ cs → c.ops.length ≤ (cs.map fun c => c.ops.length).sum := by
    intro cs
    induction cs with
    | nil => intro c hc; cases hc
    | cons d cs ih =>
      intro c hc
      rw [List.map_cons, List.sum_cons]
      rcases List.mem_cons.1 hc with rfl | hc
      · omega
      · have := ih c hc; omega
  have := text_len (cs := cs) fun c hc => ⟨touched_pos (h.out c hc), by have := (c2 c hc).1; omega, by have := (c2 c hc).2; omega, by have := sub cs c hc; omega, fun p hp => by
    rcases h.path.mem p (h.cov.mem c hc p hp) with h3 | h3
    · have := dl_short h3; omega
    · have := dl_short h3; omega⟩
  rw [List.length_append]
  have h4 : (hdr o n).length ≤ 10000000 := by
    unfold hdr hdr1 hdr2 hdr3
    simp only [List.length_append, List.length_cons, List.length_nil]
    omega
  omega
set_option maxRecDepth 100000 in
set_option maxHeartbeats 2000000 in
theorem read_any (a b : List UInt8) (w : World) (hne : a ≠ b) (hal : a.length ≤ 1048576) (hbl : b.length ≤ 1048576) (hX : (lns a).length ≤ 10000) (hY : (lns b).length ≤ 10000) (htab : Lib.TabIs Tryd.prog w "internal/strconv.uint64pow10" .u64 Lib.pow10Tab) :
    Calls Tryd.prog 15 #[.string (mkB a), .string (mkB b)] w (ReadPost a b w) := by
  obtain ⟨v1, w1, c1, ba1, hb1⟩ := conv_ba w a
  obtain ⟨v2, w2, c2, ba2, hb2⟩ := conv_ba w1 b
  have HB2 : Hid (Below w.heap.size w w2) := Lib.hid (hb1.trans (hb2.mono hb1.size))
  have BA1 := Lib.hid (ba1.below hb2)
  have BA2 := Lib.hid ba2
  have HT := Lib.hid htab
  have HNE := Lib.hid hne
  clear ba1 ba2 hb1 hb2 htab hne
  go_enter Tryd.func15, Tryd.ntmps15
  go_wp2_with fail
  refine (implD_any [111, 108, 100] [110, 101, 119] v1 v2 a b w2 BA1.out BA2.out (by decide) (by decide) hal hbl (by rw [dl_len]; exact hX) (by rw [dl_len]; exact hY) (Lib.tabBelow_of_tabIs HT.out w2 HB2.out)).mono ?_
  rintro e1 w3 ⟨v, rfl, hb3, hp⟩
  have HB3 : Hid (Below w.heap.size w w3) := Lib.hid (HB2.out.trans (hb3.mono HB2.out.size))
  obtain ⟨cs0, F0, M, hbs, hF, hM, hO⟩ : ∃ cs F M, BS w3 v (hdr [111, 108, 100] [110, 101, 119] ++ (cs.map ckText).flatten) ∧ DFin (dl a) (dl b) M cs F ∧ Matches (dl a) (dl b) M ∧ Opt (dl a) (dl b) (M.length - 2) := by
    rcases hp with ⟨h, _⟩ | ⟨_, h⟩
    · exact absurd h HNE.out
    · exact h
  obtain ⟨ds, G, hG, hlns⟩ := df_read (o := [111, 108, 100]) (n := [110, 101, 119]) (by decide) (by decide) hF
  have hall := dall_of hG hM hO
  have hlen := diff_text_len (o := [111, 108, 100]) (n := [110, 101, 119]) hF (by rw [dl_len]; exact hX) (by rw [dl_len]; exact hY) hal hbl (by decide) (by decide)
  obtain ⟨T, hT⟩ : ∃ T, T = hdr [111, 108, 100] [110, 101, 119] ++ (cs0.map ckText).flatten := ⟨_, rfl⟩
  rw [← hT] at hbs hlns hlen
  have c3 := conv_bytes hbs
  have HLNS := Lib.hid hlns
  have HALL := Lib.hid hall
  clear hb3 hp hF hM hO hG hall hT hbs c1 c2 hlns
  obtain ⟨ok1, ok2⟩ := ck_ok HALL.out hX hY hal hbl
  have OK1 := Lib.hid ok1
  have hpos : Hid (0 < ds.length) := Lib.hid (List.length_pos_iff.2 (HALL.out.some HNE.out))
  clear ok1
  go_wp2_with fail
  refine (readDiff_any [111, 108, 100] [110, 101, 119] ds T w3 HLNS.out (by omega) (by decide) (by decide) OK1.out (by omega)).mono ?_
  rintro e2 w4 ⟨v4, us, B, rfl, hR, hb4⟩
  have HR := Lib.hid hR
  have HB4 : Hid (Below w.heap.size w w4) := Lib.hid (HB3.out.trans (hb4.mono HB3.out.size))
  rw [decide_eq_true hpos.out]
  clear hR hb4 c3
  go_wp2_with fail
  go_ret2
  exact ⟨v4, us, B, ds, G, rfl, HR.out, HB4.out, HALL.out⟩
end Go.Proofs.YtncjclmhdhimdaaDoor
