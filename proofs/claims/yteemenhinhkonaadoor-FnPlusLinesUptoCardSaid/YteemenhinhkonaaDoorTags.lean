/- The contract of the reference's Tags: the tags of an expression, each once, in new memory. -/
import Derived.Test.YteemenhinhkonaaDoorProg
import Derived.Test.YteemenhinhkonaaDoorSpecEval
namespace Go.Proofs.YteemenhinhkonaaDoor
open Go.RowKit

theorem info_string : (Tryd.prog.info? 9).map (fun i => (i.zero, i.size, i.bytes)) = some (some (.string ByteArray.empty), 1, 16) := by kernel_rfl

def TagsPost (x : Ex) (w : World) (en : Ending) (w' : World) : Prop := ∃ v, en = .returned v ∧ SS w' v x.tags ∧ FreshV w.heap.size v ∧ Below w.heap.size w w'

/- between two rounds of the outer loop: k parts have been read; within a round: k parts, and m tags of the next one -/
def OutRel (x : Ex) (w : World) (i v : Value) (wr : World) : Prop :=
  ∃ k : Nat, k ≤ x.subs.length ∧ i = .int .i64 k ∧ Below w.heap.size w wr ∧ w.heap.size + 1 ≤ wr.heap.size ∧
    wr.ownsRow (w.heap.size + 1) 9 1 v (accTags x k).length ((accTags x k).map Value.string)
def InRel (x : Ex) (w : World) (k : Nat) (ts : List ByteArray) (vt : Value) (j v : Value) (wr : World) : Prop :=
  ∃ m : Nat, m ≤ ts.length ∧ j = .int .i64 m ∧ Below w.heap.size w wr ∧ w.heap.size + 1 ≤ wr.heap.size ∧ SS wr vt ts ∧ (∀ a n c, vt = .slice (some a) n c → v.ownBlock ≠ some a.block) ∧
    wr.ownsRow (w.heap.size + 1) 9 1 v (addTags (accTags x k) (ts.take m)).length ((addTags (accTags x k) (ts.take m)).map Value.string)

theorem FreshV.mono {B B' : Nat} {v : Value} (h : FreshV B v) (hB : B' ≤ B) : FreshV B' v := fun a n c hv => Nat.le_trans hB (h a n c hv)
theorem addTags_len2 (x y : Ex) (k m : Nat) (hy : x.subs[k]? = some y) (hl : x.leaves ≤ 1000000000) : (addTags (accTags x k) (y.tags.take m)).length ≤ 2000000002 := by
  have h1 := addTags_length (y.tags.take m) (accTags x k)
  have h2 := accTags_length x k
  have h3 := tags_length y
  have h4 := leaves_sub (List.mem_of_getElem? hy)
  have h5 : (y.tags.take m).length ≤ y.tags.length := by simp; omega
  omega
theorem OutRel_start (x : Ex) (w : World) (o : Array Value) (t : TypeId) : OutRel x w (.int .i64 0) (.slice (some ⟨w.heap.size + 1, 0, none⟩) 0 0) ((w.alloc (.cells o t)).alloc (.cells #[] 9)) := by
  refine ⟨0, Nat.zero_le _, rfl, ((Below.refl _ _).alloc (Nat.le_refl _) _).alloc (by simp) _, by simp, ?_⟩
  have h := World.ownsRow_made (base := w.heap.size + 1) (e := 9) (size := 1) (w.alloc (.cells o t)) #[] 0 (by simp) (by unfold maxLen; omega) rfl
  simpa [accTags] using h
theorem InRel_start {x : Ex} {w wr w1 : World} {k : Nat} {pv : Option Addr} {n cv : Nat} {o : Obj} {vt : Value} {ts : List ByteArray} (hB : Below w.heap.size w wr) (hsz : w.heap.size + 1 ≤ wr.heap.size)
    (ho : wr.ownsRow (w.heap.size + 1) 9 1 (.slice pv n cv) (accTags x k).length ((accTags x k).map Value.string)) (hb1 : Below (wr.alloc o).heap.size (wr.alloc o) w1) (hss : SS w1 vt ts) (hfr : FreshV (wr.alloc o).heap.size vt) :
    InRel x w k ts vt (.int .i64 0) (.slice pv n cv) w1 := by
  have hba : Below wr.heap.size wr w1 := ((Below.refl _ _).alloc (Nat.le_refl _) _).trans (hb1.mono (by simp))
  refine ⟨0, Nat.zero_le _, rfl, hB.trans (hba.mono hB.size), Nat.le_trans hsz hba.size, hss, ?_, ?_⟩
  · intro a m c hv h
    have h1 := hfr a m c hv
    have h2 := (ho.lt a.block h).2
    simp at h1
    omega
  · simpa [addTags] using ownsRow_below ho hba
theorem OutRel_next {x y : Ex} {w wr : World} {k m : Nat} {v : Value} (hy : x.subs[k]? = some y) (hlt : k < x.subs.length) (hB : Below w.heap.size w wr) (hsz : w.heap.size + 1 ≤ wr.heap.size)
    (ho : wr.ownsRow (w.heap.size + 1) 9 1 v (addTags (accTags x k) (y.tags.take m)).length ((addTags (accTags x k) (y.tags.take m)).map Value.string)) (hm : y.tags.length ≤ m) :
    OutRel x w (.int .i64 ((k : Int) + 1)) v wr := by
  rw [List.take_of_length_le hm, ← accTags_succ hy] at ho
  exact ⟨k + 1, hlt, by simp, hB, hsz, ho⟩

theorem SS.cell {w : World} {a : Option Addr} {n cap : Nat} {ss : List ByteArray} (h : SS w (.slice a n cap) ss) {i : Nat} {s : ByteArray} (hs : ss[i]? = some s) : ∃ b off, a = some ⟨b, off, none⟩ ∧ w.cell? ⟨b, off + i, none⟩ = some (.string s) := by
  obtain ⟨a', cap', hv, _, hc⟩ := h
  injection hv with hv
  subst hv
  exact hc i s hs
theorem InRel_grow {x : Ex} {w wr w3 : World} {k m : Nat} {v vt v' : Value} {ts : List ByteArray} {t : ByteArray} {n : Nat} {o : Obj} (ht : ts[m]? = some t) (hh : hasB (addTags (accTags x k) (ts.take m)) t = false) (hm : m < ts.length)
    (hB : Below w.heap.size w wr) (hsz : w.heap.size + 1 ≤ wr.heap.size) (hss : SS wr vt ts) (hne : ∀ a n c, vt = .slice (some a) n c → v.ownBlock ≠ some a.block)
    (ho : wr.ownsRow (w.heap.size + 1) 9 1 v n ((addTags (accTags x k) (ts.take m)).map Value.string))
    (ho3 : w3.ownsRow (w.heap.size + 1) 9 1 v' ((addTags (accTags x k) (ts.take m)).length + 1) ((addTags (accTags x k) (ts.take m)).map Value.string ++ [.string t]))
    (hg : (wr.alloc o).grownBy w3 v.ownBlock) (hat : v'.ownBlock = v.ownBlock ∨ v'.ownBlock = some (wr.alloc o).heap.size) : InRel x w k ts vt (.int .i64 ((m : Int) + 1)) v' w3 := by
  have ha : wr.grownBy (wr.alloc o) v.ownBlock := World.grownBy_alloc wr o _
  have hg' : wr.grownBy w3 v.ownBlock := ha.trans hg
  refine ⟨m + 1, hm, by simp, hB.grown hg' hB.size (fun q hq => by have := (ho.lt q hq).1; omega), Nat.le_trans hsz hg'.size, ?_, ?_, ?_⟩
  · exact hss.grown hg' hne
  · intro a q c hv h
    rcases hat with hat | hat
    · exact hne a q c hv (hat ▸ h)
    · rw [hat] at h
      injection h with h
      obtain ⟨a', cap', hv', _, hc⟩ := hss
      rw [hv'] at hv
      injection hv with hv
      subst hv
      obtain ⟨b', off', ha', hc'⟩ := hc m t ht
      injection ha' with ha'
      subst ha'
      have := lt_of_cell hc'
      simp at h
      omega
  · rw [addTags_snoc _ _ ht, addTag, hh]
    simpa using ho3

set_option maxHeartbeats 2000000 in
theorem tags_any (x : Ex) : ∀ (c0 c1 c2 : Value) (w : World), XIs (fun _ => True) w x c0 c1 c2 → x.leaves ≤ 1000000000 → Calls Tryd.prog 31 #[.agg #[c0, c1, c2]] w (TagsPost x w) := by
  induction x using Ex.ind with
  | h x ih =>
  intro c0 c1 c2 w h hlv
  obtain ⟨i0, hi, hz0, hz1, hz2⟩ := info_parts info_string
  by_cases hk : x.kind = 1
  · obtain ⟨t, rfl⟩ := kind_tag hk
    obtain ⟨rfl, rfl, ht, a, cap, rfl⟩ := h
    clear ih hk
    go_enter Tryd.func31, Tryd.ntmps31
    go_wp2_with fail
    go_ret
    refine ⟨.slice (some ⟨w.heap.size + 1 + 1, 0, none⟩) 1 1, rfl, ?_, ?_, ((((Below.refl _ _).alloc (Nat.le_refl _) _).alloc (by simp) _).alloc (by simp; omega) _)⟩
    · refine ⟨_, 1, rfl, by simp [Ex.tags], fun i s hs => ⟨_, 0, rfl, ?_⟩⟩
      have h0 : i = 0 := by
        have := (List.getElem?_eq_some_iff.1 hs).1
        simpa [Ex.tags] using this
      subst h0
      obtain rfl : t = s := by simpa [Ex.tags] using hs
      exact cell_at (heap_new _ _ (by simp)) _ rfl
    · intro a n c hv
      injection hv with hv
      injection hv with hv
      subst hv
      simp
      omega
  · obtain ⟨s, b, off, cap, rfl, rfl, hs, rfl, -, hb0, hsub⟩ := h.parts hk
    have hk1 : (x.kind == 1) = false := by simp [hk]
    have HK := Lib.hid hk
    have HS := Lib.hid hsub
    have IH := Lib.hid ih
    have hkr := kind_range x
    have hsl := subs_le x
    clear hk hsub ih h
    go_enter Tryd.func31, Tryd.ntmps31
    go_wp2_with fail
    go_loopw [3, 18] (fun v i wr => OutRel x w i v wr) (fun _ i _ => x.subs.length - (intOf i).toNat)
    case atStart => exact OutRel_start x w _ _
    case round =>
      obtain ⟨k, hk, rfl, hb, hsz, hown⟩ := hrel
      have HB := Lib.hid hb
      have HO := Lib.hid hown
      clear hb
      obtain ⟨pv, cv, rfl⟩ := ownsRow_slice hown
      clear hown
      by_cases hlt : k < x.subs.length
      · obtain ⟨y, hy⟩ : ∃ y, x.subs[k]? = some y := ⟨_, List.getElem?_eq_getElem hlt⟩
        obtain ⟨y0, y1, y2, g0, g1, g2, hx⟩ := HS.out k y hy
        rw [← HB.out.cell (p := ⟨_, _, none⟩) hb0] at g0 g1 g2
        obtain ⟨sy, ay, cy, rfl, rfl, rfl, -⟩ := hx.form
        have HY := Lib.hid hy
        have HX := Lib.hid hx
        clear hy hx
        have hly : y.leaves ≤ 1000000000 := Nat.le_trans (leaves_sub (List.mem_of_getElem? HY.out)) hlv
        go_wp2_with fail
        refine (IH.out y (List.mem_of_getElem? HY.out) _ _ _ _ (by exact HX.out.below (HB.out.alloc HB.out.size _)) hly).mono ?_
        rintro e1 w1 ⟨vt, rfl, hss, hfr, hb1⟩
        obtain ⟨at_, ct, rfl, htl, -⟩ : ∃ a cap, vt = .slice a y.tags.length cap ∧ y.tags.length ≤ 140737488355328 ∧ True := by obtain ⟨a, cap, h1, h2, _⟩ := hss; exact ⟨a, cap, h1, h2, trivial⟩
        have hin := InRel_start (x := x) (k := k) HB.out hsz HO.out hb1 hss hfr
        have HIN := Lib.hid hin
        clear hss hfr hb1 hin
        obtain ⟨wo, hwo⟩ : ∃ wo : World, wo = wr := ⟨_, rfl⟩
        go_wp2_with fail
        go_loopw [3, 25] (fun v j wq => InRel x w k y.tags (.slice at_ y.tags.length ct) j v wq) (fun _ j _ => y.tags.length - (intOf j).toNat)
        case atStart => exact HIN.out
        case round =>
          obtain ⟨m, hm, rfl, hbq, hszq, hssq, hneq, hownq⟩ := hrel
          have HBQ := Lib.hid hbq
          have HOQ := Lib.hid hownq
          have HSQ := Lib.hid hssq
          have HNQ := Lib.hid hneq
          clear hbq hssq hneq
          obtain ⟨pq, cq, rfl⟩ := ownsRow_slice hownq
          clear hownq
          have hql := addTags_len2 x y k m HY.out hlv
          by_cases hmt : m < y.tags.length
          · obtain ⟨t, ht⟩ : ∃ t, y.tags[m]? = some t := ⟨_, List.getElem?_eq_getElem hmt⟩
            obtain ⟨bt, ot, rfl, hct⟩ := HSQ.out.cell ht
            have HT := Lib.hid ht
            clear ht
            cases hh : hasB (addTags (accTags x k) (y.tags.take m)) t with
            | true =>
              have HH := Lib.hid hh
              clear hh
              go_wp2_with fail
              refine (has_any _ (addTags (accTags x k) (y.tags.take m)) t _ (SS.of_row HOQ.out (by omega))).mono ?_
              rw [HH.out]
              rintro e2 w2 ⟨rfl, rfl⟩
              go_wp2_with fail
              exact ⟨⟨m + 1, hmt, by go_num, HBQ.out, hszq, HSQ.out, HNQ.out, by rw [addTags_snoc _ _ HT.out, addTag, if_pos HH.out]; exact HOQ.out⟩, by simp [intOf]; omega⟩
            | false =>
              have HH := Lib.hid hh
              clear hh
              go_wp2_with fail
              refine (has_any _ (addTags (accTags x k) (y.tags.take m)) t _ (SS.of_row HOQ.out (by omega))).mono ?_
              rw [HH.out]
              rintro e2 w2 ⟨rfl, rfl⟩
              go_wp2_with (at_builtin; refine wpList_append_own_at _ rfl _ _ 41 rfl (w.heap.size + 1) 9 i0 _ 1 16 Tryd.underlying41 hi hz0 hz1 hz2 rfl (by decide) _ _ _ rfl (HOQ.out.alloc _) ⟨_, 0, none⟩ 1 1 [.string t] rfl rfl (cell_one_new _ _ _) (by simp [Value.oneCell']) (by unfold maxLen; omega) (by omega) (by simp; omega) ?_; intro v' w3 hown3 hg3 _ hat3)
              exact ⟨InRel_grow HT.out HH.out hmt HBQ.out hszq HSQ.out HNQ.out HOQ.out hown3 hg3 hat3, by simp [intOf]; omega⟩
          · go_wp2_with fail
            exact ⟨OutRel_next HY.out hlt HBQ.out hszq HOQ.out (by omega), by simp [intOf]; omega⟩
      · go_wp2_with fail
        go_ret
        exact ⟨_, rfl, SS.of_row (by rw [← accTags_all HK.out (k := k) (by omega)]; exact HO.out) (by have := tags_length x; omega), FreshV.mono (FreshV.of_row HO.out) (by omega), HB.out⟩
end Go.Proofs.YteemenhinhkonaaDoor
