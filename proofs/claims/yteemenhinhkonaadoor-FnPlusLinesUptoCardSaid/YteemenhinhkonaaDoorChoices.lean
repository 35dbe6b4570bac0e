/- The contract of the reference's Choices: all choices of some tags, in new memory, or nothing if they are more than eight. -/
import Derived.Test.YteemenhinhkonaaDoorProg
import Derived.Test.YteemenhinhkonaaDoorTags
import Derived.Test.YteemenhinhkonaaDoorApp
namespace Go.Proofs.YteemenhinhkonaaDoor
open Go.RowKit

theorem info_strs : (Tryd.prog.info? 41).map (fun i => (i.zero, i.size, i.bytes)) = some (some (.slice none 0 0), 1, 24) := by kernel_rfl

/- plain -/
def choices (ts : List ByteArray) : List (List ByteArray) := ts.foldl (fun cs t => cs ++ cs.map (· ++ [t])) [[]]
theorem choices_snoc (ts : List ByteArray) {k : Nat} {t : ByteArray} (h : ts[k]? = some t) : choices (ts.take (k + 1)) = choices (ts.take k) ++ (choices (ts.take k)).map (· ++ [t]) := by
  unfold choices
  rw [List.take_add_one, h]
  simp
theorem choices_length (ts : List ByteArray) (k : Nat) (hk : k ≤ ts.length) : (choices (ts.take k)).length = 2 ^ k := by
  induction k with
  | zero => simp [choices]
  | succ k ih =>
    rw [choices_snoc ts (List.getElem?_eq_getElem (by omega)), List.length_append, List.length_map, ih (by omega)]
    omega
theorem choices_mem (ts : List ByteArray) : ∀ k, k ≤ ts.length → ∀ c ∈ choices (ts.take k), c.length ≤ k := by
  intro k
  induction k with
  | zero => intro _ c hc; simp [choices] at hc; simp [hc]
  | succ k ih =>
    intro hk c hc
    rw [choices_snoc ts (List.getElem?_eq_getElem (by omega)), List.mem_append, List.mem_map] at hc
    rcases hc with hc | ⟨d, hd, rfl⟩
    · have := ih (by omega) c hc; omega
    · have := ih (by omega) d hd; simp; omega
theorem choices_pos (ts : List ByteArray) : ∀ k, [] ∈ choices (ts.take k) := by
  intro k
  induction k with
  | zero => simp [choices]
  | succ k ih =>
    by_cases h : k < ts.length
    · rw [choices_snoc ts (List.getElem?_eq_getElem h)]
      simp [ih]
    · rw [List.take_of_length_le (by omega)]
      rw [List.take_of_length_le (by omega)] at ih
      exact ih

/- rows of rows -/
def ElemRow (w : World) (vals : List Value) (cs : List (List ByteArray)) : Prop :=
  vals.length = cs.length ∧ ∀ (i : Nat) (u : Value) (c : List ByteArray), vals[i]? = some u → cs[i]? = some c → (∃ g cap, u = .slice (some ⟨g, 0, none⟩) c.length cap) ∧ w.ownsRow 0 9 1 u c.length (c.map Value.string)
theorem ElemRow.below {w w' : World} {vals : List Value} {cs : List (List ByteArray)} (h : ElemRow w vals cs) (hb : Below w.heap.size w w') : ElemRow w' vals cs :=
  ⟨h.1, fun i u c hu hc => ⟨(h.2 i u c hu hc).1, ownsRow_below (h.2 i u c hu hc).2 hb⟩⟩
theorem ElemRow.grown {w w' : World} {vals : List Value} {cs : List (List ByteArray)} (h : ElemRow w vals cs) {base size n : Nat} {v : Value} {xs : List Value} (ho : w.ownsRow base 41 size v n xs) (hg : w.grownBy w' v.ownBlock) : ElemRow w' vals cs := by
  refine ⟨h.1, fun i u c hu hc => ⟨(h.2 i u c hu hc).1, (h.2 i u c hu hc).2.kept hg ?_⟩⟩
  refine .inr fun e => ?_
  rcases (h.2 i u c hu hc).2.2 with ⟨hu0, _⟩ | ⟨g, cap, cur, hu0, _, hgb, _⟩
  · obtain ⟨g, cap, hu1⟩ := (h.2 i u c hu hc).1
    rw [hu0] at hu1
    cases hu1
  · rcases ho.2 with ⟨hv0, _⟩ | ⟨g', cap', cur', hv0, _, hgb', _⟩
    · rw [hu0, hv0] at e; cases e
    · rw [hu0, hv0] at e
      injection e with e
      simp at e
      subst e
      rw [hgb] at hgb'
      injection hgb' with hgb'
      injection hgb' with _ h2
      exact absurd h2 (by decide)
theorem ElemRow.snoc {w : World} {vals : List Value} {cs : List (List ByteArray)} (h : ElemRow w vals cs) {u : Value} {c : List ByteArray} (hu : (∃ g cap, u = .slice (some ⟨g, 0, none⟩) c.length cap) ∧ w.ownsRow 0 9 1 u c.length (c.map Value.string)) : ElemRow w (vals ++ [u]) (cs ++ [c]) := by
  refine ⟨by simp [h.1], fun i x d hx hd => ?_⟩
  by_cases hi : i < vals.length
  · rw [List.getElem?_append_left hi] at hx
    rw [List.getElem?_append_left (by rw [← h.1]; exact hi)] at hd
    exact h.2 i x d hx hd
  · rw [List.getElem?_append_right (by omega)] at hx
    rw [List.getElem?_append_right (by rw [← h.1]; omega)] at hd
    have hi0 : i - vals.length = 0 := by
      have := (List.getElem?_eq_some_iff.1 hx).1
      simp at this
      omega
    rw [hi0] at hx
    rw [← h.1, hi0] at hd
    simp at hx hd
    subst hx hd
    exact hu
def LL (w : World) (v : Value) (cs : List (List ByteArray)) : Prop := ∃ vals base, w.ownsRow base 41 1 v cs.length vals ∧ ElemRow w vals cs
theorem LL.below {w w' : World} {v : Value} {cs : List (List ByteArray)} (h : LL w v cs) (hb : Below w.heap.size w w') : LL w' v cs := by
  obtain ⟨vals, base, h1, h2⟩ := h
  exact ⟨vals, base, ownsRow_below h1 hb, h2.below hb⟩

def ChoicesPost (ts : List ByteArray) (w : World) (en : Ending) (w' : World) : Prop := ∃ v, en = .returned v ∧ LL w' v (if ts.length ≤ 8 then choices ts else []) ∧ Below w.heap.size w w'

def OutC (ts : List ByteArray) (w : World) (i v : Value) (wr : World) : Prop :=
  ∃ (k : Nat) (vals : List Value), k ≤ ts.length ∧ i = .int .i64 k ∧ Below w.heap.size w wr ∧ wr.ownsRow w.heap.size 41 1 v (choices (ts.take k)).length vals ∧ ElemRow wr vals (choices (ts.take k))
def InC (cs : List (List ByteArray)) (t : ByteArray) (w : World) (g0 : Nat) (vals0 : List Value) (j v : Value) (wr : World) : Prop :=
  ∃ (m : Nat) (vals : List Value), m ≤ cs.length ∧ j = .int .i64 m ∧ Below w.heap.size w wr ∧ wr.ownsRow w.heap.size 41 1 v (cs.length + m) (vals0 ++ vals) ∧ ElemRow wr (vals0 ++ vals) (cs ++ (cs.take m).map (· ++ [t])) ∧ ∀ i u, vals0[i]? = some u → wr.cell? ⟨g0, i, none⟩ = some u

theorem strings_oneCell (c : List ByteArray) : ∀ u ∈ c.map Value.string, u.oneCell' = true := by
  intro u hu
  obtain ⟨s, _, rfl⟩ := List.mem_map.1 hu
  rfl
theorem below_app {wr w1 : World} {o : Obj} {v : Value} {n c : Nat} (h : (v.ownBlock = (Value.slice (some ⟨wr.heap.size, 0, none⟩) n c).ownBlock ∧ (wr.alloc o).grownBy w1 (Value.slice (some ⟨wr.heap.size, 0, none⟩) n c).ownBlock) ∨ (v.ownBlock = some (wr.alloc o).heap.size ∧ Below (wr.alloc o).heap.size (wr.alloc o) w1)) : Below wr.heap.size wr w1 := by
  have h0 : Below wr.heap.size wr (wr.alloc o) := (Below.refl _ _).alloc (Nat.le_refl _) _
  rcases h with ⟨_, h⟩ | ⟨_, h⟩
  · exact h0.grown h (by simp) (fun k hk => by simp [Value.ownBlock] at hk; omega)
  · exact h0.trans (h.mono (by simp))
theorem below_app2 {wr w1 w2 : World} {o : Obj} {v v1 : Value} {e : TypeId} {size n : Nat} {xs : List Value} (hb : Below wr.heap.size wr w1) (ho : w1.ownsRow wr.heap.size e size v1 n xs) (h : (v.ownBlock = v1.ownBlock ∧ (w1.alloc o).grownBy w2 v1.ownBlock) ∨ (v.ownBlock = some (w1.alloc o).heap.size ∧ Below (w1.alloc o).heap.size (w1.alloc o) w2)) : Below wr.heap.size wr w2 := by
  have hs := hb.size
  have h0 : Below wr.heap.size wr (w1.alloc o) := hb.alloc hs _
  rcases h with ⟨_, h⟩ | ⟨_, h⟩
  · exact h0.grown h (by simp; omega) (fun k hk => (ho.lt k hk).1)
  · exact h0.trans (h.mono (by simp; omega))
theorem OutC_start (ts : List ByteArray) (w : World) : OutC ts w (.int .i64 0) (.slice (some ⟨w.heap.size + 1, 0, none⟩) 1 1) ((w.alloc (.cells #[] 9)).alloc (.cells #[.slice (some ⟨w.heap.size, 0, none⟩) 0 0] 41)) := by
  have h0 : (w.alloc (.cells #[] 9)).ownsRow 0 9 1 (.slice (some ⟨w.heap.size, 0, none⟩) 0 0) 0 [] := World.ownsRow_made w #[] 0 (Nat.zero_le _) (by unfold maxLen; omega) rfl
  refine ⟨0, [.slice (some ⟨w.heap.size, 0, none⟩) 0 0], Nat.zero_le _, rfl, ((Below.refl _ _).alloc (Nat.le_refl _) _).alloc (by simp) _, ?_, rfl, ?_⟩
  · exact ⟨rfl, .inr ⟨w.heap.size + 1, 1, #[.slice (some ⟨w.heap.size, 0, none⟩) 0 0], rfl, by omega, heap_new _ _ (by simp), Nat.le_refl _, by unfold maxLen; omega, rfl, rfl⟩⟩
  · intro i u c hu hc
    have hi : i = 0 := by
      have := (List.getElem?_eq_some_iff.1 hu).1
      simpa using this
    subst hi
    obtain rfl : c = [] := by simpa [choices] using hc.symm
    obtain rfl : u = .slice (some ⟨w.heap.size, 0, none⟩) 0 0 := by simpa using hu.symm
    exact ⟨⟨_, _, rfl⟩, h0.alloc _⟩
theorem OutC_next {ts : List ByteArray} {cs : List (List ByteArray)} {t : ByteArray} {k m : Nat} {w wr : World} {v : Value} {vals0 vals : List Value} (ht : ts[k]? = some t) (hlt : k < ts.length) (hcs : cs = choices (ts.take k)) (hm : cs.length ≤ m)
    (hB : Below w.heap.size w wr) (ho : wr.ownsRow w.heap.size 41 1 v (cs.length + m) (vals0 ++ vals)) (hl : ElemRow wr (vals0 ++ vals) (cs ++ (cs.take m).map (· ++ [t]))) : OutC ts w (.int .i64 ((k : Int) + 1)) v wr := by
  have e : choices (ts.take (k + 1)) = cs ++ (cs.take m).map (· ++ [t]) := by rw [choices_snoc ts ht, ← hcs, List.take_of_length_le hm]
  refine ⟨k + 1, vals0 ++ vals, hlt, by simp, hB, ?_, by rw [e]; exact hl⟩
  have hlen : (choices (ts.take (k + 1))).length = cs.length + m := by
    have h1 := hl.1
    have h2 := ho.1
    rw [e, ← h1, h2]
    omega
  rw [hlen]
  exact ho
theorem ChoicesPost_end {ts : List ByteArray} {k : Nat} {w wr : World} {v : Value} {vals : List Value} (h8 : ts.length ≤ 8) (hk : ts.length ≤ k) (hB : Below w.heap.size w wr) (ho : wr.ownsRow w.heap.size 41 1 v (choices (ts.take k)).length vals) (hl : ElemRow wr vals (choices (ts.take k))) :
    ChoicesPost ts w (.returned v) wr := by
  rw [List.take_of_length_le hk] at ho hl
  exact ⟨v, rfl, ⟨vals, _, by rw [if_pos h8]; exact ho, by rw [if_pos h8]; exact hl⟩, hB⟩
theorem InC_step {cs : List (List ByteArray)} {t : ByteArray} {w wr w2 w3 : World} {g0 : Nat} {vals0 vals1 : List Value} {m : Nat} {c : List ByteArray} {pq : Option Addr} {cq : Nat} {g2 cp2 : Nat} {v3 : Value} {o : Obj} (hc : cs[m]? = some c) (hm : m < cs.length) (_hvl : vals0.length = cs.length)
    (hB : Below w.heap.size w wr) (ho : wr.ownsRow w.heap.size 41 1 (.slice pq (cs.length + m) cq) (cs.length + m) (vals0 ++ vals1)) (hl : ElemRow wr (vals0 ++ vals1) (cs ++ (cs.take m).map (· ++ [t])))
    (hsn : ∀ i u, vals0[i]? = some u → wr.cell? ⟨g0, i, none⟩ = some u) (hb2 : Below wr.heap.size wr w2) (ho2 : w2.ownsRow wr.heap.size 9 1 (.slice (some ⟨g2, 0, none⟩) (c.length + 1) cp2) (c.length + 1) (c.map Value.string ++ [.string t]))
    (ho3 : w3.ownsRow w.heap.size 41 1 v3 (cs.length + m + 1) (vals0 ++ vals1 ++ [.slice (some ⟨g2, 0, none⟩) (c.length + 1) cp2]))
    (hc3 : (v3.ownBlock = (Value.slice pq (cs.length + m) cq).ownBlock ∧ (w2.alloc o).grownBy w3 (Value.slice pq (cs.length + m) cq).ownBlock) ∨ (v3.ownBlock = some (w2.alloc o).heap.size ∧ Below (w2.alloc o).heap.size (w2.alloc o) w3)) :
    InC cs t w g0 vals0 (.int .i64 ((m : Int) + 1)) v3 w3 := by
  have hs2 := hb2.size
  have ha : Below wr.heap.size wr (w2.alloc o) := hb2.alloc hs2 _
  have hoa := ownsRow_below ho ha
  have hg3 : (w2.alloc o).grownBy w3 (Value.slice pq (cs.length + m) cq).ownBlock := by
    rcases hc3 with ⟨_, h⟩ | ⟨_, h⟩
    · exact h
    · exact grown_of_below h _
  have hnew : ElemRow (w2.alloc o) (vals0 ++ vals1 ++ [.slice (some ⟨g2, 0, none⟩) (c.length + 1) cp2]) (cs ++ (cs.take m).map (· ++ [t]) ++ [c ++ [t]]) := by
    refine (hl.below ha).snoc ⟨⟨g2, cp2, by simp⟩, ?_⟩
    have h := ho2.alloc o
    simp only [List.length_append, List.length_singleton, List.map_append, List.map_cons, List.map_nil]
    exact ⟨h.1, h.2.imp id (fun ⟨g, cap, cur, h1, _, h3⟩ => ⟨g, cap, cur, h1, Nat.zero_le _, h3⟩)⟩
  refine ⟨m + 1, vals1 ++ [.slice (some ⟨g2, 0, none⟩) (c.length + 1) cp2], hm, by simp, ?_, by rw [← List.append_assoc]; exact ho3, ?_, ?_⟩
  · exact (hB.trans (ha.mono hB.size)).grown hg3 (by have := hB.size; simp; omega) (fun q hq => (hoa.lt q hq).1)
  · have e : cs ++ (cs.take (m + 1)).map (· ++ [t]) = cs ++ (cs.take m).map (· ++ [t]) ++ [c ++ [t]] := by
      rw [List.take_add_one, hc]
      simp
    rw [e, ← List.append_assoc]
    exact hnew.grown hoa hg3
  · intro i u hu
    have hcell := hsn i u hu
    have hcell2 : (w2.alloc o).cell? ⟨g0, i, none⟩ = some u := (ha.cell (p := ⟨g0, i, none⟩) (lt_of_cell hcell)).trans hcell
    rcases hc3 with ⟨hat, h⟩ | ⟨_, h⟩
    · by_cases hg : (Value.slice pq (cs.length + m) cq).ownBlock = some g0
      · have hi : i < vals0.length := (List.getElem?_eq_some_iff.1 hu).1
        have := ho3.cells (g := g0) (hat.trans hg) i u (by rw [List.append_assoc, List.getElem?_append_left hi]; exact hu)
        rwa [show (⟨g0, 0, none⟩ : Addr).add i = ⟨g0, i, none⟩ from by unfold Addr.add; split <;> simp_all] at this
      · exact (World.cell?_of_block (a := ⟨g0, i, none⟩) (h.block g0 (lt_of_cell hcell2) (fun e => hg e.symm))).trans hcell2
    · exact (h.cell (p := ⟨g0, i, none⟩) (lt_of_cell hcell2)).trans hcell2

set_option maxHeartbeats 2000000 in
set_option maxRecDepth 100000 in
theorem choices_any (v : Value) (ts : List ByteArray) (w : World) (h : SS w v ts) : Calls Tryd.prog 22 #[v] w (ChoicesPost ts w) := by
  obtain ⟨a, cap, rfl, hlen, hc⟩ := h
  have HC := Lib.hid hc
  clear hc
  obtain ⟨i0, hi, hz0, hz1, hz2⟩ := info_parts info_string
  obtain ⟨j0, hj, hy0, hy1, hy2⟩ := info_parts info_strs
  by_cases h8 : 8 < ts.length
  · have HP : Hid (ChoicesPost ts w (.returned (.slice none 0 0)) w) := Lib.hid ⟨_, rfl, ⟨[], 0, by rw [if_neg (by omega)]; exact World.ownsRow_nil _ _ _ _, by rw [if_neg (by omega)]; exact ⟨rfl, fun i u c hu => by simp at hu⟩⟩, Below.refl _ _⟩
    go_enter Tryd.func22, Tryd.ntmps22
    go_wp2_with fail
    go_ret
    exact HP.out
  · have h8a : decide (8 < ts.length) = false := by simpa using h8
    have h8b : decide ((8 : Int) < (ts.length : Int)) = false := by simp; omega
    go_enter Tryd.func22, Tryd.ntmps22
    go_wp2_with fail
    go_loopw [3, 15] (fun v i wr => OutC ts w i v wr) (fun _ i _ => ts.length - (intOf i).toNat)
    case atStart => exact OutC_start ts w
    case round =>
      obtain ⟨k, vals, hk, rfl, hb, hown, hel⟩ := hrel
      have hcl := choices_length ts k hk
      have h2k : 2 ^ k ≤ 256 := Nat.le_trans (Nat.pow_le_pow_right (by omega) (show k ≤ 8 by omega)) (by decide)
      have h2p : 0 < 2 ^ k := Nat.pow_pos (by omega)
      have hcl2 : (choices (ts.take k)).length ≤ 256 := by omega
      have hcp : 0 < (choices (ts.take k)).length := by omega
      have HCL := Lib.hid hcl
      clear h2k h2p hcl
      obtain ⟨pv, cv, rfl⟩ := ownsRow_slice hown
      have HB := Lib.hid hb
      have HO := Lib.hid hown
      have HL := Lib.hid hel
      clear hb hown hel
      by_cases hlt : k < ts.length
      · obtain ⟨t, ht⟩ : ∃ t, ts[k]? = some t := ⟨_, List.getElem?_eq_getElem hlt⟩
        obtain ⟨bt, ot, rfl, hct⟩ := HC.out k t ht
        have lbt := lt_of_cell hct
        rw [← HB.out.cell (p := ⟨_, _, none⟩) lbt] at hct
        have HT := Lib.hid ht
        clear ht
        obtain ⟨g0, rfl, hg0, hg0s, hcells0⟩ := ownsRow_at HO.out hcp
        have HIN : Hid (InC (choices (ts.take k)) t w g0 vals (.int .i64 0) (.slice (some ⟨g0, 0, none⟩) (choices (ts.take k)).length cv) wr) :=
          Lib.hid ⟨0, [], Nat.zero_le _, rfl, HB.out, by simpa using HO.out, by simpa using HL.out, hcells0⟩
        clear hcells0
        have hvl : vals.length = (choices (ts.take k)).length := HL.out.1
        have HVL := Lib.hid hvl
        clear hvl
        obtain ⟨cs, hcs⟩ : ∃ cs, cs = choices (ts.take k) := ⟨_, rfl⟩
        have hcm : ∀ c ∈ cs, c.length ≤ 8 := fun c hc => by rw [hcs] at hc; have := choices_mem ts k hk c hc; omega
        have HCM := Lib.hid hcm
        rw [← hcs] at HIN HVL hcl2 hcp
        rw [← hcs]
        have HCS := Lib.hid hcs
        clear hcs hcm
        obtain ⟨wo, hwo⟩ : ∃ wo : World, wo = wr := ⟨_, rfl⟩
        go_wp2_with fail
        go_loopw [3, 21] (fun v j wq => InC cs t w g0 vals j v wq) (fun _ j _ => cs.length - (intOf j).toNat)
        case atStart => exact HIN.out
        case round =>
          obtain ⟨m, vals1, hm, rfl, hbq, hownq, helq, hsnap⟩ := hrel
          obtain ⟨pq, cq, rfl⟩ := ownsRow_slice hownq
          have HBQ := Lib.hid hbq
          have HOQ := Lib.hid hownq
          have HLQ := Lib.hid helq
          have HSN := Lib.hid hsnap
          clear hbq hownq helq hsnap
          by_cases hmt : m < cs.length
          · obtain ⟨c, hc⟩ : ∃ c, cs[m]? = some c := ⟨_, List.getElem?_eq_getElem hmt⟩
            obtain ⟨u, hu⟩ : ∃ u, vals[m]? = some u := ⟨_, List.getElem?_eq_getElem (by have := HVL.out; omega)⟩
            have hcu := HSN.out m u hu
            obtain ⟨⟨gu, cu, rfl⟩, hou⟩ := HLQ.out.2 m u c (by rw [List.getElem?_append_left (by have := HVL.out; omega)]; exact hu) (by rw [List.getElem?_append_left hmt]; exact hc)
            have hc8 : c.length ≤ 8 := HCM.out c (List.mem_of_getElem? hc)
            have HOU := Lib.hid hou
            have HCC := Lib.hid hc
            have hszq : w.heap.size ≤ wr.heap.size := HBQ.out.size
            clear hou hu hc
            go_wp2_with (first | (at_builtin; refine wpList_append_own2 rfl (.tmp 26) (.tmp 27) 41 rfl wr.heap.size 9 i0 _ 1 16 Tryd.underlying41 hi hz0 hz1 hz2 rfl (by decide) _ 0 [] rfl (World.ownsRow_made _ #[] 0 (Nat.le_refl _) (by unfold maxLen; omega) rfl) ⟨gu, 0, none⟩ c.length cu (c.map Value.string) rfl (by simp) (HOU.out.alloc _ |>.cells rfl) (strings_oneCell c) (by unfold maxLen; omega) (by omega) (by simp) ?_; intro v1 w1 ho1 hc1; simp only [Nat.zero_add, List.nil_append] at ho1; have hb1 : Below wr.heap.size wr w1 := below_app hc1; obtain ⟨p1, cp1, rfl⟩ := ownsRow_slice ho1; have HO1 := Lib.hid ho1; have HB1 := Lib.hid hb1; clear ho1 hb1 hc1) | (at_builtin; refine wpList_append_own2 rfl (.tmp 28) (.tmp 30) 41 rfl wr.heap.size 9 i0 _ 1 16 Tryd.underlying41 hi hz0 hz1 hz2 rfl (by decide) _ c.length (c.map Value.string) rfl (HO1.out.alloc _) ⟨_, 0, none⟩ 1 1 [.string t] rfl rfl (cell_one_new _ _ _) (by simp [Value.oneCell']) (by unfold maxLen; omega) (by omega) (by have := HB1.out.size; simp; omega) ?_; intro v2 w2 ho2 hc2; have hb2 : Below wr.heap.size wr w2 := below_app2 HB1.out HO1.out hc2; obtain ⟨p2, cp2, rfl⟩ := ownsRow_slice ho2; obtain ⟨g2, rfl, -⟩ := ownsRow_at ho2 (by omega); have HO2 := Lib.hid ho2; have HB2 := Lib.hid hb2; clear ho2 hb2 hc2) | (at_builtin; refine wpList_append_own2 rfl (.tmp 25) (.tmp 32) 37 rfl w.heap.size 41 j0 _ 1 24 Tryd.underlying37 hj hy0 hy1 hy2 rfl (by decide) _ (cs.length + m) (vals ++ vals1) rfl ((ownsRow_below HOQ.out HB2.out).alloc _) ⟨_, 0, none⟩ 1 1 [.slice (some ⟨g2, 0, none⟩) (c.length + 1) cp2] rfl rfl (cell_one_new _ _ _) (by simp [Value.oneCell']) (by unfold maxLen; omega) (by omega) (by have := HB2.out.size; simp; omega) ?_; intro v3 w3 ho3 hc3))
            exact ⟨InC_step HCC.out hmt HVL.out HBQ.out HOQ.out HLQ.out HSN.out HB2.out HO2.out ho3 hc3, by simp [intOf]; omega⟩
          · go_wp2_with fail
            exact ⟨OutC_next HT.out hlt HCS.out (by omega) HBQ.out HOQ.out HLQ.out, by simp [intOf]; omega⟩
      · have HP : Hid (ChoicesPost ts w (.returned (.slice pv (choices (ts.take k)).length cv)) wr) := Lib.hid (ChoicesPost_end (by omega) (by omega) HB.out HO.out HL.out)
        go_wp2_with fail
        go_ret
        exact HP.out
end Go.Proofs.YteemenhinhkonaaDoor
