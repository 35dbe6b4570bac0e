/- For laws.FnPlusLines: how the expressions that it reads back lie in memory; laws.leaves and laws.simple; an argument of small bulk, opened. -/
import Derived.Test.YteemenhinhkonaaDoorPblL
import Derived.Test.YteemenhinhkonaaDoorApp
import Derived.Test.YteemenhinhkonaaDoorTags
import Derived.Maps.AppendAt
import Derived.Test.YteemenhinhkonaaDoorProg
import Derived.Test.YteemenhinhkonaaDoorLoop
import Derived.Test.YteemenhinhkonaaDoorSpecEval
import Derived.Test.YteemenhinhkonaaDoorRows
import Derived.Test.YteemenhinhkonaaDoorOpenEx
import Derived.Test.YteemenhinhkonaaDoorEx
namespace Go.Proofs.YteemenhinhkonaaDoor
open Go.RowKit

theorem info_iexpr : (Tryd.prog.info? 29).map (fun i => (i.zero, i.size, i.bytes)) = some (some (.agg #[.int .i64 0, .string ByteArray.empty, .slice none 0 0]), 3, 48) := by kernel_rfl
def lineEv (r : List (List Ex)) (f : ByteArray → Bool) : Bool := r.any fun a => a.all fun l => l.eval f
structure AR (R : List (List (List Ex))) (wB : World) (k : Nat) (v : Value) (xs : List Ex) (vals : List Value) (w : World) : Prop where
  below : Below wB.heap.size wB w
  len : xs.length = k
  own : w.ownsRow wB.heap.size 29 3 v k vals
  ev : ∀ (j : Nat) (x : Ex) (r : List (List Ex)), xs[j]? = some x → R[j]? = some r → ∀ f, x.eval f = lineEv r f
  cells : ∀ (j : Nat) (x : Ex), xs[j]? = some x → ∃ x0 x1 x2, vals[j * 3]? = some x0 ∧ vals[j * 3 + 1]? = some x1 ∧ vals[j * 3 + 2]? = some x2 ∧ XIs (fun b => v.ownBlock ≠ some b) w x x0 x1 x2
theorem AR.on {R : List (List (List Ex))} {wB w w' : World} {k : Nat} {v : Value} {xs : List Ex} {vals : List Value} (h : AR R wB k v xs vals w) (hb : Below w.heap.size w w') : AR R wB k v xs vals w' :=
  ⟨h.below.trans (hb.mono h.below.size), h.len, ownsRow_below h.own hb, h.ev, fun j x hx => by
    obtain ⟨x0, x1, x2, h0, h1, h2, hX⟩ := h.cells j x hx
    exact ⟨x0, x1, x2, h0, h1, h2, hX.below hb⟩⟩
theorem AR.step {R : List (List (List Ex))} {wB w w3 : World} {k n0 : Nat} {v v' : Value} {xs : List Ex} {vals : List Value} {x : Ex} {r : List (List Ex)} {c0 c1 c2 : Value} (h : AR R wB k v xs vals w) (hr : R[k]? = some r) (hev : ∀ f, x.eval f = lineEv r f)
    (hq : ∀ q, v.ownBlock = some q → q < n0) (hx : XIs (fun b => n0 ≤ b) w x c0 c1 c2) (ho3 : w3.ownsRow wB.heap.size 29 3 v' (k + 1) (vals ++ [c0, c1, c2])) (hg : w.grownBy w3 v.ownBlock)
    (hat : v'.ownBlock = v.ownBlock ∨ ∃ n, v'.ownBlock = some n ∧ w.heap.size ≤ n) : AR R wB (k + 1) v' (xs ++ [x]) (vals ++ [c0, c1, c2]) w3 := by
  have keep : ∀ b, v.ownBlock ≠ some b → b < w.heap.size → w3.heap[b]? = w.heap[b]? := fun b h1 h2 => hg.block b h2 (fun e => h1 e.symm)
  have nn : ∀ b, v.ownBlock ≠ some b → b < w.heap.size → v'.ownBlock ≠ some b := fun b h1 h2 e => by
    rcases hat with hat | ⟨n, hat, hn⟩
    · rw [hat] at e; exact h1 e
    · rw [hat] at e; injection e with e; omega
  have hvl : vals.length = k * 3 := h.own.1
  have hl := h.len
  refine ⟨h.below.grown hg h.below.size (fun q hq => (h.own.lt q hq).1), by simp [hl], ho3, fun j y s hy hs => ?_, fun j y hy => ?_⟩
  · by_cases hjk : j < k
    · rw [List.getElem?_append_left (by omega)] at hy
      exact h.ev j y s hy hs
    · have hj : j < (xs ++ [x]).length := (List.getElem?_eq_some_iff.1 hy).1
      rw [List.length_append, List.length_singleton] at hj
      obtain rfl : j = k := by omega
      rw [List.getElem?_append_right (by omega), hl, Nat.sub_self] at hy
      injection hy with hy
      subst hy
      rw [hr] at hs
      injection hs with hs
      subst hs
      exact hev
  · by_cases hjk : j < k
    · rw [List.getElem?_append_left (by omega)] at hy
      obtain ⟨x0, x1, x2, h0, h1, h2, hX⟩ := h.cells j y hy
      refine ⟨x0, x1, x2, ?_, ?_, ?_, hX.move fun b hS hlt => ⟨nn b hS hlt, keep b hS hlt⟩⟩
      · rw [List.getElem?_append_left (by omega)]; exact h0
      · rw [List.getElem?_append_left (by omega)]; exact h1
      · rw [List.getElem?_append_left (by omega)]; exact h2
    · have hj : j < (xs ++ [x]).length := (List.getElem?_eq_some_iff.1 hy).1
      rw [List.length_append, List.length_singleton] at hj
      obtain rfl : j = k := by omega
      rw [List.getElem?_append_right (by omega), hl, Nat.sub_self] at hy
      injection hy with hy
      subst hy
      refine ⟨c0, c1, c2, ?_, ?_, ?_, hx.move fun b hS hlt => ?_⟩
      · rw [List.getElem?_append_right (by omega)]; simp [hvl]
      · rw [List.getElem?_append_right (by omega)]; simp [hvl]
      · rw [List.getElem?_append_right (by omega)]; simp [hvl]
      · have hne : v.ownBlock ≠ some b := fun e => by have := hq b e; omega
        exact ⟨nn b hne hlt, keep b hne hlt⟩
def ARout (R : List (List (List Ex))) (wB : World) (v i : Value) (w : World) : Prop := ∃ (k : Nat) (xs : List Ex) (vals : List Value), k ≤ R.length ∧ i = .int .i64 k ∧ AR R wB k v xs vals w
/- where they are read -/
theorem AR.at {R : List (List (List Ex))} {wB w : World} {k : Nat} {v : Value} {xs : List Ex} {vals : List Value} (h : AR R wB k v xs vals w) (hp : 0 < k) : ∃ g cap, v = .slice (some ⟨g, 0, none⟩) k cap ∧
    ∀ (j : Nat) (x : Ex), xs[j]? = some x → ∃ x0 x1 x2, w.cell? ⟨g, j * 3, none⟩ = some x0 ∧ w.cell? ⟨g, j * 3 + 1, none⟩ = some x1 ∧ w.cell? ⟨g, j * 3 + 2, none⟩ = some x2 ∧ XIs (fun _ => True) w x x0 x1 x2 := by
  obtain ⟨p, cap, rfl⟩ := ownsRow_slice h.own
  obtain ⟨g, rfl, -, -, hc⟩ := ownsRow_at h.own hp
  refine ⟨g, cap, rfl, fun j x hx => ?_⟩
  obtain ⟨x0, x1, x2, h0, h1, h2, hX⟩ := h.cells j x hx
  exact ⟨x0, x1, x2, hc _ _ h0, hc _ _ h1, hc _ _ h2, hX.any⟩
theorem all_ev {R : List (List (List Ex))} {xs : List Ex} (hl : xs.length = R.length) (h : ∀ (j : Nat) (x : Ex) (r : List (List Ex)), xs[j]? = some x → R[j]? = some r → ∀ f, x.eval f = lineEv r f) (f : ByteArray → Bool) : (xs.all fun x => x.eval f) = evalR f R := by
  induction xs generalizing R with
  | nil =>
    obtain rfl : R = [] := List.length_eq_zero_iff.1 hl.symm
    rfl
  | cons x t ih =>
    cases R with
    | nil => simp at hl
    | cons r R =>
      have h0 := h 0 x r rfl rfl f
      have h1 := ih (R := R) (by simpa using hl) fun j y s hy hs => h (j + 1) y s (by simpa using hy) (by simpa using hs)
      unfold evalR at h1 ⊢
      rw [List.all_cons, List.all_cons, h1, h0]
      rfl
end Go.Proofs.YteemenhinhkonaaDoor
/- laws.leaves and laws.simple. -/
namespace Go.Proofs.YteemenhinhkonaaDoor
open Go.RowKit

theorem leaves_subs (x : Ex) (h : x.kind ≠ 1) : x.leaves = (x.subs.map Ex.leaves).sum := by
  cases x with
  | tag t => exact absurd rfl h
  | not x => simp [Ex.leaves, Ex.subs]
  | and x y => simp [Ex.leaves, Ex.subs]
  | or x y => simp [Ex.leaves, Ex.subs]
theorem leaves_part (x : Ex) (k : Nat) : ((x.subs.take k).map Ex.leaves).sum ≤ x.leaves := by
  cases x with
  | tag t => simp [Ex.leaves, Ex.subs]
  | not x => rcases k with _ | k <;> simp [Ex.leaves, Ex.subs]
  | and x y => rcases k with _ | _ | k <;> simp [Ex.leaves, Ex.subs]
  | or x y => rcases k with _ | _ | k <;> simp [Ex.leaves, Ex.subs]
def LvRel (x : Ex) (w : World) (v i : Value) (wr : World) : Prop := ∃ k : Nat, k ≤ x.subs.length ∧ i = .int .i64 k ∧ v = .int .i64 (((x.subs.take k).map Ex.leaves).sum : Nat) ∧ Below w.heap.size w wr
def LvPost (x : Ex) (w : World) (e : Ending) (w' : World) : Prop := e = .returned (.int .i64 (x.leaves : Nat)) ∧ Below w.heap.size w w'

set_option maxHeartbeats 2000000 in
theorem leaves_any (x : Ex) : ∀ (c0 c1 c2 : Value) (w : World), XIs (fun _ => True) w x c0 c1 c2 → x.leaves ≤ 1000000000 → Calls Tryd.prog 28 #[.agg #[c0, c1, c2]] w (LvPost x w) := by
  induction x using Ex.ind with
  | h x ih =>
  intro c0 c1 c2 w h hlv
  by_cases hk : x.kind = 1
  · obtain ⟨t, rfl⟩ := kind_tag hk
    obtain ⟨rfl, rfl, ht, a, cap, rfl⟩ := h
    clear ih hk
    go_enter Tryd.func28, Tryd.ntmps28
    go_wp2_with fail
    obtain ⟨wa, hwa⟩ : ∃ wa, wa = w.alloc (.cells #[.int .i64 1, .string t, .slice a 0 cap] 24) := ⟨_, rfl⟩
    rw [← hwa]
    have BWA : Hid (Below w.heap.size w wa) := Lib.hid (by rw [hwa]; exact (Below.refl _ _).alloc (Nat.le_refl _) _)
    have HH : Hid (wa.heap[w.heap.size]? = some (.cells #[.int .i64 1, .string t, .slice a 0 cap] 24 (0, 0))) := Lib.hid (by rw [hwa]; exact heap_new _ _ rfl)
    clear hwa
    go_loopw [3, 9] (fun v i wr => v = .int .i64 0 ∧ i = .int .i64 0 ∧ Below wa.heap.size wa wr) (fun _ i _ => 0)
    case atStart => exact ⟨rfl, rfl, Below.refl _ _⟩
    case round =>
      obtain ⟨rfl, rfl, hb⟩ := hrel
      have HB := Lib.hid hb
      have hh := (hb.block _ (lt_of_heap HH.out)).trans HH.out
      have q0 := cell_at (o := 0) hh (.int .i64 1) rfl
      clear hb hh
      go_wp2_with fail
      go_ret
      exact ⟨rfl, BWA.out.trans (HB.out.mono BWA.out.size)⟩
  · obtain ⟨s, b, off, cap, rfl, rfl, hs, rfl, -, hb0, hsub⟩ := h.parts hk
    have HS := Lib.hid hsub
    have IH := Lib.hid ih
    have hkr := kind_range x
    have hsl := subs_le x
    have hk1 : (x.kind == 1) = false := by simp [hk]
    have HK := Lib.hid hk
    clear hk hsub ih h
    go_enter Tryd.func28, Tryd.ntmps28
    go_wp2_with fail
    obtain ⟨wa, hwa⟩ : ∃ wa, wa = w.alloc (.cells #[.int .i64 x.kind, .string s, .slice (some ⟨b, off, none⟩) x.subs.length cap] 24) := ⟨_, rfl⟩
    rw [← hwa]
    have BWA : Hid (Below w.heap.size w wa) := Lib.hid (by rw [hwa]; exact (Below.refl _ _).alloc (Nat.le_refl _) _)
    have HH : Hid (wa.heap[w.heap.size]? = some (.cells #[.int .i64 x.kind, .string s, .slice (some ⟨b, off, none⟩) x.subs.length cap] 24 (0, 0))) := Lib.hid (by rw [hwa]; exact heap_new _ _ rfl)
    clear hwa
    go_loopw [3, 9] (fun v i wr => LvRel x wa v i wr) (fun _ i _ => x.subs.length - (intOf i).toNat)
    case atStart => exact ⟨0, Nat.zero_le _, rfl, rfl, Below.refl _ _⟩
    case round =>
      obtain ⟨k, hk, rfl, rfl, hba⟩ := hrel
      have HA := Lib.hid hba
      have HB := Lib.hid (BWA.out.trans (hba.mono BWA.out.size))
      have hh := (hba.block _ (lt_of_heap HH.out)).trans HH.out
      have q0 := cell_at (o := 0) hh (.int .i64 x.kind) rfl
      have hpart := leaves_part x k
      obtain ⟨n, hn⟩ : ∃ n, n = ((x.subs.take k).map Ex.leaves).sum := ⟨_, rfl⟩
      rw [← hn] at hpart ⊢
      have HN := Lib.hid hn
      clear hba hh hn
      by_cases hlt : k < x.subs.length
      · obtain ⟨y, hy⟩ : ∃ y, x.subs[k]? = some y := ⟨_, List.getElem?_eq_getElem hlt⟩
        obtain ⟨y0, y1, y2, g0, g1, g2, hx⟩ := HS.out k y hy
        rw [← HB.out.cell (p := ⟨_, _, none⟩) hb0] at g0 g1 g2
        obtain ⟨sy, ay, cy, rfl, rfl, rfl, -⟩ := hx.form
        have HY := Lib.hid hy
        have HX := Lib.hid hx
        have hly : y.leaves ≤ 1000000000 := Nat.le_trans (leaves_sub (List.mem_of_getElem? hy)) hlv
        clear hy hx
        go_wp2_with fail
        refine (IH.out y (List.mem_of_getElem? HY.out) _ _ _ _ (by exact HX.out.below (HB.out.alloc HB.out.size _)) hly).mono ?_
        rintro e1 w1 ⟨rfl, hb1⟩
        have HB1 := Lib.hid hb1
        clear hb1 g0 g1 g2
        go_wp2_with fail
        exact ⟨⟨k + 1, hlt, by go_num, by rw [List.take_add_one, HY.out, List.map_append, List.sum_append, ← HN.out]; simp, (HA.out.alloc HA.out.size _).trans (HB1.out.mono (HA.out.alloc HA.out.size _).size)⟩, by simp [intOf]; omega⟩
      · have htk : x.subs.take k = x.subs := List.take_of_length_le (by omega)
        have HL : Hid (n = x.leaves) := Lib.hid (by rw [HN.out, htk, leaves_subs x HK.out])
        clear htk
        go_wp2_with fail
        go_ret
        exact ⟨ret_i64 (by rw [HL.out]), HB.out⟩

/- simple -/
def simpT : Ex → Bool
  | .tag _ => true
  | .not (.tag _) => true
  | _ => false
def simpB (x : Ex) : Bool := simpT x || (decide (x.subs.length = 2) && x.subs.all simpT)
theorem simpT_form {x : Ex} (h : simpT x = true) : (∃ t, x = .tag t) ∨ ∃ t, x = .not (.tag t) := by
  cases x with
  | tag t => exact .inl ⟨t, rfl⟩
  | not x =>
    cases x with
    | tag t => exact .inr ⟨t, rfl⟩
    | not x => cases h
    | and x y => cases h
    | or x y => cases h
  | and x y => cases h
  | or x y => cases h
set_option maxHeartbeats 1000000 in
theorem term_any (x : Ex) (c0 c1 c2 : Value) (w : World) (h : XIs (fun _ => True) w x c0 c1 c2) : Calls Tryd.prog 52 #[.agg #[c0, c1, c2]] w (CallPost (simpT x) w) := by
  cases x with
  | tag t =>
    obtain ⟨rfl, rfl, ht, a, cap, rfl⟩ := h
    go_enter Tryd.func52, Tryd.ntmps52
    go_wp2_with fail
    go_ret
    exact ⟨rfl, (Below.refl _ _).alloc (Nat.le_refl _) _⟩
  | not y =>
    obtain ⟨rfl, ⟨s, rfl, hs⟩, b, off, cap, y0, y1, y2, rfl, -, g0, g1, g2, hy⟩ := h
    obtain ⟨sy, ay, cy, rfl, rfl, rfl, -⟩ := hy.form
    have g0a := cellsA g0
    have hkr := kind_range y
    have HV : Hid (simpT (.not y) = (y.kind == 1)) := Lib.hid (by cases y <;> rfl)
    clear hy g1 g2
    cases hk : (y.kind == 1) with
    | true =>
      rw [hk] at HV
      go_enter Tryd.func52, Tryd.ntmps52
      go_wp2_with fail
      go_ret
      exact ⟨ret_bool HV.out.symm, (Below.refl _ _).alloc (Nat.le_refl _) _⟩
    | false =>
      rw [hk] at HV
      go_enter Tryd.func52, Tryd.ntmps52
      go_wp2_with fail
      go_ret
      exact ⟨ret_bool HV.out.symm, (Below.refl _ _).alloc (Nat.le_refl _) _⟩
  | and x y | or x y =>
    obtain ⟨rfl, ⟨s, rfl, hs⟩, b, off, cap, x0, x1, x2, y0, y1, y2, rfl, -⟩ := h
    go_enter Tryd.func52, Tryd.ntmps52
    go_wp2_with fail
    go_ret
    exact ⟨rfl, (Below.refl _ _).alloc (Nat.le_refl _) _⟩
theorem simpB_of {x y z : Ex} (h1 : simpT x = false) (h2 : x.subs = [y, z]) : simpB x = (simpT y && simpT z) := by
  unfold simpB
  rw [h1, h2]
  simp
set_option maxHeartbeats 4000000 in
theorem simple_any (x : Ex) (c0 c1 c2 : Value) (w : World) (h : XIs (fun _ => True) w x c0 c1 c2) : Calls Tryd.prog 30 #[.agg #[c0, c1, c2]] w (CallPost (simpB x) w) := by
  have HX := Lib.hid h
  cases x with
  | tag t =>
    obtain ⟨rfl, rfl, ht, a, cap, rfl⟩ := h
    go_enter Tryd.func30, Tryd.ntmps30
    go_wp2_with fail
    go_at_call 52
    have hba := (Below.refl w.heap.size w).alloc (Nat.le_refl _) (.cells #[.int .i64 1, .string t, .slice a 0 cap] 24)
    refine (term_any (.tag t) _ _ _ _ (HX.out.below hba)).mono ?_
    rintro e1 w1 ⟨rfl, hb1⟩
    have HB1 := Lib.hid (hba.trans (hb1.mono hba.size))
    clear hb1 hba
    rw [show simpT (.tag t) = true from rfl]
    go_wp2_with fail
    go_ret
    exact ⟨rfl, HB1.out⟩
  | not y =>
    obtain ⟨rfl, ⟨s, rfl, hs⟩, b, off, cap, y0, y1, y2, rfl, -⟩ := h
    have HV : Hid (simpB (.not y) = simpT (.not y)) := Lib.hid (by unfold simpB; simp [Ex.subs])
    go_enter Tryd.func30, Tryd.ntmps30
    go_wp2_with fail
    go_at_call 52
    have hba := (Below.refl w.heap.size w).alloc (Nat.le_refl _) (.cells #[.int .i64 2, .string s, .slice (some ⟨b, off, none⟩) 1 cap] 24)
    refine (term_any (.not y) _ _ _ _ (HX.out.below hba)).mono ?_
    rw [← HV.out]
    rintro e1 w1 ⟨rfl, hb1⟩
    have HB1 := Lib.hid (hba.trans (hb1.mono hba.size))
    have hh := (hb1.block w.heap.size (by simp)).trans (heap_new w (.cells #[.int .i64 2, .string s, .slice (some ⟨b, off, none⟩) 1 cap] 24) rfl)
    have q2 := cell_at (o := 2) hh (.slice (some ⟨b, off, none⟩) 1 cap) rfl
    clear hb1 hba hh
    cases hv : simpB (.not y) with
    | true =>
      go_wp2_with fail
      go_ret
      exact ⟨ret_bool hv.symm, HB1.out⟩
    | false =>
      go_wp2_with fail
      go_ret
      exact ⟨ret_bool hv.symm, HB1.out⟩
  | and x y =>
    obtain ⟨rfl, ⟨s, rfl, hs⟩, b, off, cap, x0, x1, x2, y0, y1, y2, rfl, -, g0, g1, g2, g3, g4, g5, hx, hy⟩ := h
    obtain ⟨sx, ax, cx, rfl, rfl, rfl, -⟩ := hx.form
    obtain ⟨sy, ay, cy, rfl, rfl, rfl, -⟩ := hy.form
    have HX1 := Lib.hid hx
    have HY1 := Lib.hid hy
    have HV := Lib.hid (simpB_of (x := .and x y) rfl rfl)
    have hb0 := lt_of_cell g0
    clear hx hy
    go_enter Tryd.func30, Tryd.ntmps30
    go_wp2_with fail
    go_at_call 52
    obtain ⟨wa, hwa⟩ : ∃ wa, wa = w.alloc (.cells #[.int .i64 3, .string s, .slice (some ⟨b, off, none⟩) 2 cap] 24) := ⟨_, rfl⟩
    rw [← hwa]
    have BWA : Hid (Below w.heap.size w wa) := Lib.hid (by rw [hwa]; exact (Below.refl _ _).alloc (Nat.le_refl _) _)
    have HH : Hid (wa.heap[w.heap.size]? = some (.cells #[.int .i64 3, .string s, .slice (some ⟨b, off, none⟩) 2 cap] 24 (0, 0))) := Lib.hid (by rw [hwa]; exact heap_new _ _ rfl)
    clear hwa
    refine (term_any (.and x y) _ _ _ wa (HX.out.below BWA.out)).mono ?_
    rintro e1 w1 ⟨rfl, hb1⟩
    have HB1 := Lib.hid hb1
    have q2 := cell_at (o := 2) ((hb1.block _ (lt_of_heap HH.out)).trans HH.out) (.slice (some ⟨b, off, none⟩) 2 cap) rfl
    have hb := BWA.out.trans (hb1.mono BWA.out.size)
    rw [← hb.cell (p := ⟨_, _, none⟩) hb0] at g0 g1 g2
    have HB := Lib.hid hb
    clear hb1 hb
    rw [show simpT (.and x y) = false from rfl]
    go_wp2_with fail
    go_at_call 52
    refine (term_any x _ _ _ w1 (HX1.out.below HB.out)).mono ?_
    cases hv : simpT x with
    | false =>
      rintro e2 w2 ⟨rfl, hb2⟩
      have HV2 : Hid (simpB (.and x y) = false) := Lib.hid (by rw [HV.out, hv]; rfl)
      have HB2 := Lib.hid (HB.out.trans (hb2.mono HB.out.size))
      clear hb2 hv g0 g1 g2 g3 g4 g5 q2
      go_wp2_with fail
      go_ret
      exact ⟨ret_bool HV2.out.symm, HB2.out⟩
    | true =>
      rintro e2 w2 ⟨rfl, hb2⟩
      have HV2 : Hid (simpB (.and x y) = simpT y) := Lib.hid (by rw [HV.out, hv]; rfl)
      have q2 := cell_at (o := 2) (((HB1.out.trans (hb2.mono HB1.out.size)).block _ (lt_of_heap HH.out)).trans HH.out) (.slice (some ⟨b, off, none⟩) 2 cap) rfl
      have hb := HB.out.trans (hb2.mono HB.out.size)
      rw [← hb.cell (p := ⟨_, _, none⟩) hb0] at g3 g4 g5
      have HB2 := Lib.hid hb
      clear hb2 hv hb g0 g1 g2
      go_wp2_with fail
      go_at_call 52
      refine (term_any y _ _ _ w2 (HY1.out.below HB2.out)).mono ?_
      rw [← HV2.out]
      rintro e3 w3 ⟨rfl, hb3⟩
      have HB3 := Lib.hid (HB2.out.trans (hb3.mono HB2.out.size))
      clear hb3 g3 g4 g5 q2
      go_wp2_with fail
      go_ret
      exact ⟨rfl, HB3.out⟩
  | or x y =>
    obtain ⟨rfl, ⟨s, rfl, hs⟩, b, off, cap, x0, x1, x2, y0, y1, y2, rfl, -, g0, g1, g2, g3, g4, g5, hx, hy⟩ := h
    obtain ⟨sx, ax, cx, rfl, rfl, rfl, -⟩ := hx.form
    obtain ⟨sy, ay, cy, rfl, rfl, rfl, -⟩ := hy.form
    have HX1 := Lib.hid hx
    have HY1 := Lib.hid hy
    have HV := Lib.hid (simpB_of (x := .or x y) rfl rfl)
    have hb0 := lt_of_cell g0
    clear hx hy
    go_enter Tryd.func30, Tryd.ntmps30
    go_wp2_with fail
    go_at_call 52
    obtain ⟨wa, hwa⟩ : ∃ wa, wa = w.alloc (.cells #[.int .i64 4, .string s, .slice (some ⟨b, off, none⟩) 2 cap] 24) := ⟨_, rfl⟩
    rw [← hwa]
    have BWA : Hid (Below w.heap.size w wa) := Lib.hid (by rw [hwa]; exact (Below.refl _ _).alloc (Nat.le_refl _) _)
    have HH : Hid (wa.heap[w.heap.size]? = some (.cells #[.int .i64 4, .string s, .slice (some ⟨b, off, none⟩) 2 cap] 24 (0, 0))) := Lib.hid (by rw [hwa]; exact heap_new _ _ rfl)
    clear hwa
    refine (term_any (.or x y) _ _ _ wa (HX.out.below BWA.out)).mono ?_
    rintro e1 w1 ⟨rfl, hb1⟩
    have HB1 := Lib.hid hb1
    have q2 := cell_at (o := 2) ((hb1.block _ (lt_of_heap HH.out)).trans HH.out) (.slice (some ⟨b, off, none⟩) 2 cap) rfl
    have hb := BWA.out.trans (hb1.mono BWA.out.size)
    rw [← hb.cell (p := ⟨_, _, none⟩) hb0] at g0 g1 g2
    have HB := Lib.hid hb
    clear hb1 hb
    rw [show simpT (.or x y) = false from rfl]
    go_wp2_with fail
    go_at_call 52
    refine (term_any x _ _ _ w1 (HX1.out.below HB.out)).mono ?_
    cases hv : simpT x with
    | false =>
      rintro e2 w2 ⟨rfl, hb2⟩
      have HV2 : Hid (simpB (.or x y) = false) := Lib.hid (by rw [HV.out, hv]; rfl)
      have HB2 := Lib.hid (HB.out.trans (hb2.mono HB.out.size))
      clear hb2 hv g0 g1 g2 g3 g4 g5 q2
      go_wp2_with fail
      go_ret
      exact ⟨ret_bool HV2.out.symm, HB2.out⟩
    | true =>
      rintro e2 w2 ⟨rfl, hb2⟩
      have HV2 : Hid (simpB (.or x y) = simpT y) := Lib.hid (by rw [HV.out, hv]; rfl)
      have q2 := cell_at (o := 2) (((HB1.out.trans (hb2.mono HB1.out.size)).block _ (lt_of_heap HH.out)).trans HH.out) (.slice (some ⟨b, off, none⟩) 2 cap) rfl
      have hb := HB.out.trans (hb2.mono HB.out.size)
      rw [← hb.cell (p := ⟨_, _, none⟩) hb0] at g3 g4 g5
      have HB2 := Lib.hid hb
      clear hb2 hv hb g0 g1 g2
      go_wp2_with fail
      go_at_call 52
      refine (term_any y _ _ _ w2 (HY1.out.below HB2.out)).mono ?_
      rw [← HV2.out]
      rintro e3 w3 ⟨rfl, hb3⟩
      have HB3 := Lib.hid (HB2.out.trans (hb3.mono HB2.out.size))
      clear hb3 g3 g4 g5 q2
      go_wp2_with fail
      go_ret
      exact ⟨rfl, HB3.out⟩
theorem simp_fine {x : Ex} (h : simpB x = true) : fineR (rowsE (pn false x)) = true := by
  unfold simpB at h
  rw [Bool.or_eq_true] at h
  rcases h with h | h
  · rcases simpT_form h with ⟨t, rfl⟩ | ⟨t, rfl⟩ <;> rfl
  · rw [Bool.and_eq_true] at h
    obtain ⟨h1, h2⟩ := h
    cases x with
    | tag t => simp [Ex.subs] at h1
    | not x => simp [Ex.subs] at h1
    | and x y =>
      simp only [Ex.subs, List.all_cons, List.all_nil, Bool.and_true, Bool.and_eq_true] at h2
      rcases simpT_form h2.1 with ⟨t, rfl⟩ | ⟨t, rfl⟩ <;> rcases simpT_form h2.2 with ⟨u, rfl⟩ | ⟨u, rfl⟩ <;> rfl
    | or x y =>
      simp only [Ex.subs, List.all_cons, List.all_nil, Bool.and_true, Bool.and_eq_true] at h2
      rcases simpT_form h2.1 with ⟨t, rfl⟩ | ⟨t, rfl⟩ <;> rcases simpT_form h2.2 with ⟨u, rfl⟩ | ⟨u, rfl⟩ <;> rfl
end Go.Proofs.YteemenhinhkonaaDoor
/- What a row reads of an expression (impl.Expr), opened, where it is of small bulk: its tags are short. -/
namespace Go.Proofs.YteemenhinhkonaaDoor
open Go.ChangeShapes Go.WideShapes Go.ChangeAt Go.RowKit Go.Deep Go.Joins

inductive E.Small : E → Prop
  | mk {k : Int} {t : ByteArray} {l : List E} : t.size ≤ 1048576 → (∀ (i : Nat) (x : E), l[i]? = some x → E.Small x) → E.Small (.mk k t l)
theorem E.Small.tag {e : E} (h : E.Small e) : e.tag.size ≤ 1048576 := by cases h with | mk h1 h2 => exact h1
theorem E.Small.sub {e : E} (h : E.Small e) {i : Nat} {x : E} (hx : e.subs[i]? = some x) : E.Small x := by cases h with | mk h1 h2 => exact h2 i x hx
theorem E.Small.tagsLe : ∀ {x : Ex} {e : E}, isEx x e → E.Small e → x.tagsLe 1048576 := by
  intro x
  induction x with
  | tag t =>
    intro e hi h
    obtain ⟨hk, ht, hs⟩ := hi
    have := h.tag
    rw [ht] at this
    exact this
  | not x ih =>
    intro e hi h
    obtain ⟨hk, y, hs, hy⟩ := hi
    exact ih hy (h.sub (i := 0) (by rw [hs]; rfl))
  | and x y ihx ihy | or x y ihx ihy =>
    intro e hi h
    obtain ⟨hk, p, q, hs, hp, hq⟩ := hi
    exact ⟨ihx hp (h.sub (i := 0) (by rw [hs]; rfl)), ihy hq (h.sub (i := 1) (by rw [hs]; rfl))⟩
theorem bulk_pos {H : Type} (d : DataW H) : 1 ≤ Rows.uptoBulk d := by
  cases d with
  | lit l => cases l <;> simp [Rows.uptoBulk]
  | _ => simp [Rows.uptoBulk]
theorem bulkAll_len {H : Type} : ∀ l : List (DataW H), l.length ≤ Rows.uptoBulkAll l := by
  intro l
  induction l with
  | nil => simp
  | cons d r ih =>
    have := bulk_pos d
    simp only [Rows.uptoBulkAll, List.length_cons]
    omega
theorem bulkAll_mem {H : Type} {d : DataW H} : ∀ {l : List (DataW H)}, d ∈ l → Rows.uptoBulk d ≤ Rows.uptoBulkAll l := by
  intro l
  induction l with
  | nil => intro h; cases h
  | cons x r ih =>
    intro h
    simp only [Rows.uptoBulkAll]
    rcases List.mem_cons.1 h with rfl | h
    · omega
    · have := ih h
      omega

set_option maxRecDepth 1000000 in
theorem EIs_of_bulk {H : Type} {enc : TypeId × Value → H} {w : World} {spare : Nat → Bool} {held : Bool} (N : Nat) : ∀ (fuel : Nat), fuel ≤ N → ∀ (cs : List Value) (x : DataW H × List MemPlace),
    DataW.trod enc Tryd.prog w 0 spare held fuel 29 cs = some x → Rows.uptoBulk x.1 ≤ 1048576 → ∃ c0 c1 c2 e, cs = [c0, c1, c2] ∧ EIs (fun _ => True) w fuel e c0 c1 c2 ∧ E.Small e := by
  induction N with
  | zero =>
    intro fuel hf cs x h
    obtain rfl : fuel = 0 := by omega
    simp [DataW.trod] at h
  | succ N ih =>
    intro fuel hf cs x h hw
    obtain ⟨xs, n, rfl, rfl, hlen, hxl, hfields⟩ := DataW.trod_struct Tryd.underlying29 h
    rw [cells_impl] at hlen
    obtain ⟨c0, c1, c2, rfl⟩ : ∃ c0 c1 c2, cs = [c0, c1, c2] := by
      match cs, hlen with
      | [c0, c1, c2], _ => exact ⟨c0, c1, c2, rfl⟩
    obtain ⟨y0, y1, y2, rfl⟩ : ∃ y0 y1 y2, xs = [y0, y1, y2] := by
      match xs, hxl with
      | [y0, y1, y2], _ => exact ⟨y0, y1, y2, rfl⟩
    have f0 := hfields 0 _ rfl
    have f1 := hfields 1 _ rfl
    have f2 := hfields 2 _ rfl
    simp [cells_int, cells_str, cells_subs] at f0 f1 f2
    obtain ⟨k, hk, hy0, hkw⟩ := DataW.trod_int Tryd.underlying3 f0
    obtain ⟨t, ht, hy1, hts⟩ := DataW.trod_string Tryd.underlying9 f1
    simp at hk ht
    subst hk ht
    simp only [Rows.uptoBulk, Rows.uptoBulkAll, List.map_cons, List.map_nil, hy0, hy1] at hw
    have hte : t.data.toList.length = t.size := by simp
    have htl : t.size ≤ 1048576 := by omega
    have hw2 : Rows.uptoBulk y2.1 ≤ 1048576 := by omega
    have hkb : -9223372036854775808 ≤ k ∧ k ≤ 9223372036854775807 := by simpa [Lit.wf, IntKind.min, IntKind.max, IntKind.signed, IntKind.bits] using hkw
    refine ⟨.int .i64 k, .string t, c2, ?_⟩
    rcases DataW.trod_slice Tryd.underlying27 f2 with ⟨hc2, hy2⟩ | ⟨a, len, cap, elems, rest, n', hn', hc2, hy2, hb, hl, hm, hel, helems, -⟩
    · simp at hc2
      subst hc2
      exact ⟨.mk k t [], rfl, ⟨rfl, hkb.1, hkb.2, rfl, Nat.le_trans htl (by decide), none, 0, rfl, by simp [E.subs], fun i x hx => by simp [E.subs] at hx⟩, .mk htl fun i x hx => by simp at hx⟩
    · simp at hc2
      subst hc2 hn'
      rw [hy2] at hw2
      simp only [Rows.uptoBulk] at hw2
      have hbound : len * 48 ≤ 140737488355328 := by
        have := bulkAll_len (elems.map (·.1))
        rw [List.length_map, hel] at this
        omega
      have hspot : 0 < len → a.spot = none := by
        intro h0
        have h1 := helems 0 h0
        have hei : elems[0]? = some (elems[0]'(by omega)) := List.getElem?_eq_getElem (by omega)
        rw [hei] at h1
        cases hcells : w.cells? 0 (a.add (0 * Tryd.prog.cellsOf 29)) (Tryd.prog.cellsOf 29) with
        | none => rw [hcells] at h1; simp at h1
        | some cs' =>
          rw [hcells] at h1
          obtain ⟨_, hl', hat⟩ := World.cells?_some hcells
          rw [cells_impl] at hat hl'
          have g0 := hat 0 (by omega)
          rw [List.getElem?_eq_getElem (by omega)] at g0
          have := spot_of_cell g0
          simpa [Addr.add] using this
      have each : ∀ i, i < len → ∃ ex : E, ∃ b off x0 x1 x2, some a = some ⟨b, off, none⟩ ∧ w.cell? ⟨b, off + i * 3, none⟩ = some x0 ∧ w.cell? ⟨b, off + i * 3 + 1, none⟩ = some x1 ∧ w.cell? ⟨b, off + i * 3 + 2, none⟩ = some x2 ∧ EIs (fun _ => True) w (n' + 1) ex x0 x1 x2 ∧ E.Small ex := by
        intro i hi
        have h1 := helems i hi
        have hei : elems[i]? = some (elems[i]'(by omega)) := List.getElem?_eq_getElem (by omega)
        rw [hei] at h1
        cases hcells : w.cells? 0 (a.add (i * Tryd.prog.cellsOf 29)) (Tryd.prog.cellsOf 29) with
        | none => rw [hcells] at h1; simp at h1
        | some cs' =>
          rw [hcells] at h1
          simp only [Option.bind_some] at h1
          have hwi : Rows.uptoBulk (elems[i]'(by omega)).1 ≤ 1048576 := by
            have := bulkAll_mem (List.mem_map.2 ⟨_, List.getElem_mem _, rfl⟩ : (elems[i]'(by omega)).1 ∈ elems.map (·.1))
            omega
          obtain ⟨x0, x1, x2, ex, rfl, hE, hS⟩ := ih n' (by omega) cs' _ h1 hwi
          obtain ⟨_, _, hat⟩ := World.cells?_some hcells
          rw [cells_impl] at hat
          have g0 := hat 0 (by omega)
          have g1 := hat 1 (by omega)
          have g2 := hat 2 (by omega)
          simp at g0 g1 g2
          have e0 : a.spot = none := hspot (by omega)
          obtain ⟨b, off, s⟩ := a
          simp at e0
          subst e0
          rw [addr_add] at g0 g1 g2
          rw [addr_add] at g0 g1 g2
          exact ⟨ex, b, off, x0, x1, x2, rfl, by simpa using g0, g1, g2, hE.deeper (by omega), hS⟩
      obtain ⟨l, hll, hq⟩ := choose_list len each
      refine ⟨.mk k t l, rfl, ⟨rfl, hkb.1, hkb.2, rfl, Nat.le_trans htl (by decide), some a, cap, by rw [E.subs, hll], by rw [E.subs, hll]; exact hbound, fun i x hx => ?_⟩, .mk htl fun i x hx => ?_⟩
      · obtain ⟨b, off, x0, x1, x2, ha, g0, g1, g2, hE, -⟩ := hq i x hx
        exact ⟨b, off, x0, x1, x2, ha, trivial, g0, g1, g2, hE⟩
      · obtain ⟨b, off, x0, x1, x2, ha, g0, g1, g2, hE, hS⟩ := hq i x hx
        exact hS
end Go.Proofs.YteemenhinhkonaaDoor
