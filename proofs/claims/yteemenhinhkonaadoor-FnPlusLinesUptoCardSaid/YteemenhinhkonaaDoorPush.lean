/- The package's pushNot: negations go to the leaves. -/
import Derived.Test.YteemenhinhkonaaDoorPlusD
import Derived.LaidEql
import Derived.Test.YteemenhinhkonaaDoorApp
import Derived.Test.YteemenhinhkonaaDoorTags
namespace Go.Proofs.YteemenhinhkonaaDoor
open Go.RowKit

/- the plain law -/
def pn : Bool → Ex → Ex
  | b, .tag t => if b then .not (.tag t) else .tag t
  | b, .not x => pn (!b) x
  | b, .and x y => if b then .or (pn b x) (pn b y) else .and (pn b x) (pn b y)
  | b, .or x y => if b then .and (pn b x) (pn b y) else .or (pn b x) (pn b y)
theorem pn_eval (ok : ByteArray → Bool) (x : Ex) : ∀ b, (pn b x).eval ok = (b != x.eval ok) := by
  induction x with
  | tag t => intro b; cases b <;> simp [pn, Ex.eval]
  | not x ih => intro b; cases b <;> simp [pn, Ex.eval, ih]
  | and x y ihx ihy | or x y ihx ihy => intro b; cases b <;> simp [pn, Ex.eval, ihx, ihy]
theorem pn_leaves (x : Ex) : ∀ b, (pn b x).leaves = x.leaves := by
  induction x with
  | tag t => intro b; cases b <;> simp [pn, Ex.leaves]
  | not x ih => intro b; cases b <;> simp [pn, Ex.leaves, ih]
  | and x y ihx ihy | or x y ihx ihy => intro b; cases b <;> simp [pn, Ex.leaves, ihx, ihy]
theorem pn_tagsOk (x : Ex) : ∀ b, x.tagsOk → (pn b x).tagsOk := by
  induction x with
  | tag t => intro b h; cases b <;> simpa [pn, Ex.tagsOk] using h
  | not x ih => intro b h; cases b <;> simpa [pn, Ex.tagsOk] using ih _ h
  | and x y ihx ihy | or x y ihx ihy => intro b h; cases b <;> simpa [pn, Ex.tagsOk] using ⟨ihx _ h.1, ihy _ h.2⟩
/- negations at the leaves only -/
def Ex.nnf : Ex → Prop
  | .tag _ => True
  | .not x => ∃ t, x = .tag t
  | .and x y | .or x y => x.nnf ∧ y.nnf
theorem pn_nnf (x : Ex) : ∀ b, (pn b x).nnf := by
  induction x with
  | tag t => intro b; cases b <;> simp [pn, Ex.nnf]
  | not x ih => intro b; cases b <;> simp [pn, ih]
  | and x y ihx ihy | or x y ihx ihy => intro b; cases b <;> simp [pn, Ex.nnf, ihx, ihy]

/- one value, one expression -/
theorem CIs.inj {w : World} : ∀ {x y : Ex} {v : Value}, CIs w x v → CIs w y v → x = y := by
  intro x
  induction x with
  | tag t =>
    rintro y v ⟨b, rfl, h1, h2⟩ hy
    cases y with
    | tag u => obtain ⟨c, e, h3, h4⟩ := hy; simp at e; subst e; rw [h1] at h3; simp at h3; rw [h3]
    | not y => obtain ⟨c, _, e, _⟩ := hy; simp at e
    | and y z => obtain ⟨c, _, _, e, _⟩ := hy; simp at e
    | or y z => obtain ⟨c, _, _, e, _⟩ := hy; simp at e
  | not x ih =>
    rintro y v ⟨b, vx, rfl, h1, h2⟩ hy
    cases y with
    | tag u => obtain ⟨c, e, _⟩ := hy; simp at e
    | not y => obtain ⟨c, vy, e, h3, h4⟩ := hy; simp at e; subst e; rw [h1] at h3; simp at h3; subst h3; rw [ih h2 h4]
    | and y z => obtain ⟨c, _, _, e, _⟩ := hy; simp at e
    | or y z => obtain ⟨c, _, _, e, _⟩ := hy; simp at e
  | and x x' ih ih' =>
    rintro y v ⟨b, vx, vx', rfl, h1, h2, h2'⟩ hy
    cases y with
    | tag u => obtain ⟨c, e, _⟩ := hy; simp at e
    | not y => obtain ⟨c, _, e, _⟩ := hy; simp at e
    | and y z => obtain ⟨c, vy, vz, e, h3, h4, h5⟩ := hy; simp at e; subst e; rw [h1] at h3; simp at h3; obtain ⟨rfl, rfl⟩ := h3; rw [ih h2 h4, ih' h2' h5]
    | or y z => obtain ⟨c, _, _, e, _⟩ := hy; simp at e
  | or x x' ih ih' =>
    rintro y v ⟨b, vx, vx', rfl, h1, h2, h2'⟩ hy
    cases y with
    | tag u => obtain ⟨c, e, _⟩ := hy; simp at e
    | not y => obtain ⟨c, _, e, _⟩ := hy; simp at e
    | and y z => obtain ⟨c, _, _, e, _⟩ := hy; simp at e
    | or y z => obtain ⟨c, vy, vz, e, h3, h4, h5⟩ := hy; simp at e; subst e; rw [h1] at h3; simp at h3; obtain ⟨rfl, rfl⟩ := h3; rw [ih h2 h4, ih' h2' h5]

/- two nodes held against each other -/
theorem node_block {w : World} {x : Ex} {b : Nat} (h : CIs w x (.iface x.ptr (.pointer (some ⟨b, 0, none⟩)))) : ∃ cs t, w.heap[b]? = some (.cells cs t (0, 0)) := by
  cases x with
  | tag t => obtain ⟨c, e, h, _⟩ := h; simp at e; obtain ⟨-, rfl⟩ := e; exact ⟨_, _, h⟩
  | not x => obtain ⟨c, _, e, h, _⟩ := h; simp at e; obtain ⟨-, rfl⟩ := e; exact ⟨_, _, h⟩
  | and x y => obtain ⟨c, _, _, e, h, _⟩ := h; simp at e; obtain ⟨-, rfl⟩ := e; exact ⟨_, _, h⟩
  | or x y => obtain ⟨c, _, _, e, h, _⟩ := h; simp at e; obtain ⟨-, rfl⟩ := e; exact ⟨_, _, h⟩
def Ex.node : Ex → TypeId
  | .tag _ => 96
  | .not _ => 88
  | .and _ _ => 91
  | .or _ _ => 93
theorem eql_differ (w : World) {t u : TypeId} {x y : Value} (h : t ≠ u) : (binOp .eql 63 (.iface t x) (.iface u y)).run Tryd.prog w = .ok (.bool false) w := by
  have hi := Tryd.underlying63
  have h1 : ∀ d : Nat, (Op.equalIn (d + 1) 63 (.iface t x) (.iface u y)).run Tryd.prog w = .ok false w := fun d => by simp [Op.equalIn, run_underlying hi, h]
  simp only [binOp]
  simp [Op.equal, Op.maxDepth, h1 9999]
theorem eql_nodes {w : World} {x y : Ex} {b c : Nat} (hx : CIs w x (.iface x.ptr (.pointer (some ⟨b, 0, none⟩)))) (hy : CIs w y (.iface y.ptr (.pointer (some ⟨c, 0, none⟩)))) :
    ∃ r, (∀ n, (binOp .eql 63 (.iface x.ptr (.pointer (some ⟨b, 0, none⟩))) (.iface y.ptr (.pointer (some ⟨c, 0, none⟩)))).run Tryd.prog (w.drewN n) = .ok (.bool r) (w.drewN n)) ∧ (r = true → x = y) := by
  by_cases ht : x.ptr = y.ptr
  · obtain ⟨ca, ta, ha⟩ := node_block hx
    obtain ⟨cb, tb, hb⟩ := node_block hy
    have hi := Tryd.underlying63
    have facts : ∃ te, Tryd.prog.underlying y.ptr = some (.pointer te) ∧ (Tryd.prog.info? y.ptr).map (fun i => i.comparable) = some true ∧ (Tryd.prog.info? te).map (fun j => j.size != 0) = some true := by
      cases y with
      | tag _ => exact ⟨96, by kernel_rfl, by kernel_rfl, by kernel_rfl⟩
      | not _ => exact ⟨88, by kernel_rfl, by kernel_rfl, by kernel_rfl⟩
      | and _ _ => exact ⟨91, by kernel_rfl, by kernel_rfl, by kernel_rfl⟩
      | or _ _ => exact ⟨93, by kernel_rfl, by kernel_rfl, by kernel_rfl⟩
    obtain ⟨te, f1, e2, e4⟩ := facts
    obtain ⟨i, f2, f3⟩ := Option.map_eq_some_iff.1 e2
    obtain ⟨j, f4, f5⟩ := Option.map_eq_some_iff.1 e4
    by_cases hbc : b = c
    · subst hbc
      rw [ht] at hx ⊢
      exact ⟨true, fun n => run_eql_iface_ptr_same _ _ hi f1 f2 f3 f4, fun _ => hx.inj hy⟩
    · rw [ht]
      exact ⟨false, fun n => run_eql_iface_ptr_other _ hi f1 f2 f3 f4 (by simpa using f5) (fun e => hbc (by injection e)) ha hb, fun h => by cases h⟩
  · exact ⟨false, fun n => eql_differ _ ht, fun h => by cases h⟩

/- the walk -/
set_option maxHeartbeats 8000000 in
set_option maxRecDepth 100000 in
theorem push_any (x : Ex) : ∀ (n : Bool) (b : Nat) (w : World), CIs w x (.iface x.ptr (.pointer (some ⟨b, 0, none⟩))) → Calls Tryd.prog 62 #[.iface x.ptr (.pointer (some ⟨b, 0, none⟩)), .bool n] w (NewC (pn n x) w) := by
  induction x with
  | tag t =>
    intro n b w h
    have HC := Lib.hid h
    have t2 := fun w => (ta_no (.tag t) b w).2.1 rfl
    have t1 := fun w => ta_yes (.tag t) b w
    simp only [Ex.ptr] at t1 t2
    clear h
    simp only [Ex.ptr]
    cases n
    · go_enter Tryd.func62, Tryd.ntmps62
      go_wp2_with fail
      go_ret
      exact ⟨b, rfl, HC.out, Below.refl _ _⟩
    · go_enter Tryd.func62, Tryd.ntmps62
      go_wp2_with fail
      go_ret
      have hn := fun o => (Below.refl w.heap.size w).alloc (Nat.le_refl _) o
      exact ⟨w.heap.size, rfl, ⟨w.heap.size, _, rfl, heap_new _ _ rfl, HC.out.below (hn _)⟩, hn _⟩
  | not x ih =>
    intro n b w h
    have HC := Lib.hid h
    obtain ⟨b', vx, e, hh, hx⟩ := h
    simp at e
    obtain ⟨-, rfl⟩ := e
    obtain ⟨bx, rfl⟩ := hx.form
    have q0 := cell_at (o := 0) hh (.iface x.ptr (.pointer (some ⟨bx, 0, none⟩))) rfl
    have t2 := fun w => ta_yes (.not x) b w
    simp only [Ex.ptr] at t2
    have HX := Lib.hid hx
    have IH := Lib.hid ih
    clear hh hx ih
    simp only [Ex.ptr]
    by_cases hk : (x.kind == 1) = true
    · have t1 := fun w => ta_yes x bx w
      obtain ⟨t, rfl⟩ : ∃ t, x = .tag t := by cases x <;> simp_all [Ex.kind]
      simp only [Ex.ptr] at t1 q0
      cases n
      · go_enter Tryd.func62, Tryd.ntmps62
        go_wp2_with fail
        go_ret
        exact ⟨b, rfl, HC.out, Below.refl _ _⟩
      · go_enter Tryd.func62, Tryd.ntmps62
        go_wp2_with (go_at_call 62; refine (IH.out false bx _ HX.out).mono ?_; rintro e1 w1 ⟨b1, rfl, hc1, hb1⟩; have HC1 := Lib.hid hc1; have HB1 := Lib.hid hb1; clear hc1 hb1)
        go_ret
        exact ⟨b1, rfl, HC1.out, HB1.out⟩
    · have t1 := fun w => (ta_no x bx w).1 (by simpa using hk)
      cases n
      · go_enter Tryd.func62, Tryd.ntmps62
        go_wp2_with (go_at_call 62; refine (IH.out true bx _ HX.out).mono ?_; rintro e1 w1 ⟨b1, rfl, hc1, hb1⟩; have HC1 := Lib.hid hc1; have HB1 := Lib.hid hb1; clear hc1 hb1)
        go_ret
        exact ⟨b1, rfl, HC1.out, HB1.out⟩
      · go_enter Tryd.func62, Tryd.ntmps62
        go_wp2_with (go_at_call 62; refine (IH.out false bx _ HX.out).mono ?_; rintro e1 w1 ⟨b1, rfl, hc1, hb1⟩; have HC1 := Lib.hid hc1; have HB1 := Lib.hid hb1; clear hc1 hb1)
        go_ret
        exact ⟨b1, rfl, HC1.out, HB1.out⟩
  | and x y ihx ihy =>
    intro n b w h
    have HC := Lib.hid h
    obtain ⟨b', vx, vy, e, hh, hx, hy⟩ := h
    simp at e
    obtain ⟨-, rfl⟩ := e
    obtain ⟨bx, rfl⟩ := hx.form
    obtain ⟨by_, rfl⟩ := hy.form
    have k0 := cell_at (o := 0) hh (.iface x.ptr (.pointer (some ⟨bx, 0, none⟩))) rfl
    have k1 := cell_at (o := 1) hh (.iface y.ptr (.pointer (some ⟨by_, 0, none⟩))) rfl
    have t2 := fun w => (ta_no (.and x y) b w).2.1 rfl
    have t1 := fun w => (ta_no (.and x y) b w).1 rfl
    have t3 := fun w => ta_yes (.and x y) b w
    simp only [Ex.ptr] at t1 t2 t3
    have HX := Lib.hid hx
    have HY := Lib.hid hy
    have HH := Lib.hid hh
    have IX := Lib.hid ihx
    have IY := Lib.hid ihy
    clear hh hx hy ihx ihy
    simp only [Ex.ptr]
    cases n
    · go_enter Tryd.func62, Tryd.ntmps62
      go_wp2_with (go_at_call 62; (with_reducible refine (IX.out false bx _ (by exact HX.out)).mono ?_); rintro e1 w1 ⟨b1, rfl, hc1, hb1⟩; have HC1 := Lib.hid hc1; have HB1 := Lib.hid hb1; have hk := (hb1.block b (lt_of_heap HH.out)).trans HH.out; have q0 := cell_at (o := 0) hk (.iface x.ptr (.pointer (some ⟨bx, 0, none⟩))) rfl; have q1 := cell_at (o := 1) hk (.iface y.ptr (.pointer (some ⟨by_, 0, none⟩))) rfl; clear hb1 hc1 hk k0 k1)
      go_wp2_with (go_at_call 62; (with_reducible refine (IY.out false by_ _ (by exact HY.out.below HB1.out)).mono ?_); rintro e2 w2 ⟨b2, rfl, hc2, hb2⟩; have HC2 := Lib.hid hc2; have HC1b := Lib.hid (HC1.out.below hb2); have HB2 := Lib.hid (HB1.out.trans (hb2.mono HB1.out.size)); have hk := (HB2.out.block b (lt_of_heap HH.out)).trans HH.out; have p0 := cell_at (o := 0) hk (.iface x.ptr (.pointer (some ⟨bx, 0, none⟩))) rfl; have p1 := cell_at (o := 1) hk (.iface y.ptr (.pointer (some ⟨by_, 0, none⟩))) rfl; obtain ⟨r1, E1, hr1⟩ := eql_nodes HC1b.out (HX.out.below HB2.out); obtain ⟨r2, E2, hr2⟩ := eql_nodes HC2.out (HY.out.below HB2.out); have HR1 := Lib.hid hr1; have HR2 := Lib.hid hr2; have E10 := E1 0; have E20 := E2 0; clear hb2 hc2 hk hr1 hr2 q0 q1)
      simp only [World.drewN_zero] at E10 E20
      clear E1 E2
      by_cases hr : r1 = true ∧ r2 = true
      · obtain ⟨rfl, rfl⟩ := hr
        have hx := HR1.out rfl
        have hy := HR2.out rfl
        have HE : Hid (pn false (.and x y) = .and x y) := Lib.hid (by simp [pn, hx, hy])
        clear hx hy
        go_wp2_with fail
        go_ret
        exact ⟨b, by rw [HE.out]; rfl, by rw [HE.out]; exact HC.out.below HB2.out, HB2.out⟩
      · cases r1
        · clear hr
          go_wp2_with fail
          rw [E10]
          go_wp2_with (go_at_call 80; (with_reducible refine (mkAndC _ _ b1 b2 _ HC1b.out HC2.out).mono ?_); rintro e3 w3 ⟨b3, rfl, hc3, hb3⟩; have HC3 := Lib.hid hc3; have HB3 := Lib.hid (HB2.out.trans (hb3.mono HB2.out.size)); clear hc3 hb3)
          go_ret
          exact ⟨b3, rfl, HC3.out, HB3.out⟩
        · obtain rfl : r2 = false := by cases r2 <;> simp_all
          clear hr
          go_wp2_with fail
          try rw [E10]
          go_wp2_with fail
          try rw [E20]
          go_wp2_with (go_at_call 80; (with_reducible refine (mkAndC _ _ b1 b2 _ HC1b.out HC2.out).mono ?_); rintro e3 w3 ⟨b3, rfl, hc3, hb3⟩; have HC3 := Lib.hid hc3; have HB3 := Lib.hid (HB2.out.trans (hb3.mono HB2.out.size)); clear hc3 hb3)
          go_ret
          exact ⟨b3, rfl, HC3.out, HB3.out⟩
    · go_enter Tryd.func62, Tryd.ntmps62
      go_wp2_with (first | (go_at_call 81; (with_reducible refine (mkOrC _ _ b1 b2 _ HC1b.out HC2.out).mono ?_); rintro e3 w3 ⟨b3, rfl, hc3, hb3⟩; have HC3 := Lib.hid hc3; have HB3 := Lib.hid (HB2.out.trans (hb3.mono HB2.out.size)); clear hc3 hb3) | (go_at_call 62; (with_reducible refine (IY.out true by_ _ (by exact HY.out.below HB1.out)).mono ?_); rintro e2 w2 ⟨b2, rfl, hc2, hb2⟩; have HC2 := Lib.hid hc2; have HC1b := Lib.hid (HC1.out.below hb2); have HB2 := Lib.hid (HB1.out.trans (hb2.mono HB1.out.size)); clear hb2 hc2) | (go_at_call 62; (with_reducible refine (IX.out true bx _ (by exact HX.out)).mono ?_); rintro e1 w1 ⟨b1, rfl, hc1, hb1⟩; have HC1 := Lib.hid hc1; have HB1 := Lib.hid hb1; have hk := (hb1.block b (lt_of_heap HH.out)).trans HH.out; have q0 := cell_at (o := 0) hk (.iface x.ptr (.pointer (some ⟨bx, 0, none⟩))) rfl; have q1 := cell_at (o := 1) hk (.iface y.ptr (.pointer (some ⟨by_, 0, none⟩))) rfl; clear hb1 hc1 hk k0 k1))
      go_ret
      exact ⟨b3, rfl, HC3.out, HB3.out⟩
  | or x y ihx ihy =>
    intro n b w h
    have HC := Lib.hid h
    obtain ⟨b', vx, vy, e, hh, hx, hy⟩ := h
    simp at e
    obtain ⟨-, rfl⟩ := e
    obtain ⟨bx, rfl⟩ := hx.form
    obtain ⟨by_, rfl⟩ := hy.form
    have k0 := cell_at (o := 0) hh (.iface x.ptr (.pointer (some ⟨bx, 0, none⟩))) rfl
    have k1 := cell_at (o := 1) hh (.iface y.ptr (.pointer (some ⟨by_, 0, none⟩))) rfl
    have t2 := fun w => (ta_no (.or x y) b w).2.1 rfl
    have t1 := fun w => (ta_no (.or x y) b w).1 rfl
    have t3 := fun w => (ta_no (.or x y) b w).2.2.1 rfl
    have t4 := fun w => ta_yes (.or x y) b w
    simp only [Ex.ptr] at t1 t2 t3 t4
    have HX := Lib.hid hx
    have HY := Lib.hid hy
    have HH := Lib.hid hh
    have IX := Lib.hid ihx
    have IY := Lib.hid ihy
    clear hh hx hy ihx ihy
    simp only [Ex.ptr]
    cases n
    · go_enter Tryd.func62, Tryd.ntmps62
      go_wp2_with (go_at_call 62; (with_reducible refine (IX.out false bx _ (by exact HX.out)).mono ?_); rintro e1 w1 ⟨b1, rfl, hc1, hb1⟩; have HC1 := Lib.hid hc1; have HB1 := Lib.hid hb1; have hk := (hb1.block b (lt_of_heap HH.out)).trans HH.out; have q0 := cell_at (o := 0) hk (.iface x.ptr (.pointer (some ⟨bx, 0, none⟩))) rfl; have q1 := cell_at (o := 1) hk (.iface y.ptr (.pointer (some ⟨by_, 0, none⟩))) rfl; clear hb1 hc1 hk k0 k1)
      go_wp2_with (go_at_call 62; (with_reducible refine (IY.out false by_ _ (by exact HY.out.below HB1.out)).mono ?_); rintro e2 w2 ⟨b2, rfl, hc2, hb2⟩; have HC2 := Lib.hid hc2; have HC1b := Lib.hid (HC1.out.below hb2); have HB2 := Lib.hid (HB1.out.trans (hb2.mono HB1.out.size)); have hk := (HB2.out.block b (lt_of_heap HH.out)).trans HH.out; have p0 := cell_at (o := 0) hk (.iface x.ptr (.pointer (some ⟨bx, 0, none⟩))) rfl; have p1 := cell_at (o := 1) hk (.iface y.ptr (.pointer (some ⟨by_, 0, none⟩))) rfl; obtain ⟨r1, E1, hr1⟩ := eql_nodes HC1b.out (HX.out.below HB2.out); obtain ⟨r2, E2, hr2⟩ := eql_nodes HC2.out (HY.out.below HB2.out); have HR1 := Lib.hid hr1; have HR2 := Lib.hid hr2; have E10 := E1 0; have E20 := E2 0; clear hb2 hc2 hk hr1 hr2 q0 q1)
      simp only [World.drewN_zero] at E10 E20
      clear E1 E2
      by_cases hr : r1 = true ∧ r2 = true
      · obtain ⟨rfl, rfl⟩ := hr
        have hx := HR1.out rfl
        have hy := HR2.out rfl
        have HE : Hid (pn false (.or x y) = .or x y) := Lib.hid (by simp [pn, hx, hy])
        clear hx hy
        go_wp2_with fail
        go_ret
        exact ⟨b, by rw [HE.out]; rfl, by rw [HE.out]; exact HC.out.below HB2.out, HB2.out⟩
      · cases r1
        · clear hr
          go_wp2_with fail
          rw [E10]
          go_wp2_with (go_at_call 81; (with_reducible refine (mkOrC _ _ b1 b2 _ HC1b.out HC2.out).mono ?_); rintro e3 w3 ⟨b3, rfl, hc3, hb3⟩; have HC3 := Lib.hid hc3; have HB3 := Lib.hid (HB2.out.trans (hb3.mono HB2.out.size)); clear hc3 hb3)
          go_ret
          exact ⟨b3, rfl, HC3.out, HB3.out⟩
        · obtain rfl : r2 = false := by cases r2 <;> simp_all
          clear hr
          go_wp2_with fail
          try rw [E10]
          go_wp2_with fail
          try rw [E20]
          go_wp2_with (go_at_call 81; (with_reducible refine (mkOrC _ _ b1 b2 _ HC1b.out HC2.out).mono ?_); rintro e3 w3 ⟨b3, rfl, hc3, hb3⟩; have HC3 := Lib.hid hc3; have HB3 := Lib.hid (HB2.out.trans (hb3.mono HB2.out.size)); clear hc3 hb3)
          go_ret
          exact ⟨b3, rfl, HC3.out, HB3.out⟩
    · go_enter Tryd.func62, Tryd.ntmps62
      go_wp2_with (first | (go_at_call 80; (with_reducible refine (mkAndC _ _ b1 b2 _ HC1b.out HC2.out).mono ?_); rintro e3 w3 ⟨b3, rfl, hc3, hb3⟩; have HC3 := Lib.hid hc3; have HB3 := Lib.hid (HB2.out.trans (hb3.mono HB2.out.size)); clear hc3 hb3) | (go_at_call 62; (with_reducible refine (IY.out true by_ _ (by exact HY.out.below HB1.out)).mono ?_); rintro e2 w2 ⟨b2, rfl, hc2, hb2⟩; have HC2 := Lib.hid hc2; have HC1b := Lib.hid (HC1.out.below hb2); have HB2 := Lib.hid (HB1.out.trans (hb2.mono HB1.out.size)); clear hb2 hc2) | (go_at_call 62; (with_reducible refine (IX.out true bx _ (by exact HX.out)).mono ?_); rintro e1 w1 ⟨b1, rfl, hc1, hb1⟩; have HC1 := Lib.hid hc1; have HB1 := Lib.hid hb1; have hk := (hb1.block b (lt_of_heap HH.out)).trans HH.out; have q0 := cell_at (o := 0) hk (.iface x.ptr (.pointer (some ⟨bx, 0, none⟩))) rfl; have q1 := cell_at (o := 1) hk (.iface y.ptr (.pointer (some ⟨by_, 0, none⟩))) rfl; clear hb1 hc1 hk k0 k1))
      go_ret
      exact ⟨b3, rfl, HC3.out, HB3.out⟩
end Go.Proofs.YteemenhinhkonaaDoor
/- The package's appendSplitAnd and appendSplitOr: what stands between && (or ||) is put behind a list of the call's own. -/
namespace Go.Proofs.YteemenhinhkonaaDoor
open Go.RowKit

def splitA : Ex → List Ex
  | .and x y => splitA x ++ splitA y
  | x => [x]
def splitO : Ex → List Ex
  | .or x y => splitO x ++ splitO y
  | x => [x]
theorem splitA_pos (x : Ex) : 0 < (splitA x).length ∧ (splitA x).length ≤ x.leaves := by
  induction x with
  | and x y ihx ihy => simp only [splitA, Ex.leaves, List.length_append]; omega
  | tag t => simp [splitA, Ex.leaves]
  | not x ih => have := (leaves_deep x).2; simp only [splitA, Ex.leaves, List.length_singleton]; exact ⟨by omega, by have := ih; omega⟩
  | or x y ihx ihy => simp only [splitA, Ex.leaves, List.length_singleton]; omega
theorem splitO_pos (x : Ex) : 0 < (splitO x).length ∧ (splitO x).length ≤ x.leaves := by
  induction x with
  | or x y ihx ihy => simp only [splitO, Ex.leaves, List.length_append]; omega
  | tag t => simp [splitO, Ex.leaves]
  | not x ih => simp only [splitO, Ex.leaves, List.length_singleton]; exact ⟨by omega, by have := ih; omega⟩
  | and x y ihx ihy => simp only [splitO, Ex.leaves, List.length_singleton]; omega

/- rows of what P says -/
def RL {α : Type} (e : TypeId) (P : World → Value → α → Prop) (w : World) (base : Nat) (v : Value) (xs : List α) : Prop :=
  ∃ vals, w.ownsRow base e 1 v xs.length vals ∧ vals.length = xs.length ∧ ∀ (i : Nat) (u : Value) (x : α), vals[i]? = some u → xs[i]? = some x → P w u x
theorem RL.below {α : Type} {e : TypeId} {P : World → Value → α → Prop} {w w' : World} {base : Nat} {v : Value} {xs : List α} (hP : ∀ u x, P w u x → P w' u x) (h : RL e P w base v xs) (hb : Below w.heap.size w w') : RL e P w' base v xs := by
  obtain ⟨vals, h1, h2, h3⟩ := h
  exact ⟨vals, ownsRow_below h1 hb, h2, fun i u x hu hx => hP u x (h3 i u x hu hx)⟩
theorem RL.lower {α : Type} {e : TypeId} {P : World → Value → α → Prop} {w : World} {base base' : Nat} {v : Value} {xs : List α} (h : RL e P w base v xs) (hb : base' ≤ base) : RL e P w base' v xs := by
  obtain ⟨vals, ⟨h0, h1⟩, h2, h3⟩ := h
  exact ⟨vals, ⟨h0, h1.imp id fun ⟨g, cap, cur, k1, k2, k3⟩ => ⟨g, cap, cur, k1, Nat.le_trans hb k2, k3⟩⟩, h2, h3⟩
theorem RL.nil {α : Type} (e : TypeId) (P : World → Value → α → Prop) (w : World) (base : Nat) : RL e P w base (.slice none 0 0) [] :=
  ⟨[], World.ownsRow_nil _ _ _ _, rfl, fun i u x hu => by simp at hu⟩
theorem vals_snoc {α : Type} {Q : Value → α → Prop} {vals : List Value} {xs : List α} {u : Value} {x : α} (hl : vals.length = xs.length) (h : ∀ (i : Nat) (u : Value) (x : α), vals[i]? = some u → xs[i]? = some x → Q u x) (hu : Q u x) :
    ∀ (i : Nat) (u' : Value) (x' : α), (vals ++ [u])[i]? = some u' → (xs ++ [x])[i]? = some x' → Q u' x' := by
  intro i u' x' h1 h2
  by_cases hi : i < vals.length
  · rw [List.getElem?_append_left hi] at h1
    rw [List.getElem?_append_left (by rw [← hl]; exact hi)] at h2
    exact h i u' x' h1 h2
  · rw [List.getElem?_append_right (by omega)] at h1
    rw [List.getElem?_append_right (by rw [← hl]; omega)] at h2
    have hi0 : i - vals.length = 0 := by
      have := (List.getElem?_eq_some_iff.1 h1).1
      simp at this
      omega
    rw [hi0] at h1
    rw [← hl, hi0] at h2
    simp at h1 h2
    subst h1 h2
    exact hu
/- a row's block is no node -/
theorem CIs.grownRow {w w' : World} {x : Ex} {u v : Value} {base n size : Nat} {e : TypeId} {xs : List Value} (h : CIs w x u) (ho : w.ownsRow base e size v n xs) (he : nodeT e = false) (hg : w.grownBy w' v.ownBlock) : CIs w' x u :=
  CIs.keep (fun b cs t f hc ht => hg.block b (lt_of_heap hc) fun hb => by
    rcases ho.2 with ⟨hv, _⟩ | ⟨g, cap, cur, hv, _, hgb, _⟩
    · rw [hv] at hb; cases hb
    · rw [hv] at hb
      injection hb with hb
      simp at hb
      subst hb
      rw [hgb] at hc
      injection hc with hc
      injection hc with _ h2 _
      subst h2
      rw [he] at ht
      cases ht) h
abbrev EL (w : World) (base : Nat) (v : Value) (xs : List Ex) : Prop := RL 63 (fun w u x => CIs w x u) w base v xs
theorem EL.below {w w' : World} {base : Nat} {v : Value} {xs : List Ex} (h : EL w base v xs) (hb : Below w.heap.size w w') : EL w' base v xs := RL.below (fun _ _ hx => hx.below hb) h hb
theorem info_expr : (Tryd.prog.info? 63).map (fun i => (i.zero, i.size, i.bytes)) = some (some .nilIface, 1, 16) := by kernel_rfl
def ApP (xs : List Ex) (base : Nat) (v : Value) (w : World) (e : Ending) (w' : World) : Prop := ∃ v', e = .returned v' ∧ EL w' base v' xs ∧ w.grownBy w' v.ownBlock ∧ (∀ k, v'.ownBlock = some k → w.heap.size ≤ k ∨ v.ownBlock = some k)
theorem ApP_two {ys : List Ex} {base : Nat} {v v1 : Value} {w w1 w2 : World} {e : Ending} (hg : w.grownBy w1 v.ownBlock) (hk : ∀ k, v1.ownBlock = some k → w.heap.size ≤ k ∨ v.ownBlock = some k) (h2 : ApP ys base v1 w1 e w2) : ApP ys base v w e w2 := by
  obtain ⟨v2, he, hE, hg2, hk2⟩ := h2
  have hs := hg.size
  refine ⟨v2, he, hE, hg.andThen hg2 hk, fun k hv2 => ?_⟩
  rcases hk2 k hv2 with h | h
  · exact .inl (by omega)
  · exact hk k h
theorem ApP_one {xs : List Ex} {x : Ex} {base : Nat} {v v1 : Value} {vals : List Value} {u : Value} {w w1 : World} {o : Obj} (hx : CIs w x u) (ho : w.ownsRow base 63 1 v xs.length vals) (hl : vals.length = xs.length) (hc : ∀ (i : Nat) (u : Value) (x : Ex), vals[i]? = some u → xs[i]? = some x → CIs w x u)
    (h1 : w1.ownsRow base 63 1 v1 (xs.length + 1) (vals ++ [u])) (hg : (v1.ownBlock = v.ownBlock ∧ (w.alloc o).grownBy w1 v.ownBlock) ∨ (v1.ownBlock = some (w.alloc o).heap.size ∧ Below (w.alloc o).heap.size (w.alloc o) w1)) : ApP (xs ++ [x]) base v w (.returned v1) w1 := by
  have hb : Below w.heap.size w (w.alloc o) := (Below.refl _ _).alloc (Nat.le_refl _) _
  have hg' : (w.alloc o).grownBy w1 v.ownBlock := by
    rcases hg with ⟨_, h⟩ | ⟨_, h⟩
    · exact h
    · exact grown_of_below h _
  have hw : w.grownBy w1 v.ownBlock := (grown_of_below hb _).andThen hg' fun j hj => .inr hj
  refine ⟨v1, rfl, ⟨vals ++ [u], by simpa using h1, by simp [hl], vals_snoc hl (fun i u x h1 h2 => (hc i u x h1 h2).grownRow ho rfl hw) (hx.grownRow ho rfl hw)⟩, hw, fun k hk => ?_⟩
  rcases hg with ⟨h, _⟩ | ⟨h, _⟩
  · rw [h] at hk; exact .inr hk
  · rw [h] at hk; injection hk with hk; exact .inl (by simp at hk; omega)

set_option maxHeartbeats 8000000 in
set_option maxRecDepth 100000 in
theorem splitA_any (x : Ex) : ∀ (b : Nat) (v : Value) (xs : List Ex) (base : Nat) (w : World), EL w base v xs → base ≤ w.heap.size → xs.length + x.leaves ≤ 1000000 → CIs w x (.iface x.ptr (.pointer (some ⟨b, 0, none⟩))) → Calls Tryd.prog 63 #[v, .iface x.ptr (.pointer (some ⟨b, 0, none⟩))] w (ApP (xs ++ splitA x) base v w) := by
  have one : ∀ (x : Ex), splitA x = [x] → (x.kind == 3) = false → ∀ (b : Nat) (v : Value) (xs : List Ex) (base : Nat) (w : World), EL w base v xs → base ≤ w.heap.size → xs.length + x.leaves ≤ 1000000 → CIs w x (.iface x.ptr (.pointer (some ⟨b, 0, none⟩))) → Calls Tryd.prog 63 #[v, .iface x.ptr (.pointer (some ⟨b, 0, none⟩))] w (ApP (xs ++ splitA x) base v w) := by
    intro x hsp hk b v xs base w hE hb hn hx
    obtain ⟨i0, hi, hz0, hz1, hz2⟩ := info_parts info_expr
    obtain ⟨vals, ho, hl, hc⟩ := hE
    have hpos := (leaves_deep x).2
    have HP := Lib.hid (fun o v1 w1 => ApP_one (o := o) (v1 := v1) (w1 := w1) hx ho hl hc)
    obtain ⟨p, cp, rfl⟩ := ownsRow_slice ho
    have HO := Lib.hid ho
    have t1 := fun w => (ta_no x b w).2.2.1 hk
    have hlen : xs.length ≤ 1000000 := by omega
    rw [hsp]
    clear hx ho hl hc hsp hk hn hpos
    go_enter Tryd.func63, Tryd.ntmps63
    go_wp2_with (at_builtin; refine wpList_append_own2 rfl (.tmp 26) (.tmp 28) 100 rfl base 63 i0 _ 1 16 Tryd.underlying100 hi hz0 hz1 hz2 rfl (by decide) _ xs.length vals rfl (HO.out.alloc _) ⟨_, 0, none⟩ 1 1 [.iface x.ptr (.pointer (some ⟨b, 0, none⟩))] rfl rfl (cell_one_new _ _ _) (by simp [Value.oneCell']) (by unfold maxLen; omega) (by omega) (by simp; omega) ?_; intro v1 w1 ho1 hc1; have HC := Lib.hid hc1; have HO1 := Lib.hid ho1; clear hc1 ho1)
    go_ret
    exact HP.out _ _ _ HO1.out HC.out
  induction x with
  | and x y ihx ihy =>
    intro b v xs base w hE hb hn hx
    obtain ⟨b', vx, vy, e, hh, hx1, hy1⟩ := hx
    simp at e
    obtain ⟨-, rfl⟩ := e
    obtain ⟨bx, rfl⟩ := hx1.form
    obtain ⟨by_, rfl⟩ := hy1.form
    obtain ⟨vals, ho, hl, hc⟩ := hE
    obtain ⟨p, cp, rfl⟩ := ownsRow_slice ho
    have k0 := cell_at (o := 0) hh (.iface x.ptr (.pointer (some ⟨bx, 0, none⟩))) rfl
    have k1 := cell_at (o := 1) hh (.iface y.ptr (.pointer (some ⟨by_, 0, none⟩))) rfl
    have t1 := fun w => ta_yes (.and x y) b w
    simp only [Ex.ptr] at t1
    have hnode : ∀ w1, w.grownBy w1 (Value.slice p xs.length cp).ownBlock → w1.heap[b]? = some (.cells #[.iface x.ptr (.pointer (some ⟨bx, 0, none⟩)), .iface y.ptr (.pointer (some ⟨by_, 0, none⟩))] 91 (0, 0)) := fun w1 hg => by
      rw [hg.block b (lt_of_heap hh) ?_]
      · exact hh
      · intro hb
        rcases ho.2 with ⟨hv, _⟩ | ⟨g, cap, cur, hv, _, hgb, _⟩
        · rw [hv] at hb; cases hb
        · rw [hv] at hb
          injection hb with hb
          simp at hb
          subst hb
          rw [hgb] at hh
          injection hh with hh
          injection hh with _ h2 _
          exact absurd h2 (by decide)
    have HN := Lib.hid hnode
    have HX := Lib.hid hx1
    have HY := Lib.hid hy1
    have HO := Lib.hid ho
    have IX : Hid (Calls Tryd.prog 63 #[.slice p xs.length cp, .iface x.ptr (.pointer (some ⟨bx, 0, none⟩))] w (ApP (xs ++ splitA x) base (.slice p xs.length cp) w)) := Lib.hid (ihx bx _ xs base w ⟨vals, ho, hl, hc⟩ hb (by simp only [Ex.leaves] at hn; omega) hx1)
    have IY := Lib.hid ihy
    have HL : Hid ((xs ++ splitA x).length + y.leaves ≤ 1000000) := Lib.hid (by have := (splitA_pos x).2; simp only [Ex.leaves] at hn; simp only [List.length_append]; omega)
    have HBS := Lib.hid hb
    clear hh hx1 hy1 ho hl hc ihx ihy hn hnode hb one
    simp only [Ex.ptr]
    go_enter Tryd.func63, Tryd.ntmps63
    go_wp2_with (go_at_call 63; (with_reducible refine IX.out.mono ?_); rintro e1 w1 ⟨v1, rfl, hE1, hg1, hk1⟩; have HE1 := Lib.hid hE1; have HG1 := Lib.hid hg1; have HK1 := Lib.hid hk1; have q1 := cell_at (o := 1) (HN.out w1 hg1) (.iface y.ptr (.pointer (some ⟨by_, 0, none⟩))) rfl; clear hE1 hg1 hk1 k0 k1 IX)
    go_wp2_with (go_at_call 63; (with_reducible refine (IY.out by_ v1 (xs ++ splitA x) base w1 HE1.out (by have := HG1.out.size; have := HBS.out; omega) HL.out (HY.out.grownRow HO.out rfl HG1.out)).mono ?_); intro e2 w2 h2; have H2 := Lib.hid (ApP_two HG1.out HK1.out h2); obtain ⟨v2, rfl, -⟩ := h2)
    go_ret
    have := H2.out
    rw [List.append_assoc] at this
    exact this
  | tag t => exact one (.tag t) rfl rfl
  | not x _ => exact one (.not x) rfl rfl
  | or x y _ _ => exact one (.or x y) rfl rfl

set_option maxHeartbeats 8000000 in
set_option maxRecDepth 100000 in
theorem splitO_any (x : Ex) : ∀ (b : Nat) (v : Value) (xs : List Ex) (base : Nat) (w : World), EL w base v xs → base ≤ w.heap.size → xs.length + x.leaves ≤ 1000000 → CIs w x (.iface x.ptr (.pointer (some ⟨b, 0, none⟩))) → Calls Tryd.prog 64 #[v, .iface x.ptr (.pointer (some ⟨b, 0, none⟩))] w (ApP (xs ++ splitO x) base v w) := by
  have one : ∀ (x : Ex), splitO x = [x] → (x.kind == 4) = false → ∀ (b : Nat) (v : Value) (xs : List Ex) (base : Nat) (w : World), EL w base v xs → base ≤ w.heap.size → xs.length + x.leaves ≤ 1000000 → CIs w x (.iface x.ptr (.pointer (some ⟨b, 0, none⟩))) → Calls Tryd.prog 64 #[v, .iface x.ptr (.pointer (some ⟨b, 0, none⟩))] w (ApP (xs ++ splitO x) base v w) := by
    intro x hsp hk b v xs base w hE hb hn hx
    obtain ⟨i0, hi, hz0, hz1, hz2⟩ := info_parts info_expr
    obtain ⟨vals, ho, hl, hc⟩ := hE
    have hpos := (leaves_deep x).2
    have HP := Lib.hid (fun o v1 w1 => ApP_one (o := o) (v1 := v1) (w1 := w1) hx ho hl hc)
    obtain ⟨p, cp, rfl⟩ := ownsRow_slice ho
    have HO := Lib.hid ho
    have t1 := fun w => (ta_no x b w).2.2.2 hk
    have hlen : xs.length ≤ 1000000 := by omega
    rw [hsp]
    clear hx ho hl hc hsp hk hn hpos
    go_enter Tryd.func64, Tryd.ntmps64
    go_wp2_with (at_builtin; refine wpList_append_own2 rfl (.tmp 26) (.tmp 28) 100 rfl base 63 i0 _ 1 16 Tryd.underlying100 hi hz0 hz1 hz2 rfl (by decide) _ xs.length vals rfl (HO.out.alloc _) ⟨_, 0, none⟩ 1 1 [.iface x.ptr (.pointer (some ⟨b, 0, none⟩))] rfl rfl (cell_one_new _ _ _) (by simp [Value.oneCell']) (by unfold maxLen; omega) (by omega) (by simp; omega) ?_; intro v1 w1 ho1 hc1; have HC := Lib.hid hc1; have HO1 := Lib.hid ho1; clear hc1 ho1)
    go_ret
    exact HP.out _ _ _ HO1.out HC.out
  induction x with
  | or x y ihx ihy =>
    intro b v xs base w hE hb hn hx
    obtain ⟨b', vx, vy, e, hh, hx1, hy1⟩ := hx
    simp at e
    obtain ⟨-, rfl⟩ := e
    obtain ⟨bx, rfl⟩ := hx1.form
    obtain ⟨by_, rfl⟩ := hy1.form
    obtain ⟨vals, ho, hl, hc⟩ := hE
    obtain ⟨p, cp, rfl⟩ := ownsRow_slice ho
    have k0 := cell_at (o := 0) hh (.iface x.ptr (.pointer (some ⟨bx, 0, none⟩))) rfl
    have k1 := cell_at (o := 1) hh (.iface y.ptr (.pointer (some ⟨by_, 0, none⟩))) rfl
    have t1 := fun w => ta_yes (.or x y) b w
    simp only [Ex.ptr] at t1
    have hnode : ∀ w1, w.grownBy w1 (Value.slice p xs.length cp).ownBlock → w1.heap[b]? = some (.cells #[.iface x.ptr (.pointer (some ⟨bx, 0, none⟩)), .iface y.ptr (.pointer (some ⟨by_, 0, none⟩))] 93 (0, 0)) := fun w1 hg => by
      rw [hg.block b (lt_of_heap hh) ?_]
      · exact hh
      · intro hb
        rcases ho.2 with ⟨hv, _⟩ | ⟨g, cap, cur, hv, _, hgb, _⟩
        · rw [hv] at hb; cases hb
        · rw [hv] at hb
          injection hb with hb
          simp at hb
          subst hb
          rw [hgb] at hh
          injection hh with hh
          injection hh with _ h2 _
          exact absurd h2 (by decide)
    have HN := Lib.hid hnode
    have HX := Lib.hid hx1
    have HY := Lib.hid hy1
    have HO := Lib.hid ho
    have IX : Hid (Calls Tryd.prog 64 #[.slice p xs.length cp, .iface x.ptr (.pointer (some ⟨bx, 0, none⟩))] w (ApP (xs ++ splitO x) base (.slice p xs.length cp) w)) := Lib.hid (ihx bx _ xs base w ⟨vals, ho, hl, hc⟩ hb (by simp only [Ex.leaves] at hn; omega) hx1)
    have IY := Lib.hid ihy
    have HL : Hid ((xs ++ splitO x).length + y.leaves ≤ 1000000) := Lib.hid (by have := (splitO_pos x).2; simp only [Ex.leaves] at hn; simp only [List.length_append]; omega)
    have HBS := Lib.hid hb
    clear hh hx1 hy1 ho hl hc ihx ihy hn hnode hb one
    simp only [Ex.ptr]
    go_enter Tryd.func64, Tryd.ntmps64
    go_wp2_with (go_at_call 64; (with_reducible refine IX.out.mono ?_); rintro e1 w1 ⟨v1, rfl, hE1, hg1, hk1⟩; have HE1 := Lib.hid hE1; have HG1 := Lib.hid hg1; have HK1 := Lib.hid hk1; have q1 := cell_at (o := 1) (HN.out w1 hg1) (.iface y.ptr (.pointer (some ⟨by_, 0, none⟩))) rfl; clear hE1 hg1 hk1 k0 k1 IX)
    go_wp2_with (go_at_call 64; (with_reducible refine (IY.out by_ v1 (xs ++ splitO x) base w1 HE1.out (by have := HG1.out.size; have := HBS.out; omega) HL.out (HY.out.grownRow HO.out rfl HG1.out)).mono ?_); intro e2 w2 h2; have H2 := Lib.hid (ApP_two HG1.out HK1.out h2); obtain ⟨v2, rfl, -⟩ := h2)
    go_ret
    have := H2.out
    rw [List.append_assoc] at this
    exact this
  | tag t => exact one (.tag t) rfl rfl
  | not x _ => exact one (.not x) rfl rfl
  | and x y _ _ => exact one (.and x y) rfl rfl
end Go.Proofs.YteemenhinhkonaaDoor
