/- The package's Parse and impl.Parse, at lines that begin with the word and a blank. -/
import Derived.Test.YteemenhinhkonaaDoorProg
import Derived.Test.YteemenhinhkonaaDoorPlain
import Derived.Test.YteemenhinhkonaaDoorSplit
namespace Go.Proofs.YteemenhinhkonaaDoor
open Go.RowKit

theorem ta_serr (a : Addr) (w : World) : (Instr.typeAssert (.iface 69 (.pointer (some a))) 65 69 true).run Tryd.prog w = .ok (.tuple #[.pointer (some a), .bool true]) w := by kernel_rfl
theorem PePost.from {N : Nat} {s : ByteArray} {w w1 : World} {en : Ending} {w' : World} (hb : Below w.heap.size w w1) (h : PePost N s w1 en w') : PePost N s w en w' := ⟨hb.trans (h.1.mono hb.size), h.2⟩
set_option maxHeartbeats 400000 in
theorem conParse_any (N : Nat) (L : ByteArray) (l r' b : List UInt8) (w : World) (hL : L.data.toList = goWord ++ 32 :: l) (hn : hasByte L 10 = false) (hs : L.size ≤ 1152921504606846976) (h1 : Lib.trimSpaceD (goWord ++ 32 :: l) = goWord ++ r') (h2 : 32 :: l = r' ++ b) (hN : (toks tlG (Lib.trimSpaceD r')).length ≤ N) (hT : Tabs w) :
    Calls Tryd.prog 44 #[.string L] w (PePost N (mkB (Lib.trimSpaceD r')) w) := by
  have hsz : (mkB (Lib.trimSpaceD r')).size ≤ 1152921504606846976 := by
    have e1 : L.data.toList.length = L.size := by simp
    rw [hL] at e1
    have e2 := congrArg List.length h2
    have := trim_length r'
    rw [mkB_size]
    simp at e1 e2
    omega
  have hd : dropB (mkB (Lib.trimSpaceD r')) 0 = Lib.trimSpaceD r' := by unfold dropB; rw [mkB_toList]; rfl
  have HS := Lib.hid (splitGo_any L l r' b w hL hn (by omega) h1 h2 hT)
  have HT := Lib.hid hT
  have HN := Lib.hid hN
  have HD := Lib.hid hd
  have HZ := Lib.hid hsz
  clear hL hn hs h1 h2 hT hsz hN hd
  go_enter Tryd.func44, Tryd.ntmps44
  go_wp2_with fail
  refine HS.out.mono ?_
  rintro e1 w1 ⟨rfl, hb1⟩
  go_wp2_with fail
  refine (parseExpr_any N (mkB (Lib.trimSpaceD r')) w1 HZ.out (by rw [HD.out]; exact HN.out) (HT.out.below hb1)).mono ?_
  rintro e2 w2 hp
  have HP := Lib.hid (PePost.from hb1 hp)
  have hf : ∃ v u, e2 = .returned (.tuple #[v, u]) := by
    rcases hp.2 with ⟨x, v, _, h, _⟩ | ⟨_, v, b, off, msg, h, _⟩
    · exact ⟨_, _, h⟩
    · exact ⟨_, _, h⟩
  obtain ⟨v, u, rfl⟩ := hf
  clear hp hb1
  go_wp2_with fail
  go_ret2
  exact HP.out

def IpPost (N : Nat) (s : ByteArray) (w : World) (en : Ending) (w' : World) : Prop := Below w.heap.size w w' ∧
  ((∃ x c0 c1 c2, gParse N (dropB s 0) = some x ∧ en = .returned (.tuple #[.agg #[c0, c1, c2], .int .i64 0, .bool true]) ∧ XIs (fun b => w.heap.size ≤ b) w' x c0 c1 c2) ∨
   (gParse N (dropB s 0) = none ∧ ∃ off : Int, en = .returned (.tuple #[.agg #[.int .i64 0, .string { data := #[] }, .slice none 0 0], .int .i64 off, .bool false]) ∧ 0 ≤ off ∧ off ≤ s.size))
theorem ip_end {x : Ex} {w w2 W : World} {n : Nat} {c0 c1 c2 : Value} (hz : w2.heap[w.heap.size]? = some zeroE) (hb : Below w.heap.size w w2) (hn : w.heap.size < n) (hx : XIs (fun b => n ≤ b) w2 x c0 c1 c2)
    (hW : W = ((w2.setCell ⟨w.heap.size, 0, none⟩ c0).setCell ⟨w.heap.size, 1, none⟩ c1).setCell ⟨w.heap.size, 2, none⟩ c2) :
    W.heap[w.heap.size]? = some (.cells #[c0, c1, c2] 29 (0, 0)) ∧ XIs (fun b => w.heap.size ≤ b) W x c0 c1 c2 ∧ Below w.heap.size w W := by
  unfold zeroE at hz
  have keep : ∀ b, b ≠ w.heap.size → W.heap[b]? = w2.heap[b]? := fun b hb => by
    rw [hW, Below.heap_setCell _ _ _ b hb, Below.heap_setCell _ _ _ b hb, Below.heap_setCell _ _ _ b hb]
  refine ⟨by rw [hW, heap_set _ (heap_set _ (heap_set _ hz _) _) _]; rfl, XIs.move (fun b hb hlt => ⟨by omega, keep b (by omega)⟩) hx, ?_⟩
  rw [hW]
  exact ((hb.setCell (p := ⟨w.heap.size, 0, none⟩) (Nat.le_refl _) _).setCell (p := ⟨w.heap.size, 1, none⟩) (Nat.le_refl _) _).setCell (p := ⟨w.heap.size, 2, none⟩) (Nat.le_refl _) _
theorem ip_none {w w2 W : World} {c0 c1 c2 : Value} (hz : w2.heap[w.heap.size]? = some zeroE) (hb : Below w.heap.size w w2)
    (hW : W = ((w2.setCell ⟨w.heap.size, 0, none⟩ c0).setCell ⟨w.heap.size, 1, none⟩ c1).setCell ⟨w.heap.size, 2, none⟩ c2) :
    W.heap[w.heap.size]? = some (.cells #[c0, c1, c2] 29 (0, 0)) ∧ Below w.heap.size w W := by
  unfold zeroE at hz
  refine ⟨by rw [hW, heap_set _ (heap_set _ (heap_set _ hz _) _) _]; rfl, ?_⟩
  rw [hW]
  exact ((hb.setCell (p := ⟨w.heap.size, 0, none⟩) (Nat.le_refl _) _).setCell (p := ⟨w.heap.size, 1, none⟩) (Nat.le_refl _) _).setCell (p := ⟨w.heap.size, 2, none⟩) (Nat.le_refl _) _
set_option maxRecDepth 100000 in
set_option maxHeartbeats 1000000 in
theorem implParse_of (N : Nat) (L s : ByteArray) (w : World) (hC : ∀ w', Below w.heap.size w w' → Calls Tryd.prog 44 #[.string L] w' (PePost N s w')) : Calls Tryd.prog 15 #[.string L] w (IpPost N s w) := by
  have HC := Lib.hid hC
  clear hC
  go_enter Tryd.func15, Tryd.ntmps15
  go_wp2_with fail
  obtain ⟨wa, hwa⟩ : ∃ wa, wa = w.alloc zeroE := ⟨_, rfl⟩
  have hwa' := hwa
  unfold zeroE at hwa'
  rw [← hwa']
  have hba : Below w.heap.size w wa := by rw [hwa]; exact (Below.refl _ _).alloc (Nat.le_refl _) _
  have hsz : wa.heap.size = w.heap.size + 1 := by rw [hwa]; simp
  refine (HC.out wa hba).mono ?_
  rintro e1 w1 ⟨hb1, ⟨x, v, hg, rfl, hx⟩ | ⟨hg, v, b, off, msg, rfl, he, h0, h1, hv⟩⟩
  · obtain ⟨bx, rfl⟩ := hx.form
    have HX := Lib.hid hx
    have HG := Lib.hid hg
    have HB := Lib.hid hb1
    have HWA := Lib.hid hwa
    have HBA := Lib.hid hba
    have HSZ := Lib.hid hsz
    clear hx hg hb1 hwa hwa' hba hsz
    go_wp2_with fail
    refine (plain_any x _ _ HX.out).mono ?_
    rintro e2 w2 ⟨c0, c1, c2, rfl, hx2, hb2⟩
    obtain ⟨hz2, hs2, hw2⟩ := pl_zero HWA.out (HB.out.trans (hb2.mono HB.out.size))
    have HX2 := Lib.hid hx2
    have HZ2 := Lib.hid hz2
    have HW2 := Lib.hid hw2
    have u0 := cell_at (o := 0) hz2 (.int .i64 0) rfl
    have u1 := cell_at (o := 1) hz2 (.string { data := #[] }) rfl
    have u2 := cell_at (o := 2) hz2 (.slice none 0 0) rfl
    have ua0 := cellsA u0
    have ua1 := cellsA u1
    have ua2 := cellsA u2
    have fz := free_at hz2
    obtain ⟨s1, a1, cp1, rfl, rfl, rfl, -⟩ := hx2.form
    clear hx2 hb2 hz2 hs2 hw2
    go_wp2_with fail
    obtain ⟨W, hW⟩ : ∃ W, W = ((w2.setCell ⟨w.heap.size, 0, none⟩ (.int .i64 x.kind)).setCell ⟨w.heap.size, 1, none⟩ (.string s1)).setCell ⟨w.heap.size, 2, none⟩ (.slice a1 x.arity cp1) := ⟨_, rfl⟩
    obtain ⟨hc, hX, hB⟩ := ip_end HZ2.out HW2.out (by have := HB.out.size; have := HSZ.out; omega) HX2.out hW
    have r0 := cell_at (o := 0) hc (.int .i64 x.kind) rfl
    have r1 := cell_at (o := 1) hc (.string s1) rfl
    have r2 := cell_at (o := 2) hc (.slice a1 x.arity cp1) rfl
    rw [← hW]
    clear hW
    exact bodyPost_ret (v := .tuple #[.agg #[.int .i64 x.kind, .string s1, .slice a1 x.arity cp1], .int .i64 0, .bool true]) (by simp [results, Tryd.results15, go_sem, r0, r1, r2]) rfl ⟨hB, .inl ⟨x, _, _, _, HG.out, rfl, hX⟩⟩
  · have HG := Lib.hid hg
    have HB := Lib.hid hb1
    have HE := Lib.hid he
    have HWA := Lib.hid hwa
    have HBA := Lib.hid hba
    have HSZ := Lib.hid hsz
    have q0 := cell_at (o := 0) he (.int .i64 off) rfl
    have ta := fun w => ta_serr ⟨b, 0, none⟩ w
    obtain ⟨hz1, hs1, hw1⟩ := pl_zero hwa hb1
    have u0 := cell_at (o := 0) hz1 (.int .i64 0) rfl
    have u1 := cell_at (o := 1) hz1 (.string { data := #[] }) rfl
    have u2 := cell_at (o := 2) hz1 (.slice none 0 0) rfl
    have ua0 := cellsA u0
    have ua1 := cellsA u1
    have ua2 := cellsA u2
    have fz := free_at hz1
    have H01 := Lib.hid (And.intro h0 h1)
    have HZ1 := Lib.hid hz1
    have HW1 := Lib.hid hw1
    have hne : ¬ b = w.heap.size := by
      intro e
      subst e
      have := hz1.symm.trans he
      unfold zeroE at this
      simp at this
    have hne2 : ¬ w.heap.size = b := fun e => hne e.symm
    clear he hg hb1 hwa hwa' hba hsz hz1 hs1 hw1 hv h0 h1
    go_wp2_with fail
    go_region_law (fail)
    all_goals go_wp2
    all_goals
      obtain ⟨W, hW⟩ : ∃ W, W = ((w1.setCell ⟨w.heap.size, 0, none⟩ (.int .i64 0)).setCell ⟨w.heap.size, 1, none⟩ (.string { data := #[] })).setCell ⟨w.heap.size, 2, none⟩ (.slice none 0 0) := ⟨_, rfl⟩
      obtain ⟨hc', hB⟩ := ip_none (w2 := w1) HZ1.out HW1.out hW
      have hc : W.drew.heap[w.heap.size]? = _ := hc'
      have r0 := cell_at (o := 0) hc (.int .i64 0) rfl
      have r1 := cell_at (o := 1) hc (.string { data := #[] }) rfl
      have r2 := cell_at (o := 2) hc (.slice none 0 0) rfl
      rw [← hW]
      clear hW
      clear hc hc'
      exact bodyPost_ret (v := .tuple #[.agg #[.int .i64 0, .string { data := #[] }, .slice none 0 0], .int .i64 off, .bool false]) (by simp [results, Tryd.results15, go_sem, r0, r1, r2, Act.put, List.getElem_toArray, List.getElem_cons_succ, List.getElem_cons_zero]) rfl ⟨hB.drew, .inr ⟨HG.out, off, rfl, H01.out.1, H01.out.2⟩⟩

/- at texts of plain bytes -/
def gRead (N : Nat) (l : List UInt8) : Option Ex :=
  match gOr (gO N) 0 (tA l) with
  | some (x, [], _) => some x
  | _ => none
def IpP (N : Nat) (l : List UInt8) (w : World) (en : Ending) (w' : World) : Prop := Below w.heap.size w w' ∧
  ((∃ x c0 c1 c2, gRead N l = some x ∧ en = .returned (.tuple #[.agg #[c0, c1, c2], .int .i64 0, .bool true]) ∧ XIs (fun b => w.heap.size ≤ b) w' x c0 c1 c2) ∨
   (gRead N l = none ∧ ∃ off : Int, en = .returned (.tuple #[.agg #[.int .i64 0, .string { data := #[] }, .slice none 0 0], .int .i64 off, .bool false]) ∧ 0 ≤ off ∧ off ≤ l.length + 1))
theorem plain_no10 {l : List UInt8} (h : l.all plainB = true) : l.any (· == (10 : UInt8)) = false := by
  rw [List.any_eq_false]
  intro c hc
  have := List.all_eq_true.mp h c hc
  intro e
  have e : c = 10 := by simpa using e
  subst e
  exact absurd this (by decide)
theorem implParse_plain (N : Nat) (L : ByteArray) (l : List UInt8) (w : World) (hL : L.data.toList = goWord ++ 32 :: l) (hp : l.all plainB = true) (hs : l.length ≤ 1000000000) (hN : (tA l).length ≤ N) (hT : Tabs w) :
    Calls Tryd.prog 15 #[.string L] w (IpP N l w) := by
  obtain ⟨r', b, h1, h2⟩ := go_split l
  have hsz : L.size = 11 + l.length := by
    have e1 : L.data.toList.length = L.size := by simp
    rw [← e1, hL]
    simp [goWord]
    omega
  have hn : hasByte L 10 = false := by
    unfold hasByte
    rw [hL, List.any_append, List.any_cons, plain_no10 hp]
    rfl
  have h32 : (32 :: l).all plainB = true := by rw [List.all_cons, hp]; rfl
  have hr : r'.all plainB = true := all_prefix h32 h2
  obtain ⟨a, c, e, _, _⟩ := trim_plain r' hr
  have ht : (Lib.trimSpaceD r').all plainB = true := all_prefix (all_suffix hr e) rfl
  have hA : toks tlG (Lib.trimSpaceD r') = tA l := by
    rw [toks_ascii _ fun c hc => plain_lt (List.all_eq_true.mp ht c hc)]
    exact go_plain l r' hp h1
  have hd : dropB (mkB (Lib.trimSpaceD r')) 0 = Lib.trimSpaceD r' := by unfold dropB; rw [mkB_toList]; rfl
  have hg : gParse N (dropB (mkB (Lib.trimSpaceD r')) 0) = gRead N l := by
    unfold gParse gRead
    rw [hd, hA]
    rfl
  refine (implParse_of N L (mkB (Lib.trimSpaceD r')) w fun w' hb => conParse_any N L l r' b w' hL hn (by omega) h1 h2 (by rw [hA]; exact hN) (hT.below hb)).mono ?_
  rintro en w' ⟨hb, h⟩
  rw [IpP]
  rw [hg] at h
  refine ⟨hb, h.imp id fun ⟨h1', off, h3, h4, h5⟩ => ⟨h1', off, h3, h4, ?_⟩⟩
  rw [mkB_size] at h5
  have e2 := congrArg List.length h2
  have := trim_length r'
  simp at e2
  omega
end Go.Proofs.YteemenhinhkonaaDoor
