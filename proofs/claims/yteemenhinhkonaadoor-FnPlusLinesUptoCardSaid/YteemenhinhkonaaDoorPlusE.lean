/- The package's Parse and impl.Parse at every line without a newline. -/
import Derived.Test.YteemenhinhkonaaDoorProg
import Derived.Test.YteemenhinhkonaaDoorParse
import Derived.Test.YteemenhinhkonaaDoorPlusC
import Derived.Test.YteemenhinhkonaaDoorPlusD
import Derived.Deep.QuietTactic
import Derived.BigQuiet
namespace Go.Proofs.YteemenhinhkonaaDoor
open Go.RowKit

def ParseP (l : List UInt8) (x : Ex) : Prop := ((goText l).isSome = true ∨ (plText l).isSome = true) ∧ (goText l = none → ∃ t, plText l = some t ∧ x = plusEx t)
def ParseQ (l : List UInt8) : Prop := goText l = none → ∀ t, plText l = some t → 101 ≤ litsC (Lib.fieldsD t)
def CpG (P : Ex → Prop) (Q : Prop) (w : World) (en : Ending) (w' : World) : Prop := Below w.heap.size w w' ∧
  ((∃ x v, P x ∧ en = .returned (.tuple #[v, .nilIface]) ∧ CIs w' x v) ∨
   (Q ∧ ∃ v b off msg, en = .returned (.tuple #[v, .iface 69 (.pointer (some ⟨b, 0, none⟩))]) ∧ SErr w' b off msg ∧ (v = .nilIface ∨ ∃ t p, v = .iface t p)) ∨
   (Q ∧ ∃ a, en = .returned (.tuple #[.nilIface, .iface 183 (.pointer (some a))])))
theorem CpG.from {P : Ex → Prop} {Q : Prop} {w w1 : World} {en : Ending} {w' : World} (hb : Below w.heap.size w w1) (h : CpG P Q w1 en w') : CpG P Q w en w' := ⟨hb.trans (h.1.mono hb.size), h.2⟩
theorem CpG.of_pe {P : Ex → Prop} {Q : Prop} {N : Nat} {s : ByteArray} {w : World} {en : Ending} {w' : World} (hP : ∀ x, P x) (hQ : Q) (h : PePost N s w en w') : CpG P Q w en w' := by
  obtain ⟨hb, ⟨x, v, _, he, hc⟩ | ⟨_, v, b, off, msg, he, hs, _, _, hv⟩⟩ := h
  · exact ⟨hb, .inl ⟨x, v, hP x, he, hc⟩⟩
  · exact ⟨hb, .inr (.inl ⟨hQ, v, b, off, msg, he, hs, hv⟩)⟩
theorem CpG.of_pl {P : Ex → Prop} {Q : Prop} {t : List UInt8} {w : World} {en : Ending} {w' : World} (hP : P (plusEx t)) (hQ : 101 ≤ litsC (Lib.fieldsD t) → Q) (h : PpPost t w en w') : CpG P Q w en w' := by
  obtain ⟨hb, ⟨v, he, hc⟩ | ⟨hn, a, he⟩⟩ := h
  · exact ⟨hb, .inl ⟨_, v, hP, he, hc⟩⟩
  · exact ⟨hb, .inr (.inr ⟨hQ hn, a, he⟩)⟩
theorem CpG.form {P : Ex → Prop} {Q : Prop} {w : World} {en : Ending} {w' : World} (h : CpG P Q w en w') : ∃ v u, en = .returned (.tuple #[v, u]) := by
  obtain ⟨_, ⟨x, v, _, he, _⟩ | ⟨_, v, b, off, msg, he, _⟩ | ⟨_, a, he⟩⟩ := h
  · exact ⟨_, _, he⟩
  · exact ⟨_, _, he⟩
  · exact ⟨_, _, he⟩
theorem goText_len {l t : List UInt8} (h : goText l = some t) : t.length ≤ l.length := by
  unfold goText cutT at h
  split at h
  · split at h
    · cases h
    · injection h with h
      subst h
      have h1 := trim_length ((Lib.trimSpaceD l).drop 10)
      have h2 := trim_length l
      rw [List.length_drop] at h1
      omega
  · cases h
theorem plText_len {l t : List UInt8} (h : plText l = some t) : t.length ≤ l.length := by
  unfold plText cutT at h
  split at h
  · split at h
    · split at h
      · cases h
      · injection h with h
        subst h
        have h1 := trim_length ((Lib.trimSpaceD (l.drop 2)).drop 6)
        have h2 := trim_length (l.drop 2)
        rw [List.length_drop] at h1 h2
        omega
    · cases h
  · cases h
set_option maxHeartbeats 1000000 in
theorem conParse_all (L : ByteArray) (w : World) (hn : hasByte L 10 = false) (hs : L.size ≤ 1000000000) (hT : Tabs w) (hE : Errs w) :
    Calls Tryd.prog 44 #[.string L] w (CpG (ParseP L.data.toList) (ParseQ L.data.toList) w) := by
  have hsz : L.data.toList.length = L.size := by simp
  have HT := Lib.hid hT
  have HE := Lib.hid hE
  have h1 := splitGo_all L w hn (by omega) hT
  cases hg : goText L.data.toList with
  | some t =>
    rw [hg] at h1
    have HS : Hid (Calls Tryd.prog 58 #[.string L] w (SplitPost t w)) := Lib.hid h1
    have hlen := goText_len hg
    have hP : ∀ x, ParseP L.data.toList x := fun x => ⟨.inl (by rw [hg]; rfl), fun h => by rw [hg] at h; cases h⟩
    have hQ : ParseQ L.data.toList := fun h => by rw [hg] at h; cases h
    have HP := Lib.hid hP
    have HQ := Lib.hid hQ
    have hts : (mkB t).size ≤ 1000000000 := by rw [mkB_size]; omega
    have HTS := Lib.hid hts
    clear h1 hg hlen hP hQ hsz hn hs hT hE hts
    go_enter Tryd.func44, Tryd.ntmps44
    go_wp2_with fail
    refine HS.out.mono ?_
    rintro e1 w1 ⟨rfl, hb1⟩
    have HB1 := Lib.hid hb1
    clear hb1
    go_wp2_with fail
    refine (parseExpr_any (toks tlG (dropB (mkB t) 0)).length (mkB t) w1 (by have := HTS.out; omega) (Nat.le_refl _) (HT.out.below HB1.out)).mono ?_
    rintro e2 w2 hp
    have hc := (CpG.of_pe HP.out HQ.out hp).from HB1.out
    have HC := Lib.hid hc
    obtain ⟨v, u, rfl⟩ := hc.form
    clear hp
    go_wp2_with fail
    go_ret2
    exact HC.out
  | none =>
    rw [hg] at h1
    have HS : Hid (Calls Tryd.prog 58 #[.string L] w fun en w' => en = .returned (.tuple #[.string (mkB []), .bool false]) ∧ Below w.heap.size w w') := Lib.hid h1
    have HN := Lib.hid hn
    have HG := Lib.hid hg
    clear h1 hg hn hT hE
    go_enter Tryd.func44, Tryd.ntmps44
    go_wp2_with fail
    refine HS.out.mono ?_
    rintro e1 w1 ⟨rfl, hb1⟩
    have HB1 := Lib.hid hb1
    have HT1 := Lib.hid (HT.out.below hb1)
    have HE1 := Lib.hid (HE.out.below hb1)
    clear hb1
    have h2 := splitPl_all L w1 HN.out (by omega) HT1.out
    cases hpl : plText L.data.toList with
    | some t =>
      rw [hpl] at h2
      have HS2 : Hid (Calls Tryd.prog 60 #[.string L] w1 (SplitPost t w1)) := Lib.hid h2
      have hlen := plText_len hpl
      have hP : ParseP L.data.toList (plusEx t) := ⟨.inr (by rw [hpl]; rfl), fun _ => ⟨t, hpl, rfl⟩⟩
      have hQ : 101 ≤ litsC (Lib.fieldsD t) → ParseQ L.data.toList := fun h _ t' ht' => by
        rw [hpl] at ht'
        injection ht' with ht'
        subst ht'
        exact h
      have HP := Lib.hid hP
      have HQ := Lib.hid hQ
      have hts : t.length ≤ 1000000000 := by omega
      have HTS := Lib.hid hts
      clear h2 hpl hlen hP hQ hsz hs hts
      go_wp2_with fail
      refine HS2.out.mono ?_
      rintro e2 w2 ⟨rfl, hb2⟩
      have HB2 := Lib.hid (HB1.out.trans (hb2.mono HB1.out.size))
      have HT2 := Lib.hid (HT1.out.below hb2)
      have HE2 := Lib.hid (HE1.out.below hb2)
      clear hb2
      go_wp2_with fail
      refine (parsePlus_any t w2 HTS.out HT2.out HE2.out).mono ?_
      rintro e3 w3 hp
      have hc := (CpG.of_pl HP.out HQ.out hp).from HB2.out
      have HC := Lib.hid hc
      obtain ⟨v, u, rfl⟩ := hc.form
      clear hp
      go_wp2_with fail
      go_ret2
      exact HC.out
    | none =>
      rw [hpl] at h2
      have HS2 : Hid (Calls Tryd.prog 60 #[.string L] w1 fun en w' => en = .returned (.tuple #[.string (mkB []), .bool false]) ∧ Below w1.heap.size w1 w') := Lib.hid h2
      have hQ : ParseQ L.data.toList := fun _ t' ht' => by rw [hpl] at ht'; cases ht'
      have HQ := Lib.hid hQ
      clear h2 hpl hQ hsz hs
      go_wp2_with fail
      refine HS2.out.mono ?_
      rintro e2 w2 ⟨rfl, hb2⟩
      have HB2 := Lib.hid (HB1.out.trans (hb2.mono HB1.out.size))
      obtain ⟨⟨a, ha⟩, _⟩ := HE1.out.below hb2
      clear hb2
      go_wp2_with fail
      go_quiet (fail)
      go_wp2_with fail
      go_ret2
      exact ⟨⟨HB2.out.os, HB2.out.tape, HB2.out.output, HB2.out.size, HB2.out.block⟩, .inr (.inr ⟨HQ.out, a, rfl⟩)⟩

def IpG (P : Ex → Prop) (Q : Prop) (w : World) (en : Ending) (w' : World) : Prop := Below w.heap.size w w' ∧
  ((∃ x c0 c1 c2, P x ∧ en = .returned (.tuple #[.agg #[c0, c1, c2], .int .i64 0, .bool true]) ∧ XIs (fun b => w.heap.size ≤ b) w' x c0 c1 c2) ∨
   (Q ∧ ∃ off : Int, en = .returned (.tuple #[.agg #[.int .i64 0, .string { data := #[] }, .slice none 0 0], .int .i64 off, .bool false])))
theorem ta_serr_no (a : Addr) (w : World) : (Instr.typeAssert (.iface 183 (.pointer (some a))) 65 69 true).run Tryd.prog w = .ok (.tuple #[.pointer none, .bool false]) w := by kernel_rfl
set_option maxRecDepth 100000 in
set_option maxHeartbeats 1000000 in
theorem implParse_gen (P : Ex → Prop) (Q : Prop) (L : ByteArray) (w : World) (hC : ∀ w', Below w.heap.size w w' → Calls Tryd.prog 44 #[.string L] w' (CpG P Q w')) : Calls Tryd.prog 15 #[.string L] w (IpG P Q w) := by
  have HC := Lib.hid hC
  clear hC
  go_enter Tryd.func15, Tryd.ntmps15
  go_wp2_with fail
  obtain ⟨wa, hwa⟩ : ∃ wa, wa = w.alloc zeroE := ⟨_, rfl⟩
  have hwa' := hwa
  unfold zeroE at hwa'
  rw [← hwa']
  have hba : Below w.heap.size w wa := by rw [hwa]; exact (Below.refl _ _).alloc (Nat.le_refl _) _
  have hsz : wa.heap.size = w.heap.size + 1 := by rw [hwa]; simp
  refine (HC.out wa hba).mono ?_
  rintro e1 w1 ⟨hb1, ⟨x, v, hg, rfl, hx⟩ | ⟨hg, v, b, off, msg, rfl, he, hv⟩ | ⟨hg, a, rfl⟩⟩
  · obtain ⟨bx, rfl⟩ := hx.form
    have HX := Lib.hid hx
    have HG := Lib.hid hg
    have HB := Lib.hid hb1
    have HWA := Lib.hid hwa
    have HBA := Lib.hid hba
    have HSZ := Lib.hid hsz
    clear hx hg hb1 hwa hwa' hba hsz
    go_wp2_with fail
    refine (plain_any x _ _ HX.out).mono ?_
    rintro e2 w2 ⟨c0, c1, c2, rfl, hx2, hb2⟩
    obtain ⟨hz2, hs2, hw2⟩ := pl_zero HWA.out (HB.out.trans (hb2.mono HB.out.size))
    have HX2 := Lib.hid hx2
    have HZ2 := Lib.hid hz2
    have HW2 := Lib.hid hw2
    have u0 := cell_at (o := 0) hz2 (.int .i64 0) rfl
    have u1 := cell_at (o := 1) hz2 (.string { data := #[] }) rfl
    have u2 := cell_at (o := 2) hz2 (.slice none 0 0) rfl
    have ua0 := cellsA u0
    have ua1 := cellsA u1
    have ua2 := cellsA u2
    have fz := free_at hz2
    obtain ⟨s1, a1, cp1, rfl, rfl, rfl, -⟩ := hx2.form
    clear hx2 hb2 hz2 hs2 hw2
    go_wp2_with fail
    obtain ⟨W, hW⟩ : ∃ W, W = ((w2.setCell ⟨w.heap.size, 0, none⟩ (.int .i64 x.kind)).setCell ⟨w.heap.size, 1, none⟩ (.string s1)).setCell ⟨w.heap.size, 2, none⟩ (.slice a1 x.arity cp1) := ⟨_, rfl⟩
    obtain ⟨hc, hX, hB⟩ := ip_end HZ2.out HW2.out (by have := HB.out.size; have := HSZ.out; omega) HX2.out hW
    have r0 := cell_at (o := 0) hc (.int .i64 x.kind) rfl
    have r1 := cell_at (o := 1) hc (.string s1) rfl
    have r2 := cell_at (o := 2) hc (.slice a1 x.arity cp1) rfl
    rw [← hW]
    clear hW
    exact bodyPost_ret (v := .tuple #[.agg #[.int .i64 x.kind, .string s1, .slice a1 x.arity cp1], .int .i64 0, .bool true]) (by simp [results, Tryd.results15, go_sem, r0, r1, r2]) rfl ⟨hB, .inl ⟨x, _, _, _, HG.out, rfl, hX⟩⟩
  · have HG := Lib.hid hg
    have HB := Lib.hid hb1
    have HE := Lib.hid he
    have HWA := Lib.hid hwa
    have HBA := Lib.hid hba
    have HSZ := Lib.hid hsz
    have q0 := cell_at (o := 0) he (.int .i64 off) rfl
    have ta := fun w => ta_serr ⟨b, 0, none⟩ w
    obtain ⟨hz1, hs1, hw1⟩ := pl_zero hwa hb1
    have u0 := cell_at (o := 0) hz1 (.int .i64 0) rfl
    have u1 := cell_at (o := 1) hz1 (.string { data := #[] }) rfl
    have u2 := cell_at (o := 2) hz1 (.slice none 0 0) rfl
    have ua0 := cellsA u0
    have ua1 := cellsA u1
    have ua2 := cellsA u2
    have fz := free_at hz1
    have HZ1 := Lib.hid hz1
    have HW1 := Lib.hid hw1
    have hne : ¬ b = w.heap.size := by
      intro e
      subst e
      have := hz1.symm.trans he
      unfold zeroE at this
      simp at this
    have hne2 : ¬ w.heap.size = b := fun e => hne e.symm
    clear he hg hb1 hwa hwa' hba hsz hz1 hs1 hw1 hv
    go_wp2_with fail
    go_region_law (fail)
    all_goals go_wp2
    all_goals
      obtain ⟨W, hW⟩ : ∃ W, W = ((w1.setCell ⟨w.heap.size, 0, none⟩ (.int .i64 0)).setCell ⟨w.heap.size, 1, none⟩ (.string { data := #[] })).setCell ⟨w.heap.size, 2, none⟩ (.slice none 0 0) := ⟨_, rfl⟩
      obtain ⟨hc', hB⟩ := ip_none (w2 := w1) HZ1.out HW1.out hW
      have hc : W.drew.heap[w.heap.size]? = _ := hc'
      have r0 := cell_at (o := 0) hc (.int .i64 0) rfl
      have r1 := cell_at (o := 1) hc (.string { data := #[] }) rfl
      have r2 := cell_at (o := 2) hc (.slice none 0 0) rfl
      rw [← hW]
      clear hW
      clear hc hc'
      exact bodyPost_ret (v := .tuple #[.agg #[.int .i64 0, .string { data := #[] }, .slice none 0 0], .int .i64 off, .bool false]) (by simp [results, Tryd.results15, go_sem, r0, r1, r2, Act.put, List.getElem_toArray, List.getElem_cons_succ, List.getElem_cons_zero]) rfl ⟨hB.drew, .inr ⟨HG.out, off, rfl⟩⟩
  · have HG := Lib.hid hg
    have ta := fun w => ta_serr_no a w
    obtain ⟨hz1, hs1, hw1⟩ := pl_zero hwa hb1
    have u0 := cell_at (o := 0) hz1 (.int .i64 0) rfl
    have u1 := cell_at (o := 1) hz1 (.string { data := #[] }) rfl
    have u2 := cell_at (o := 2) hz1 (.slice none 0 0) rfl
    have ua0 := cellsA u0
    have ua1 := cellsA u1
    have ua2 := cellsA u2
    have fz := free_at hz1
    have HZ1 := Lib.hid hz1
    have HW1 := Lib.hid hw1
    clear hg hb1 hwa hwa' hba hsz hz1 hs1 hw1
    go_wp2_with fail
    obtain ⟨W, hW⟩ : ∃ W, W = ((w1.setCell ⟨w.heap.size, 0, none⟩ (.int .i64 0)).setCell ⟨w.heap.size, 1, none⟩ (.string { data := #[] })).setCell ⟨w.heap.size, 2, none⟩ (.slice none 0 0) := ⟨_, rfl⟩
    obtain ⟨hc, hB⟩ := ip_none (w2 := w1) HZ1.out HW1.out hW
    have r0 := cell_at (o := 0) hc (.int .i64 0) rfl
    have r1 := cell_at (o := 1) hc (.string { data := #[] }) rfl
    have r2 := cell_at (o := 2) hc (.slice none 0 0) rfl
    rw [← hW]
    clear hW hc
    exact bodyPost_ret (v := .tuple #[.agg #[.int .i64 0, .string { data := #[] }, .slice none 0 0], .int .i64 (-1), .bool false]) (by simp [results, Tryd.results15, go_sem, r0, r1, r2]) rfl ⟨hB, .inr ⟨HG.out, -1, rfl⟩⟩
theorem implParse_all (L : ByteArray) (w : World) (hn : hasByte L 10 = false) (hs : L.size ≤ 1000000000) (hT : Tabs w) (hE : Errs w) :
    Calls Tryd.prog 15 #[.string L] w (IpG (ParseP L.data.toList) (ParseQ L.data.toList) w) :=
  implParse_gen _ _ L w fun _ hb => conParse_all L _ hn hs (hT.below hb) (hE.below hb)
end Go.Proofs.YteemenhinhkonaaDoor
