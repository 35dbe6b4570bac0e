/- GoVersion of an expression whose tags are plain: its text; the laws' number. -/
import Derived.Test.YteemenhinhkonaaDoorProg
import Derived.Test.YteemenhinhkonaaDoorSpecVer
import Derived.Test.YteemenhinhkonaaDoorMinVer
import Derived.Test.YteemenhinhkonaaDoorForm
namespace Go.Proofs.YteemenhinhkonaaDoor
open Go.RowKit

def verText (n : Int) : List UInt8 := if n < 0 then [] else [103, 111, 49, 46] ++ Lib.decDigits n.toNat
theorem verText_neg {n : Int} (h : n < 0) : verText n = [] := by unfold verText; rw [if_pos h]
theorem verText_pos {n : Int} (h : 0 ≤ n) : verText n = [103, 111, 49, 46] ++ Lib.decDigits n.toNat := by unfold verText; rw [if_neg (by omega)]
theorem XIs.tagSizes {S : Nat → Prop} {w : World} : ∀ {x : Ex} {c0 c1 c2 : Value}, XIs S w x c0 c1 c2 → ∀ t ∈ x.tags, t.size ≤ 1152921504606846976 := by
  intro x
  induction x with
  | tag t => intro c0 c1 c2 h u hu; simp only [Ex.tags, List.mem_singleton] at hu; subst hu; exact h.2.2.1
  | not x ih =>
    intro c0 c1 c2 h u hu
    obtain ⟨_, _, b, off, cap, x0, x1, x2, _, _, _, _, _, hx⟩ := h
    simp only [Ex.tags] at hu
    rw [mem_addTags] at hu
    rcases hu with hu | hu
    · cases hu
    · exact ih hx u hu
  | and x y ihx ihy | or x y ihx ihy =>
    intro c0 c1 c2 h u hu
    obtain ⟨_, _, b, off, cap, x0, x1, x2, y0, y1, y2, _, _, _, _, _, _, _, _, hx, hy⟩ := h
    simp only [Ex.tags] at hu
    rw [mem_addTags, mem_addTags] at hu
    rcases hu with (hu | hu) | hu
    · cases hu
    · exact ihx hx u hu
    · exact ihy hy u hu

theorem digits_small (k : Nat) (h : (k : Int) ≤ 99) : (Lib.decDigits k).length ≤ 100 := by
  rw [Lib.decDigits]
  split
  · simp
  · rw [Lib.decDigits]
    split
    · simp
    · omega
def VTPost (n : Int) (w : World) (en : Ending) (w' : World) : Prop := en = .returned (.string (mkB (verText n))) ∧ Below w.heap.size w w'
theorem conGoVer_any (x : Ex) (v : Value) (w : World) (h : CIs w x v) (hp : x.plain) : Calls Tryd.prog 54 #[v] w (VTPost (x.least true) w) := by
  have hr := least_range x true hp
  have HC := Lib.hid h
  have HP := Lib.hid hp
  obtain ⟨b, rfl⟩ := h.form
  obtain ⟨n, hn⟩ : ∃ n, n = x.least true := ⟨_, rfl⟩
  rw [← hn] at hr ⊢
  have HN := Lib.hid hn
  clear h hp hn
  have hsg : (1 : Int) = sgn true := rfl
  go_enter Tryd.func54, Tryd.ntmps54
  go_wp2_with fail
  refine (minVer_any x _ true w HC.out HP.out).mono ?_
  rw [← HN.out]
  rintro e1 w1 ⟨rfl, hb1⟩
  have HB1 := Lib.hid hb1
  clear hb1 hsg
  rcases hr with hr | ⟨h1, h2⟩
  · subst hr
    go_wp2_with fail
    go_ret
    exact ⟨rfl, HB1.out⟩
  · obtain ⟨k, rfl⟩ : ∃ k : Nat, n = k := ⟨n.toNat, by omega⟩
    go_wp2_with fail
    refine (Tryd.strconv_Itoa_small k (by omega) w1).mono ?_
    rintro e2 w2 ⟨rfl, rfl⟩
    have hsz := digits_small k h2
    have s1 := run_string_add_sum (P := Tryd.prog) w2 { data := #[103, 111, 49, 46] } ⟨(Lib.decDigits k).toArray⟩ (by
      have e1 : (ByteArray.mk #[103, 111, 49, 46]).size = 4 := rfl
      have e2 : (ByteArray.mk (Lib.decDigits k).toArray).size = (Lib.decDigits k).length := by simp [ByteArray.size]
      rw [e1, e2]; omega)
    go_wp2_with fail
    go_ret
    refine ⟨?_, HB1.out⟩
    rw [verText_pos (by omega), ← mkB_append]
    rfl
theorem implGoVer_any (x : Ex) (c0 c1 c2 : Value) (w : World) (h : XIs (fun _ => True) w x c0 c1 c2) (hp : x.plain) : Calls Tryd.prog 36 #[.agg #[c0, c1, c2]] w (VTPost (x.least true) w) := by
  obtain ⟨sx, ax, cx, rfl, rfl, rfl, -⟩ := h.form
  have HX := Lib.hid h
  have HP := Lib.hid hp
  clear h hp
  go_enter Tryd.func36, Tryd.ntmps36
  go_wp2_with fail
  refine (build_any x _ _ _ _ (by exact HX.out.below ((Below.refl _ _).alloc (Nat.le_refl _) _))).mono ?_
  rintro e1 w1 ⟨v, rfl, hc1, hb1⟩
  have HB1 := Lib.hid (((Below.refl w.heap.size w).alloc (Nat.le_refl _) _).trans (hb1.mono (by simp)))
  have HC1 := Lib.hid hc1
  obtain ⟨b1, rfl⟩ := hc1.form
  clear hc1 hb1
  go_wp2_with fail
  refine (conGoVer_any x _ w1 HC1.out HP.out).mono ?_
  rintro e2 w2 ⟨rfl, hb2⟩
  have HB2 := Lib.hid (HB1.out.trans (hb2.mono HB1.out.size))
  clear hb2
  go_wp2_with fail
  go_ret
  exact ⟨rfl, HB2.out⟩
theorem digits_one {n : Int} (h1 : 0 ≤ n) (h2 : n ≤ 9) : Lib.decDigits n.toNat = [UInt8.ofNat (48 + n.toNat)] := by
  rw [Lib.decDigits, dif_pos (by omega)]
theorem digits_two {n : Int} (h1 : 9 < n) (h2 : n ≤ 99) : Lib.decDigits n.toNat = [UInt8.ofNat (48 + n.toNat / 10), UInt8.ofNat (48 + n.toNat % 10)] := by
  rw [Lib.decDigits, dif_neg (by omega), Lib.decDigits, dif_pos (by omega)]
  rfl
theorem conv_one (W : World) (d : Int) (h0 : 0 ≤ d) (h1 : d < 256) : (convert 82 9 (.slice (some ⟨W.heap.size, 0, none⟩) 1 1)).run Tryd.prog (W.alloc (.cells #[.int .u8 d] 5)) = .ok (.string (mkB [UInt8.ofNat d.toNat])) (W.alloc (.cells #[.int .u8 d] 5)) := by
  have hd : ((UInt8.ofNat d.toNat).toNat : Int) = d := by
    rw [UInt8.toNat_ofNat', Nat.mod_eq_of_lt (by omega)]
    omega
  exact run_convert_bytes_back (W.alloc (.cells #[.int .u8 d] 5)) 82 9 5 ⟨W.heap.size, 0, none⟩ 1 [UInt8.ofNat d.toNat] Tryd.underlying82 Tryd.underlying5 Tryd.underlying9 (fun j hj => by
    have hj0 : j = 0 := by simpa using hj
    subst hj0
    have := cell_at (o := 0) (heap_new W (.cells #[.int .u8 d] 5) rfl) (.int .u8 d) rfl
    rw [show ((⟨W.heap.size, 0, none⟩ : Addr).add 0) = ⟨W.heap.size, 0, none⟩ from rfl, show ([UInt8.ofNat d.toNat] : List UInt8)[0] = UInt8.ofNat d.toNat from rfl, hd]
    exact this)
set_option maxRecDepth 1000000 in
theorem number_any (n : Int) (w : World) (h1 : 1 ≤ n) (h2 : n ≤ 99) : Calls Tryd.prog 35 #[.int .i64 n] w fun e w' => e = .returned (.string (mkB (Lib.decDigits n.toNat))) ∧ Below w.heap.size w w' := by
  have c1 := conv_one w (48 + n % 10) (by omega) (by omega)
  by_cases h9 : n ≤ 9
  · have HD : Hid (Lib.decDigits n.toNat = [UInt8.ofNat (48 + n % 10).toNat]) := Lib.hid (by rw [digits_one (by omega) h9, show (48 + n % 10).toNat = 48 + n.toNat by omega])
    go_enter Tryd.func35, Tryd.ntmps35
    go_wp2_with fail
    go_ret
    exact ⟨by rw [HD.out]; rfl, (Below.refl _ _).alloc (Nat.le_refl _) _⟩
  · have HD : Hid (Lib.decDigits n.toNat = [UInt8.ofNat (48 + n / 10).toNat] ++ [UInt8.ofNat (48 + n % 10).toNat]) := Lib.hid (by rw [digits_two (by omega) h2, show (48 + n / 10).toNat = 48 + n.toNat / 10 by omega, show (48 + n % 10).toNat = 48 + n.toNat % 10 by omega]; rfl)
    have c2 := conv_one (w.alloc (.cells #[.int .u8 (48 + n % 10)] 5)) (48 + n / 10) (by omega) (by omega)
    have sw : (w.alloc (.cells #[.int .u8 (48 + n % 10)] 5)).heap.size = w.heap.size + 1 := by simp
    rw [sw] at c2
    have s1 := fun w => run_string_add_sum (P := Tryd.prog) w (mkB [UInt8.ofNat (48 + n / 10).toNat]) (mkB [UInt8.ofNat (48 + n % 10).toNat]) (by rw [mkB_size, mkB_size]; simp)
    clear sw
    go_enter Tryd.func35, Tryd.ntmps35
    go_wp2_with fail
    go_ret
    exact ⟨by rw [HD.out, ← mkB_append]; rfl, ((Below.refl _ _).alloc (Nat.le_refl _) _).alloc (by simp) _⟩
end Go.Proofs.YteemenhinhkonaaDoor
