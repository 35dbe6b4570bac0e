/- The walk of laws.FnOffset. -/
import Derived.Test.YteemenhinhkonaaDoorProg
import Derived.Test.YteemenhinhkonaaDoorBridge
import Derived.Test.YteemenhinhkonaaDoorParseAny
import Derived.Test.YteemenhinhkonaaDoorRead
import Derived.Test.YteemenhinhkonaaDoorImplText
import Derived.Test.YteemenhinhkonaaDoorDLined
namespace Go.Proofs.YteemenhinhkonaaDoor
open Go.RowKit

def RdP3 (s : ByteArray) (w : World) (en : Ending) (w' : World) : Prop := Below w.heap.size w w' ∧ ∃ k t a n cap st, en = .returned (.tuple #[.agg #[.int .i64 k, .string t, .slice a n cap], .int .i64 st]) ∧
  ((st = 1 ∧ ∃ x m, Rd m s.data.toList x ∧ s.data.toList.all plainB = true) ∨ (st = 2 ∧ s.data.toList.all plainB = true ∧ ∀ n y, orP (pOr n) s.data.toList ≠ some (y, [])) ∨ st = 0)
theorem read3 (s : ByteArray) (w : World) (hs : s.size ≤ 1152921504606846976) : Calls Tryd.prog 14 #[.string s] w (RdP3 s w) := by
  refine (read_any s w hs).mono ?_
  rintro e1 w1 ⟨hg1, hrd⟩
  refine ⟨below_of_grown hg1, ?_⟩
  rcases hrd with ⟨-, rfl⟩ | ⟨hok, x, c0, c1, c2, st, rfl, hx, hlv, hsp⟩
  · exact ⟨0, _, none, 0, 0, 0, rfl, .inr (.inr rfl)⟩
  · obtain ⟨sx, ax, cx, rfl, rfl, rfl, -⟩ := hx.form
    refine ⟨x.kind, sx, ax, x.arity, cx, st, rfl, ?_⟩
    rcases hsp with ⟨h, n, hr⟩ | ⟨h, hr⟩ | ⟨h, _⟩
    · exact .inl ⟨h, x, n, hr, textOk_plain hok⟩
    · exact .inr (.inl ⟨h, textOk_plain hok, hr⟩)
    · exact .inr (.inr h)
set_option maxHeartbeats 4000000 in
set_option maxRecDepth 100000 in
theorem fnOffset_any (s : ByteArray) (w : World) (hs : s.size ≤ 549755813888) (hT : Tabs w) : Calls Tryd.prog 10 #[.string s] w (CallPost true w) := by
  have HT := Lib.hid hT
  clear hT
  go_enter Tryd.func10, Tryd.ntmps10
  go_wp2_with fail
  refine (lined_any s w hs).mono ?_
  rintro e0 w0 ⟨b, rfl, hb0, h10⟩
  have HB0 := Lib.hid hb0
  have H10 := Lib.hid h10
  clear hb0 h10
  cases b with
  | false =>
    go_wp2_with fail
    go_ret
    exact ⟨rfl, HB0.out⟩
  | true =>
  by_cases hlen : s.size ≤ 500
  · go_wp2_with fail
    refine (read3 s w0 (by omega)).mono ?_
    rintro e1 w1 ⟨hb1, k, t, a, n, cap, st, rfl, hst⟩
    have HB1 := Lib.hid (HB0.out.trans (hb1.mono HB0.out.size))
    have hlen2 : s.data.toList.length = s.size := by simp
    have HL2 := Lib.hid hlen2
    have e1 : (ByteArray.mk #[47, 47, 103, 111, 58, 98, 117, 105, 108, 100, 32]).size = 11 := rfl
    have s1 := fun w => run_string_add_sum (P := Tryd.prog) w { data := #[47, 47, 103, 111, 58, 98, 117, 105, 108, 100, 32] } s (by rw [e1]; omega)
    obtain ⟨wa, hwa⟩ : ∃ wa, wa = w1.alloc (.cells #[.int .i64 k, .string t, .slice a n cap] 24) := ⟨_, rfl⟩
    have hba : Below w1.heap.size w1 wa := by rw [hwa]; exact (Below.refl _ _).alloc (Nat.le_refl _) _
    have HBA := Lib.hid (HB1.out.trans (hba.mono HB1.out.size))
    have HTA := Lib.hid (HT.out.below HBA.out)
    have HWA := Lib.hid hwa.symm
    clear hb1 hlen2 e1 hba hwa
    rcases hst with ⟨rfl, x, m, hr, hp⟩ | ⟨rfl, hp, hr⟩ | rfl
    · have HR := Lib.hid hr
      have HP := Lib.hid hp
      clear hr hp
      go_wp2_with fail
      rw [HWA.out]
      refine (parse_is (l := s.data.toList) _ wa (by simp [goWord, ByteArray.data_append]) HP.out HR.out (by rw [HL2.out]; omega) HTA.out).mono ?_
      rintro e3 w3 ⟨d0, d1, d2, rfl, hy, hb3⟩
      obtain ⟨sy, ay, cy, rfl, rfl, rfl, -⟩ := hy.form
      have HB3 := Lib.hid (HBA.out.trans (hb3.mono HBA.out.size))
      clear hy hb3 s1
      go_wp2_with fail
      go_ret
      exact ⟨rfl, HB3.out.alloc HB3.out.size _⟩
    · have HR := Lib.hid hr
      have HP := Lib.hid hp
      clear hr hp
      go_wp2_with fail
      rw [HWA.out]
      refine (parse_no (l := s.data.toList) _ wa (by simp [goWord, ByteArray.data_append]) HP.out HR.out (by rw [HL2.out]; omega) HTA.out).mono ?_
      rintro e3 w3 ⟨off, rfl, ho1, ho2, hb3⟩
      have HB3 := Lib.hid (HBA.out.trans (hb3.mono HBA.out.size))
      rw [HL2.out] at ho2
      have ho3 : off ≤ (s.size : Int) + 11 := by omega
      clear hb3 s1
      go_wp2_with fail
      go_ret
      exact ⟨rfl, HB3.out.alloc HB3.out.size _⟩
    · go_wp2_with fail
      rw [HWA.out]
      refine (parse_any _ s.data.toList wa (by simp [goWord, ByteArray.data_append]) (H10.out.1 (by simp)) (by rw [HL2.out]; omega) HTA.out).mono ?_
      rintro e3 w3 ⟨hb3, ⟨x, d0, d1, d2, rfl, hy⟩ | ⟨off, rfl, ho1, ho2⟩⟩
      · obtain ⟨sy, ay, cy, rfl, rfl, rfl, -⟩ := hy.form
        have HB3 := Lib.hid (HBA.out.trans (hb3.mono HBA.out.size))
        clear hy hb3 s1
        go_wp2_with fail
        go_ret
        exact ⟨rfl, HB3.out.alloc HB3.out.size _⟩
      · have HB3 := Lib.hid (HBA.out.trans (hb3.mono HBA.out.size))
        rw [HL2.out] at ho2
        have ho3 : off ≤ (s.size : Int) + 11 := by omega
        clear hb3 s1
        go_wp2_with fail
        go_ret
        exact ⟨rfl, HB3.out.alloc HB3.out.size _⟩
  · go_wp2_with fail
    go_ret
    exact ⟨rfl, HB0.out⟩
end Go.Proofs.YteemenhinhkonaaDoor
