/- laws.begins and laws.holds. -/
import Derived.Test.YteemenhinhkonaaDoorProg
import Derived.Test.YteemenhinhkonaaDoorPlusC
import Derived.Test.YteemenhinhkonaaDoorDLined
namespace Go.Proofs.YteemenhinhkonaaDoor
open Go.RowKit

theorem prefix_take (s t : ByteArray) : ((s.extract 0 t.size).toList == t.toList) = Lib.hasPrefix s.data.toList t.data.toList := by
  rw [extract_mkB, ByteArray.toList_eq, ByteArray.toList_eq, mkB_toList, List.drop_zero, Bool.eq_iff_iff]
  unfold Lib.hasPrefix
  rw [List.isPrefixOf_iff_prefix, beq_iff_eq, List.prefix_iff_eq_take]
  have : t.data.toList.length = t.size := by simp
  rw [this]
  exact ⟨fun h => h.symm, fun h => h.symm⟩
set_option maxHeartbeats 400000 in
theorem begins_any (s t : ByteArray) (w : World) (ht : t.size ≤ 1152921504606846976) : Calls Tryd.prog 39 #[.string s, .string t] w fun e w' => e = .returned (.bool (Lib.hasPrefix s.data.toList t.data.toList)) ∧ w = w' := by
  by_cases hle : t.size ≤ s.size
  · have hsl : ∀ wx, (Instr.slice 9 (.string s) none (some (.int .i64 (t.size : Int))) none).run Tryd.prog wx = .ok (.string (s.extract 0 t.size)) wx := fun wx => by
      have := run_slice_string_to_if (P := Tryd.prog) wx 9 s .i64 (t.size : Int) Tryd.underlying9
      rw [this, if_pos (by omega)]
      simp
    have hp := prefix_take s t
    have HP := Lib.hid hp
    clear hp
    go_enter Tryd.func39, Tryd.ntmps39
    go_wp2_with fail
    go_ret
    exact ⟨ret_bool HP.out, rfl⟩
  · have hp : Lib.hasPrefix s.data.toList t.data.toList = false := by
      cases h : Lib.hasPrefix s.data.toList t.data.toList
      · rfl
      · have := (List.isPrefixOf_iff_prefix.1 h).length_le
        simp at this
        exact absurd this hle
    have HP := Lib.hid hp
    clear hp
    go_enter Tryd.func39, Tryd.ntmps39
    go_wp2_with fail
    go_ret
    exact ⟨ret_bool HP.out.symm, rfl⟩
def HoldsRel (l t : List UInt8) (n : Nat) (i : Value) : Prop := ∃ k : Nat, k ≤ n ∧ i = .int .i64 k ∧ ∀ j, j < k → Lib.hasPrefix (l.drop j) t = false
def HoldsPost (l t : List UInt8) (w : World) (e : Ending) (w' : World) : Prop := (∃ b, e = .returned (.bool b) ∧ (b = true ↔ ∃ i, i < l.length ∧ Lib.hasPrefix (l.drop i) t = true)) ∧ w = w'
set_option maxHeartbeats 400000 in
theorem holds_any (s t : ByteArray) (w : World) (hs : s.size ≤ 1152921504606846976) (ht : t.size ≤ 1152921504606846976) : Calls Tryd.prog 40 #[.string s, .string t] w (HoldsPost s.data.toList t.data.toList w) := by
  have hl : s.data.toList.length = s.size := by simp
  have HL := Lib.hid hl
  clear hl
  go_enter Tryd.func40, Tryd.ntmps40
  go_wp2_with fail
  go_loop [8] (fun i => HoldsRel s.data.toList t.data.toList s.size i) (fun i => s.size - (intOf i).toNat)
  case atStart => exact ⟨0, Nat.zero_le _, rfl, fun j h => absurd h (by omega)⟩
  case round =>
    obtain ⟨k, hk, rfl, hno⟩ := hrel
    have HN := Lib.hid hno
    clear hno
    by_cases hlt : k < s.size
    · have hsl : ∀ wx, (Instr.slice 9 (.string s) (some (.int .i64 (k : Int))) none none).run Tryd.prog wx = .ok (.string (mkB (dropB s k))) wx := fun wx => by
        have := run_slice_string_from_if (P := Tryd.prog) wx 9 s .i64 (k : Int) Tryd.underlying9
        rw [this, if_pos (by omega), show ((k : Int)).toNat = k from by omega, extract_end]
      have hds : (mkB (dropB s k)).size ≤ 1152921504606846976 := by rw [mkB_size, dropB_length]; omega
      have HDS := Lib.hid hds
      clear hds
      cases hp : Lib.hasPrefix (dropB s k) t.data.toList
      · have HP := Lib.hid hp
        clear hp
        go_wp2_with fail
        refine (begins_any _ t _ ht).mono ?_
        rw [mkB_toList, HP.out]
        rintro e1 w1 ⟨rfl, rfl⟩
        clear hsl
        go_wp2_with fail
        exact ⟨⟨k + 1, hlt, by go_num, fun j hj => by
          by_cases e : j = k
          · subst e; exact HP.out
          · exact HN.out j (by omega)⟩, by simp [intOf]; omega⟩
      · have HP := Lib.hid hp
        clear hp
        go_wp2_with fail
        refine (begins_any _ t _ ht).mono ?_
        rw [mkB_toList, HP.out]
        rintro e1 w1 ⟨rfl, rfl⟩
        clear hsl
        go_wp2_with fail
        go_ret
        exact ⟨⟨true, rfl, fun _ => ⟨k, by rw [HL.out]; exact hlt, HP.out⟩, fun _ => rfl⟩, rfl⟩
    · go_wp2_with fail
      go_ret
      exact ⟨⟨false, rfl, ⟨fun h => (by cases h), fun ⟨i, hi, hp⟩ => by rw [HN.out i (by rw [HL.out] at hi; omega)] at hp; cases hp⟩⟩, rfl⟩
end Go.Proofs.YteemenhinhkonaaDoor
