/- The reference's Holds. -/
import Derived.Test.YteemenhinhkonaaDoorPlusH
namespace Go.Proofs.YteemenhinhkonaaDoor
open Go.RowKit

def HoIn (f : ByteArray → Bool) (o : List (List UInt8)) (al j : Value) : Prop := ∃ m : Nat, m ≤ o.length ∧ j = .int .i64 (m : Int) ∧ al = .bool ((o.take m).all (termV f))
theorem all_take_V {f : ByteArray → Bool} {o : List (List UInt8)} {m : Nat} {t : List UInt8} (h : o[m]? = some t) : (o.take (m + 1)).all (termV f) = ((o.take m).all (termV f) && termV f t) := by
  rw [List.take_add_one, h, Option.toList_some, List.all_append]
  simp
theorem any_take_O {f : ByteArray → Bool} {os : List (List (List UInt8))} {k : Nat} {o : List (List UInt8)} (h : os[k]? = some o) : holdsO (os.take (k + 1)) f = (holdsO (os.take k) f || o.all (termV f)) := by
  unfold holdsO
  rw [List.take_add_one, h, Option.toList_some, List.any_append]
  simp
set_option maxRecDepth 100000 in
set_option maxHeartbeats 8000000 in
theorem holdsO_any (v vc : Value) (os : List (List (List UInt8))) (cs : List ByteArray) (w : World) (h : OS w v os) (hs : SS w vc cs) (hne : ∀ o ∈ os, ∀ t ∈ o, t ≠ []) (hbk : bulkO os ≤ 1048576) :
    Calls Tryd.prog 24 #[v, vc] w fun e w' => e = .returned (.bool (holdsO os (hasB cs))) ∧ w = w' := by
  obtain ⟨pv, cv, rfl⟩ : ∃ a c, v = .slice a os.length c := by obtain ⟨a, c, h, _⟩ := h; exact ⟨a, c, h⟩
  have HO := Lib.hid h
  have HC := Lib.hid hs
  have HNE := Lib.hid hne
  have HBK := Lib.hid hbk
  have hol : os.length ≤ 1048576 := Nat.le_trans (len_sum _ _) hbk
  clear h hs hne hbk
  go_enter Tryd.func24, Tryd.ntmps24
  go_wp2_with fail
  go_loop [12] (fun i => ∃ k : Nat, k ≤ os.length ∧ i = .int .i64 (k : Int) ∧ holdsO (os.take k) (hasB cs) = false) (fun i => os.length - (intOf i).toNat)
  case atStart => exact ⟨0, Nat.zero_le _, rfl, rfl⟩
  case round =>
    obtain ⟨k, hk, rfl, hno⟩ := hrel
    have HN := Lib.hid hno
    clear hno
    by_cases hlt : k < os.length
    · obtain ⟨o, ho⟩ : ∃ o, os[k]? = some o := ⟨_, List.getElem?_eq_getElem hlt⟩
      obtain ⟨b, off, u, rfl, hcell, hss⟩ := HO.out.get ho
      have hml : (o.map mkB).length = o.length := List.length_map _
      obtain ⟨a2, c2, hu, _⟩ := id hss
      rw [hml] at hu
      subst hu
      have hbt := bulk_opt (List.mem_of_getElem? ho)
      have hlo : o.length ≤ 1048576 := by have := HBK.out; have := len_sum (fun t : List UInt8 => t.length) o; unfold bulkT at hbt; omega
      have HSS := Lib.hid hss
      have HOK := Lib.hid ho
      have HBT : Hid (bulkT o ≤ 1048576) := Lib.hid (by have := HBK.out; omega)
      have HNO := Lib.hid (HNE.out o (List.mem_of_getElem? ho))
      clear hss hml ho hbt
      go_wp2_with fail
      go_loop [7, 18] (fun al j => HoIn (hasB cs) o al j) (fun _ j => o.length - (intOf j).toNat)
      case atStart => exact ⟨0, Nat.zero_le _, rfl, rfl⟩
      case round =>
        obtain ⟨m, hm, rfl, rfl⟩ := hrel
        by_cases hlm : m < o.length
        · obtain ⟨t, ht⟩ : ∃ t, o[m]? = some t := ⟨_, List.getElem?_eq_getElem hlm⟩
          obtain ⟨gt, ot, rfl, hct⟩ := HSS.out.cell (i := m) (s := mkB t) (by rw [List.getElem?_map, ht]; rfl)
          have htl : t.length ≤ 1048576 := by have := bulk_term (List.mem_of_getElem? ht); have := HBT.out; omega
          have htn := HNO.out t (List.mem_of_getElem? ht)
          have HT := Lib.hid ht
          clear ht
          cases t with
          | nil => exact absurd rfl htn
          | cons c r =>
            clear htn
            have hz : 0 < (mkB (c :: r)).size := by rw [mkB_size]; simp
            have hz2 : (0 : Int) < ((mkB (c :: r)).size : Int) := by omega
            have hz3 : (1 : Int) ≤ ((mkB (c :: r)).size : Int) := by omega
            have hh0 : (mkB (c :: r))[0] = c := rfl
            obtain ⟨al, hal⟩ : ∃ al, al = (o.take m).all (termV (hasB cs)) := ⟨_, rfl⟩
            rw [← hal]
            have HAL := Lib.hid hal
            clear hal
            by_cases h33 : c.toNat = 33
            · have hc : c = 33 := UInt8.toNat_inj.1 h33
              have n33 : (((mkB (c :: r))[0].toNat : Int) == 33) = true := by rw [hh0]; simp; omega
              have sl1 : ∀ wx, (Instr.slice 9 (.string (mkB (c :: r))) (some (.int .i64 1)) none none).run Tryd.prog wx = .ok (.string (mkB r)) wx := fun wx => by
                have := run_slice_string_from_if (P := Tryd.prog) wx 9 (mkB (c :: r)) .i64 1 Tryd.underlying9
                rw [this, if_pos (by omega), show (1 : Int).toNat = 1 from rfl, extract_end]
                unfold dropB
                rw [mkB_toList]
                rfl
              have HE : Hid ((o.take (m + 1)).all (termV (hasB cs)) = (al && !hasB cs (mkB r))) := Lib.hid (by rw [all_take_V HT.out, ← HAL.out, hc]; rfl)
              clear hc h33 hh0
              cases al with
              | true =>
                go_wp2_with fail
                refine (has_any _ _ _ _ HC.out).mono ?_
                rintro e1 w1 ⟨rfl, rfl⟩
                clear sl1
                go_wp2_with fail
                exact ⟨⟨m + 1, hlm, by go_num, by rw [HE.out]; simp⟩, by simp [intOf]; omega⟩
              | false =>
                clear sl1
                go_wp2_with fail
                exact ⟨⟨m + 1, hlm, by go_num, by rw [HE.out]; simp⟩, by simp [intOf]; omega⟩
            · have n33 : (((mkB (c :: r))[0].toNat : Int) == 33) = false := by rw [hh0]; simp; omega
              have HE : Hid ((o.take (m + 1)).all (termV (hasB cs)) = (al && hasB cs (mkB (c :: r)))) := Lib.hid (by
                rw [all_take_V HT.out, ← HAL.out]
                congr 1
                unfold termV
                split
                · rename_i e
                  injection e with e _
                  exact absurd (by rw [e]; rfl) h33
                · rfl)
              clear h33 hh0
              cases al with
              | true =>
                go_wp2_with fail
                refine (has_any _ _ _ _ HC.out).mono ?_
                rintro e1 w1 ⟨rfl, rfl⟩
                go_wp2_with fail
                exact ⟨⟨m + 1, hlm, by go_num, by rw [HE.out]; simp⟩, by simp [intOf]; omega⟩
              | false =>
                go_wp2_with fail
                exact ⟨⟨m + 1, hlm, by go_num, by rw [HE.out]; simp⟩, by simp [intOf]; omega⟩
        · obtain rfl : m = o.length := by omega
          rw [List.take_length]
          cases hal : o.all (termV (hasB cs)) with
          | true =>
            have HE : Hid (holdsO os (hasB cs) = true) := Lib.hid (any_true_of HOK.out hal)
            clear hal
            go_wp2_with fail
            go_ret
            exact ⟨ret_bool HE.out.symm, rfl⟩
          | false =>
            have HE : Hid (holdsO (os.take (k + 1)) (hasB cs) = false) := Lib.hid (by rw [any_take_O HOK.out, HN.out, hal]; rfl)
            clear hal
            go_wp2_with fail
            exact ⟨⟨k + 1, hlt, by go_num, HE.out⟩, by simp [intOf]; omega⟩
    · obtain rfl : k = os.length := by omega
      have HE : Hid (holdsO os (hasB cs) = false) := Lib.hid (by have := HN.out; rw [List.take_length] at this; exact this)
      go_wp2_with fail
      go_ret
      exact ⟨ret_bool HE.out.symm, rfl⟩
end Go.Proofs.YteemenhinhkonaaDoor
