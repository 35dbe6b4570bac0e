/- Options in memory, and the reference's Plus. -/
import Derived.Test.YteemenhinhkonaaDoorProg
import Derived.Test.YteemenhinhkonaaDoorPlusG
import Derived.Test.YteemenhinhkonaaDoorSpecTags
import Derived.Test.YteemenhinhkonaaDoorLex
import Derived.Test.YteemenhinhkonaaDoorTags
namespace Go.Proofs.YteemenhinhkonaaDoor
open Go.RowKit

def OS (w : World) (v : Value) (os : List (List (List UInt8))) : Prop := ∃ a cap, v = .slice a os.length cap ∧ ∀ (i : Nat) (o : List (List UInt8)), os[i]? = some o → ∃ b off u, a = some ⟨b, off, none⟩ ∧ w.cell? ⟨b, off + i, none⟩ = some u ∧ SS w u (o.map mkB)
theorem OS.below {w w' : World} {v : Value} {os : List (List (List UInt8))} (h : OS w v os) (hb : Below w.heap.size w w') : OS w' v os := by
  obtain ⟨a, cap, h1, h2⟩ := h
  refine ⟨a, cap, h1, fun i o ho => ?_⟩
  obtain ⟨b, off, u, e1, e2, e3⟩ := h2 i o ho
  exact ⟨b, off, u, e1, (hb.cell (p := ⟨b, off + i, none⟩) (lt_of_cell e2)).trans e2, e3.below hb⟩
theorem OS.get {w : World} {a : Option Addr} {n cap : Nat} {os : List (List (List UInt8))} (h : OS w (.slice a n cap) os) {i : Nat} {o : List (List UInt8)} (ho : os[i]? = some o) : ∃ b off u, a = some ⟨b, off, none⟩ ∧ w.cell? ⟨b, off + i, none⟩ = some u ∧ SS w u (o.map mkB) := by
  obtain ⟨a', cap', h1, h2⟩ := h
  injection h1 with h1 _ _
  subst h1
  exact h2 i o ho
def bulkT (o : List (List UInt8)) : Nat := (o.map fun t => 1 + t.length).sum
def bulkO (os : List (List (List UInt8))) : Nat := (os.map fun o => 1 + bulkT o).sum
theorem sum_mem {l : List Nat} {x : Nat} (h : x ∈ l) : x ≤ l.sum := by
  induction l with
  | nil => cases h
  | cons y r ih =>
    rw [List.sum_cons]
    rcases List.mem_cons.1 h with rfl | h
    · omega
    · have := ih h; omega
theorem len_sum {α : Type} (f : α → Nat) (l : List α) : l.length ≤ (l.map fun x => 1 + f x).sum := by
  induction l with
  | nil => simp
  | cons y r ih => rw [List.map_cons, List.sum_cons, List.length_cons]; omega
theorem bulk_opt {os : List (List (List UInt8))} {o : List (List UInt8)} (h : o ∈ os) : bulkT o + 1 ≤ bulkO os := by
  have := sum_mem (List.mem_map_of_mem (f := fun o => 1 + bulkT o) h)
  unfold bulkO
  omega
theorem bulk_term {o : List (List UInt8)} {t : List UInt8} (h : t ∈ o) : t.length + 1 ≤ bulkT o := by
  have := sum_mem (List.mem_map_of_mem (f := fun t : List UInt8 => 1 + t.length) h)
  unfold bulkT
  omega
theorem comma_len (r : List (List UInt8)) : (commaT r).length = bulkT r := by
  induction r with
  | nil => rfl
  | cons t r ih =>
    unfold commaT at ih ⊢
    rw [List.flatMap_cons, List.length_append, ih]
    simp [bulkT]
    omega
theorem optT_len (o : List (List UInt8)) : (optT o).length = bulkT o := by
  cases o with
  | nil => rfl
  | cons t r =>
    show (32 :: (t ++ commaT r)).length = _
    rw [List.length_cons, List.length_append, comma_len]
    simp [bulkT]
    omega
theorem line_len (os : List (List (List UInt8))) : (lineOf os).length ≤ 9 + bulkO os := by
  unfold lineOf
  rw [List.length_append]
  have : (os.flatMap optT).length ≤ bulkO os := by
    induction os with
    | nil => simp [bulkO]
    | cons o r ih =>
      rw [List.flatMap_cons, List.length_append, optT_len]
      have e : bulkO (o :: r) = 1 + bulkT o + bulkO r := by simp [bulkO]
      omega
  have e : plHead.length = 9 := rfl
  omega
theorem sum_take (l : List Nat) (k : Nat) : (l.take k).sum ≤ l.sum := by
  conv => rhs; rw [← List.take_append_drop k l]
  rw [List.sum_append]
  omega
theorem bulk_take (os : List (List (List UInt8))) (k : Nat) : bulkO (os.take k) ≤ bulkO os := by
  unfold bulkO
  rw [List.map_take]
  exact sum_take _ _
theorem bulkT_take (o : List (List UInt8)) (k : Nat) : bulkT (o.take k) ≤ bulkT o := by
  unfold bulkT
  rw [List.map_take]
  exact sum_take _ _
def goodL (o : List (List UInt8)) : Bool := !o.isEmpty && o.all goodT
def goodO (os : List (List (List UInt8))) : Bool := os.all goodL
theorem tagOkB_L (l : List UInt8) : tagOkB (mkB l) = tagOkL l := by
  unfold tagOkB tagOkL
  rw [mkB_toList, mkB_size]
  cases l <;> simp

/- the little map of separators -/
theorem run_checkKey_bool {P : Program} (w : World) {k : TypeId} (hk : P.underlying k = some .bool) (em : Bool) (n : Nat) (v : Value) : (Instr.checkKey em (n + 1) k v).run P w = .ok () w := by
  simp [Instr.checkKey, run_underlying hk]
theorem run_findKey_bool {P : Program} (w : World) {k : TypeId} (hk : P.underlying k = some .bool) (v : Value) (es : List MapEntry) (r : Option (Nat × Value)) (hf : Instr.findNow .bool v es 0 = some r) : (Instr.findKey k v es).run P w = .ok r w := by
  simp [Instr.findKey, run_underlying hk, hf]
theorem run_mapUpdate_boolW {P : Program} {w : World} {t k e : TypeId} (ht : P.underlying t = some (.map k e)) (hk : P.underlying k = some .bool) {es : Array MapEntry} {c r : Nat} (hb : w.heap[r]? = some (.map es c)) (key val : Value)
    (hf : Instr.findNow .bool key es.toList 0 = some none) :
    (Instr.mapUpdate t (.map (some r)) key val).run P w = .ok () { w with heap := w.heap.setIfInBounds r (.map (es.push ⟨key, val, c⟩) (c + 1)) } := by
  simp [Instr.mapUpdate, run_underlying ht, getObj, setObj, Sem.run, hb, run_checkKey_bool _ hk, run_findKey_bool _ hk _ _ _ hf]
theorem run_mapUpdate_bool {P : Program} (V : World) {t k e : TypeId} (ht : P.underlying t = some (.map k e)) (hk : P.underlying k = some .bool) (es : Array MapEntry) (c : Nat) (key val : Value)
    (hf : Instr.findNow .bool key es.toList 0 = some none) {r : Nat} (hr : r = V.heap.size) :
    (Instr.mapUpdate t (.map (some r)) key val).run P (V.alloc (.map es c)) = .ok () (V.alloc (.map (es.push ⟨key, val, c⟩) (c + 1))) := by
  subst hr
  rw [run_mapUpdate_boolW ht hk (heap_alloc_new V _) key val hf, setObj_alloc]
theorem run_lookup_bool {P : Program} {w : World} {t k e : TypeId} (ht : P.underlying t = some (.map k e)) (hk : P.underlying k = some .bool) {r c : Nat} {es : Array MapEntry} (hb : w.heap[r]? = some (.map es c)) (key : Value)
    (i : Nat) (v : Value) (hf : Instr.findNow .bool key es.toList 0 = some (some (i, v))) :
    (Instr.lookup t (.map (some r)) key false).run P w = .ok v w := by
  simp [Instr.lookup, run_underlying ht, getObj, Sem.run, hb, run_checkKey_bool _ hk, run_findKey_bool _ hk _ _ _ hf]
def sepMap : Array MapEntry := #[⟨.bool true, .string { data := #[32] }, 0⟩, ⟨.bool false, .string { data := #[44] }, 1⟩]
theorem sepB (b : Bool) : ({ data := #[if b = true then 32 else 44] } : ByteArray) = mkB [if b = true then 32 else 44] := rfl

def PluPost (os : List (List (List UInt8))) (w : World) (e : Ending) (w' : World) : Prop := Below w.heap.size w w' ∧
  ∃ (l : List UInt8) (ok : Bool), e = .returned (.tuple #[.string (mkB l), .bool ok]) ∧ l.length ≤ 1000000000 ∧ (ok = true → l = lineOf os ∧ os ≠ [] ∧ goodO os = true)
def PlOut (os : List (List (List UInt8))) (w : World) (out i : Value) (wr : World) : Prop :=
  ∃ k : Nat, k ≤ os.length ∧ i = .int .i64 (k : Int) ∧ out = .string (mkB (lineOf (os.take k))) ∧ goodO (os.take k) = true ∧ Below w.heap.size w wr
def PlIn (L : List UInt8) (o : List (List UInt8)) (w : World) (out j : Value) (wr : World) : Prop :=
  ∃ m : Nat, m ≤ o.length ∧ j = .int .i64 (m : Int) ∧ out = .string (mkB (L ++ optT (o.take m))) ∧ (o.take m).all goodT = true ∧ Below w.heap.size w wr
theorem optT_take {o : List (List UInt8)} {m : Nat} {t : List UInt8} (h : o[m]? = some t) : optT (o.take (m + 1)) = optT (o.take m) ++ (if m = 0 then 32 else 44) :: t := by
  rw [List.take_add_one, h, Option.toList_some, optT_snoc]
  have hl := (List.getElem?_eq_some_iff.1 h).1
  by_cases hm : m = 0
  · subst hm; simp
  · rw [if_neg hm, if_neg (by intro e; have := congrArg List.length e; rw [List.length_take, List.length_nil] at this; omega)]
theorem all_take_good {o : List (List UInt8)} {m : Nat} {t : List UInt8} (h : o[m]? = some t) (ha : (o.take m).all goodT = true) (hg : goodT t = true) : (o.take (m + 1)).all goodT = true := by
  rw [List.take_add_one, h, Option.toList_some, List.all_append, ha, List.all_cons, hg]
  rfl
set_option maxRecDepth 100000 in
set_option maxHeartbeats 8000000 in
theorem plus_any (v : Value) (os : List (List (List UInt8))) (w : World) (h : OS w v os) (hbk : bulkO os ≤ 1048576) : Calls Tryd.prog 20 #[v] w (PluPost os w) := by
  have hmm := @run_makeMap Tryd.prog
  obtain ⟨pv, cv, rfl⟩ : ∃ a c, v = .slice a os.length c := by obtain ⟨a, c, h, _⟩ := h; exact ⟨a, c, h⟩
  have HO := Lib.hid h
  have HBK := Lib.hid hbk
  have hol : os.length ≤ 1048576 := Nat.le_trans (len_sum _ _) hbk
  clear h hbk
  go_enter Tryd.func20, Tryd.ntmps20
  go_wp2_with fail
  go_loopw [4, 11] (fun out i wr => PlOut os w out i wr) (fun _ i _ => os.length - (intOf i).toNat)
  case atStart => exact ⟨0, Nat.zero_le _, rfl, rfl, rfl, Below.refl _ _⟩
  case round =>
    obtain ⟨k, hk, rfl, rfl, hgo, hb⟩ := hrel
    have HGO := Lib.hid hgo
    have HB := Lib.hid hb
    clear hgo hb
    by_cases hlt : k < os.length
    · obtain ⟨o, ho⟩ : ∃ o, os[k]? = some o := ⟨_, List.getElem?_eq_getElem hlt⟩
      obtain ⟨b, off, u, rfl, hcell, hss⟩ := (HO.out.below HB.out).get ho
      have hml : (o.map mkB).length = o.length := List.length_map _
      obtain ⟨a2, c2, hu, _⟩ := id hss
      rw [hml] at hu
      subst hu
      have hbt := bulk_opt (List.mem_of_getElem? ho)
      have hlo : o.length ≤ 1048576 := by have := HBK.out; have := len_sum (fun t : List UInt8 => t.length) o; unfold bulkT at hbt; omega
      have HSS := Lib.hid hss
      have HOK := Lib.hid ho
      have HBT : Hid (bulkT o ≤ 1048576) := Lib.hid (by have := HBK.out; omega)
      obtain ⟨L, hL⟩ : ∃ L, L = lineOf (os.take k) := ⟨_, rfl⟩
      have HLL : Hid (L.length ≤ 1048600) := Lib.hid (by rw [hL]; have := line_len (os.take k); have := bulk_take os k; have := HBK.out; omega)
      rw [← hL]
      have HL := Lib.hid hL
      clear hss hml ho hbt hL
      obtain ⟨wo, hwo⟩ : ∃ x, x = wr := ⟨_, rfl⟩
      subst hwo
      go_wp2_with fail
      go_loopw [4, 17] (fun out j wq => PlIn L o wo out j wq) (fun _ j _ => o.length - (intOf j).toNat)
      case atStart => exact ⟨0, Nat.zero_le _, rfl, by simp [optT], rfl, Below.refl _ _⟩
      case round =>
        obtain ⟨m, hm, rfl, rfl, hga, hb2⟩ := hrel
        have HGA := Lib.hid hga
        have HB2 := Lib.hid hb2
        clear hga hb2
        by_cases hlm : m < o.length
        · obtain ⟨t, ht⟩ : ∃ t, o[m]? = some t := ⟨_, List.getElem?_eq_getElem hlm⟩
          obtain ⟨gt, ot, rfl, hct0⟩ := HSS.out.cell (i := m) (s := mkB t) (by rw [List.getElem?_map, ht]; rfl)
          have hct := (HB2.out.cell (p := ⟨gt, ot + m, none⟩) (lt_of_cell hct0)).trans hct0
          have htl : t.length ≤ 1048576 := by have := bulk_term (List.mem_of_getElem? ht); have := HBT.out; omega
          have HT := Lib.hid ht
          have HTS : Hid ((mkB t).size ≤ 1152921504606846976) := Lib.hid (by rw [mkB_size]; omega)
          have HOL : Hid ((optT (o.take m)).length ≤ 1048576) := Lib.hid (by rw [optT_len]; have := bulkT_take o m; have := HBT.out; omega)
          clear hct0 ht
          have m1 := run_mapUpdate_bool (P := Tryd.prog) wr (t := 75) Tryd.underlying75 Tryd.underlying4 #[] 0 (.bool true) (.string { data := #[32] }) rfl (r := wr.heap.size) rfl
          have m2 := run_mapUpdate_bool (P := Tryd.prog) wr (t := 75) Tryd.underlying75 Tryd.underlying4 #[⟨.bool true, .string { data := #[32] }, 0⟩] 1 (.bool false) (.string { data := #[44] }) rfl (r := wr.heap.size) rfl
          have lkT := run_lookup_bool (P := Tryd.prog) (w := wr.alloc (.map sepMap 2)) (t := 75) Tryd.underlying75 Tryd.underlying4 (r := wr.heap.size) (heap_new wr _ rfl) (.bool true) 0 (.string { data := #[32] }) rfl
          have lkF := run_lookup_bool (P := Tryd.prog) (w := wr.alloc (.map sepMap 2)) (t := 75) Tryd.underlying75 Tryd.underlying4 (r := wr.heap.size) (heap_new wr _ rfl) (.bool false) 1 (.string { data := #[44] }) rfl
          unfold sepMap at lkT lkF
          simp only [List.push_toArray, List.cons_append, List.nil_append, Nat.zero_add, Nat.reduceAdd] at m1 m2
          have HBA : Hid (Below wo.heap.size wo (wr.alloc (.map #[⟨.bool true, .string { data := #[32] }, 0⟩, ⟨.bool false, .string { data := #[44] }, 1⟩] 2))) := Lib.hid (HB2.out.alloc HB2.out.size _)
          by_cases hm0 : m = 0
          · have hq : ((m : Int) == 0) = true := by simp; omega
            have sA := fun w => run_string_add_sum (P := Tryd.prog) w { data := #[32] } (mkB t) (by rw [mkB_size]; show 1 + t.length ≤ _; omega)
            have sB := fun w => run_string_add_sum (P := Tryd.prog) w (mkB (L ++ optT (o.take m))) ({ data := #[32] } ++ mkB t) (by rw [ByteArray.size_append, mkB_size, mkB_size, List.length_append]; have := HLL.out; have := HOL.out; show _ + (1 + t.length) ≤ _; omega)
            have HN : Hid (mkB (L ++ optT (o.take m)) ++ ({ data := #[32] } ++ mkB t) = mkB (L ++ optT (o.take (m + 1)))) := Lib.hid (by
              rw [optT_take HT.out, if_pos hm0, show ({ data := #[32] } : ByteArray) = mkB [32] from rfl, mkB_append, mkB_append, List.append_assoc]
              rfl)
            clear hm0
            cases t with
            | nil =>
              have hz : ((mkB []).size : Int) = 0 := rfl
              go_wp2_with fail
              refine (tagOk_any _ _ HTS.out).mono ?_
              rintro e1 w1 ⟨rfl, rfl⟩
              rw [tagOkB_L, show tagOkL [] = false from rfl]
              go_wp2_with fail
              go_ret2
              exact ⟨HB.out.trans (HBA.out.mono HB.out.size), [], false, rfl, by simp, fun h => by cases h⟩
            | cons c u =>
              have hz : 0 < (mkB (c :: u)).size := by rw [mkB_size]; simp
              have hz2 : (0 : Int) < ((mkB (c :: u)).size : Int) := by omega
              have hz3 : (1 : Int) ≤ ((mkB (c :: u)).size : Int) := by omega
              have hh : ∀ h : 0 < (mkB (c :: u)).size, (mkB (c :: u))[0] = c := fun _ => rfl
              have hh0 := hh hz
              clear hh
              by_cases h33 : c.toNat = 33
              · have hc : c = 33 := UInt8.toNat_inj.1 h33
                have n33 : (((mkB (c :: u))[0].toNat : Int) == 33) = true := by rw [hh0]; simp; omega
                have sl1 : ∀ wx, (Instr.slice 9 (.string (mkB (c :: u))) (some (.int .i64 1)) none none).run Tryd.prog wx = .ok (.string (mkB u)) wx := fun wx => by
                  have := run_slice_string_from_if (P := Tryd.prog) wx 9 (mkB (c :: u)) .i64 1 Tryd.underlying9
                  rw [this, if_pos (by omega), show (1 : Int).toNat = 1 from rfl, extract_end]
                  unfold dropB
                  rw [mkB_toList]
                  rfl
                have HEQ : Hid (goodT (c :: u) = tagOkL u) := Lib.hid (by rw [hc]; rfl)
                have HUS : Hid ((mkB u).size ≤ 1152921504606846976) := Lib.hid (by rw [mkB_size]; simp at htl; omega)
                clear hc h33 hh0
                go_wp2_with fail
                refine (tagOk_any _ _ HUS.out).mono ?_
                rintro e1 w1 ⟨rfl, rfl⟩
                rw [tagOkB_L]
                cases hgt : tagOkL u with
                | true =>
                  have HGT : Hid (goodT (c :: u) = true) := Lib.hid (HEQ.out.trans hgt)
                  clear hgt sl1
                  go_wp2_with fail
                  exact ⟨⟨m + 1, hlm, by go_num, by rw [← HN.out], all_take_good HT.out HGA.out HGT.out, HBA.out⟩, by simp [intOf]; omega⟩
                | false =>
                  clear hgt sl1
                  go_wp2_with fail
                  go_ret2
                  exact ⟨HB.out.trans (HBA.out.mono HB.out.size), [], false, rfl, by simp, fun h => by cases h⟩
              · have n33 : (((mkB (c :: u))[0].toNat : Int) == 33) = false := by rw [hh0]; simp; omega
                have HEQ : Hid (goodT (c :: u) = tagOkL (c :: u)) := Lib.hid (by
                  unfold goodT
                  split
                  · rename_i e
                    injection e with e _
                    exact absurd (by rw [e]; rfl) h33
                  · rfl)
                clear h33 hh0
                go_wp2_with fail
                refine (tagOk_any _ _ HTS.out).mono ?_
                rintro e1 w1 ⟨rfl, rfl⟩
                rw [tagOkB_L]
                cases hgt : tagOkL (c :: u) with
                | true =>
                  have HGT : Hid (goodT (c :: u) = true) := Lib.hid (HEQ.out.trans hgt)
                  clear hgt
                  go_wp2_with fail
                  exact ⟨⟨m + 1, hlm, by go_num, by rw [← HN.out], all_take_good HT.out HGA.out HGT.out, HBA.out⟩, by simp [intOf]; omega⟩
                | false =>
                  clear hgt
                  go_wp2_with fail
                  go_ret2
                  exact ⟨HB.out.trans (HBA.out.mono HB.out.size), [], false, rfl, by simp, fun h => by cases h⟩
          · have hq : ((m : Int) == 0) = false := by simp; omega
            have sA := fun w => run_string_add_sum (P := Tryd.prog) w { data := #[44] } (mkB t) (by rw [mkB_size]; show 1 + t.length ≤ _; omega)
            have sB := fun w => run_string_add_sum (P := Tryd.prog) w (mkB (L ++ optT (o.take m))) ({ data := #[44] } ++ mkB t) (by rw [ByteArray.size_append, mkB_size, mkB_size, List.length_append]; have := HLL.out; have := HOL.out; show _ + (1 + t.length) ≤ _; omega)
            have HN : Hid (mkB (L ++ optT (o.take m)) ++ ({ data := #[44] } ++ mkB t) = mkB (L ++ optT (o.take (m + 1)))) := Lib.hid (by
              rw [optT_take HT.out, if_neg hm0, show ({ data := #[44] } : ByteArray) = mkB [44] from rfl, mkB_append, mkB_append, List.append_assoc]
              rfl)
            clear hm0
            cases t with
            | nil =>
              have hz : ((mkB []).size : Int) = 0 := rfl
              go_wp2_with fail
              refine (tagOk_any _ _ HTS.out).mono ?_
              rintro e1 w1 ⟨rfl, rfl⟩
              rw [tagOkB_L, show tagOkL [] = false from rfl]
              go_wp2_with fail
              go_ret2
              exact ⟨HB.out.trans (HBA.out.mono HB.out.size), [], false, rfl, by simp, fun h => by cases h⟩
            | cons c u =>
              have hz : 0 < (mkB (c :: u)).size := by rw [mkB_size]; simp
              have hz2 : (0 : Int) < ((mkB (c :: u)).size : Int) := by omega
              have hz3 : (1 : Int) ≤ ((mkB (c :: u)).size : Int) := by omega
              have hh : ∀ h : 0 < (mkB (c :: u)).size, (mkB (c :: u))[0] = c := fun _ => rfl
              have hh0 := hh hz
              clear hh
              by_cases h33 : c.toNat = 33
              · have hc : c = 33 := UInt8.toNat_inj.1 h33
                have n33 : (((mkB (c :: u))[0].toNat : Int) == 33) = true := by rw [hh0]; simp; omega
                have sl1 : ∀ wx, (Instr.slice 9 (.string (mkB (c :: u))) (some (.int .i64 1)) none none).run Tryd.prog wx = .ok (.string (mkB u)) wx := fun wx => by
                  have := run_slice_string_from_if (P := Tryd.prog) wx 9 (mkB (c :: u)) .i64 1 Tryd.underlying9
                  rw [this, if_pos (by omega), show (1 : Int).toNat = 1 from rfl, extract_end]
                  unfold dropB
                  rw [mkB_toList]
                  rfl
                have HEQ : Hid (goodT (c :: u) = tagOkL u) := Lib.hid (by rw [hc]; rfl)
                have HUS : Hid ((mkB u).size ≤ 1152921504606846976) := Lib.hid (by rw [mkB_size]; simp at htl; omega)
                clear hc h33 hh0
                go_wp2_with fail
                refine (tagOk_any _ _ HUS.out).mono ?_
                rintro e1 w1 ⟨rfl, rfl⟩
                rw [tagOkB_L]
                cases hgt : tagOkL u with
                | true =>
                  have HGT : Hid (goodT (c :: u) = true) := Lib.hid (HEQ.out.trans hgt)
                  clear hgt sl1
                  go_wp2_with fail
                  exact ⟨⟨m + 1, hlm, by go_num, by rw [← HN.out], all_take_good HT.out HGA.out HGT.out, HBA.out⟩, by simp [intOf]; omega⟩
                | false =>
                  clear hgt sl1
                  go_wp2_with fail
                  go_ret2
                  exact ⟨HB.out.trans (HBA.out.mono HB.out.size), [], false, rfl, by simp, fun h => by cases h⟩
              · have n33 : (((mkB (c :: u))[0].toNat : Int) == 33) = false := by rw [hh0]; simp; omega
                have HEQ : Hid (goodT (c :: u) = tagOkL (c :: u)) := Lib.hid (by
                  unfold goodT
                  split
                  · rename_i e
                    injection e with e _
                    exact absurd (by rw [e]; rfl) h33
                  · rfl)
                clear h33 hh0
                go_wp2_with fail
                refine (tagOk_any _ _ HTS.out).mono ?_
                rintro e1 w1 ⟨rfl, rfl⟩
                rw [tagOkB_L]
                cases hgt : tagOkL (c :: u) with
                | true =>
                  have HGT : Hid (goodT (c :: u) = true) := Lib.hid (HEQ.out.trans hgt)
                  clear hgt
                  go_wp2_with fail
                  exact ⟨⟨m + 1, hlm, by go_num, by rw [← HN.out], all_take_good HT.out HGA.out HGT.out, HBA.out⟩, by simp [intOf]; omega⟩
                | false =>
                  clear hgt
                  go_wp2_with fail
                  go_ret2
                  exact ⟨HB.out.trans (HBA.out.mono HB.out.size), [], false, rfl, by simp, fun h => by cases h⟩
        · obtain rfl : m = o.length := by omega
          have HTA : Hid (o.take o.length = o) := Lib.hid List.take_length
          rw [HTA.out]
          have HB3 : Hid (Below w.heap.size w wr) := Lib.hid (HB.out.trans (HB2.out.mono HB.out.size))
          by_cases ho0 : o.length = 0
          · have hq : ((o.length : Int) == 0) = true := beq_iff_eq.2 (by omega)
            clear ho0
            go_wp2_with fail
            go_ret2
            exact ⟨HB3.out, [], false, rfl, by simp, fun h => by cases h⟩
          · have hq : ((o.length : Int) == 0) = false := beq_eq_false_iff_ne.2 (by omega)
            have HGL : Hid (goodL o = true) := Lib.hid (by
              unfold goodL
              have := HGA.out
              rw [HTA.out] at this
              rw [this]
              cases o with
              | nil => exact absurd rfl ho0
              | cons t r => rfl)
            clear ho0
            go_wp2_with fail
            exact ⟨⟨k + 1, hlt, by go_num, by rw [HL.out, List.take_add_one, HOK.out, Option.toList_some, lineOf_snoc], by
              rw [List.take_add_one, HOK.out, Option.toList_some]
              unfold goodO
              rw [List.all_append]
              have := HGO.out
              unfold goodO at this
              rw [this, List.all_cons, HGL.out]
              rfl, HB3.out⟩, by simp [intOf]; omega⟩
    · obtain rfl : k = os.length := by omega
      have HTA : Hid (os.take os.length = os) := Lib.hid List.take_length
      rw [HTA.out]
      have HLL : Hid ((lineOf os).length ≤ 1000000000) := Lib.hid (by have := line_len os; have := HBK.out; omega)
      have HGG : Hid (goodO os = true) := Lib.hid (by have := HGO.out; rw [HTA.out] at this; exact this)
      by_cases hz : os.length = 0
      · have hz2 : decide (0 < os.length) = false := decide_eq_false (by omega)
        clear hz
        go_wp2_with fail
        go_ret2
        exact ⟨HB.out, lineOf os, false, rfl, HLL.out, fun h => by cases h⟩
      · have hz2 : decide (0 < os.length) = true := decide_eq_true (by omega)
        have HNE : Hid (os ≠ []) := Lib.hid fun e => hz (by rw [e]; rfl)
        clear hz
        go_wp2_with fail
        go_ret2
        exact ⟨HB.out, lineOf os, true, rfl, HLL.out, fun _ => ⟨rfl, HNE.out, HGG.out⟩⟩
end Go.Proofs.YteemenhinhkonaaDoor
