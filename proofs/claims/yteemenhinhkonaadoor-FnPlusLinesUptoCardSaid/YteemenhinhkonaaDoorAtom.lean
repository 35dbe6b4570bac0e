/- The package's parser: atom, with the closure that it defers; then all four together. -/
import Derived.Test.YteemenhinhkonaaDoorProg
import Derived.Test.YteemenhinhkonaaDoorAnd
import Derived.Defers
import Derived.Recover
namespace Go.Proofs.YteemenhinhkonaaDoor
open Go.RowKit

theorem ta_err (a : Addr) (w : World) : (Instr.typeAssert (.iface 69 (.pointer (some a))) 20 69 true).run Tryd.prog w = .ok (.tuple #[.pointer (some a), .bool true]) w := by kernel_rfl

theorem atom1_idle (w : World) : CallsD Tryd.prog 131 #[] .returning w fun e u' w' => e = .returned (.tuple #[]) ∧ u' = .returning ∧ w' = w := by
  refine callsD_of_wpS Tryd.func131 rfl fun c₀ cs hu => ?_
  apply wpS_seq
  apply wpS_region
  simp [wpOpsS, go_sem, recoverD, hu, Tryd.ntmps131, Exit.thenS]
  refine wpS_of_wp ?_
  go_wp2_with fail
  cases c₀
  simp_all [bodyPostS, results, Tryd.results131]

def ReP (b : Nat) (off : Int) (older : List PanicEntry) (w : World) (e : Ending) (u' : FrameMode) (w' : World) : Prop :=
  e = .panicked [{ v := .iface 69 (.pointer (some ⟨b, 0, none⟩)), recovered := false }] ∧ u' = .panicking ({ v := .iface 69 (.pointer (some ⟨b, 0, none⟩)), recovered := true } :: older) ∧
    ∃ msg, msg.size ≤ 2305843009213693952 ∧ SErr w' b off msg ∧ w.grownBy w' (some b)
set_option maxHeartbeats 400000 in
theorem atom1_panic (b : Nat) (off : Int) (msg : ByteArray) (older : List PanicEntry) (w : World) (h : SErr w b off msg) (hm : msg.size ≤ 2305843009213693952) :
    CallsD Tryd.prog 131 #[] (.panicking ({ v := .iface 69 (.pointer (some ⟨b, 0, none⟩)), recovered := false } :: older)) w (ReP b off older w) := by
  have q1 := cell_at (o := 1) h (.string msg) rfl
  have f1 := free_at h 1
  have ta := fun w => ta_err ⟨b, 0, none⟩ w
  cases hE : msg.toList == [117, 110, 101, 120, 112, 101, 99, 116, 101, 100, 32, 101, 110, 100, 32, 111, 102, 32, 101, 120, 112, 114, 101, 115, 115, 105, 111, 110]
  · refine callsD_of_wpS Tryd.func131 rfl fun c₀ cs hu => ?_
    apply wpS_seq
    apply wpS_region
    simp [wpOpsS, go_sem, recoverD, hu, Tryd.ntmps131, Exit.thenS]
    refine wpS_of_wp ?_
    simp only [Array.replicate_succ, Array.replicate_zero, List.push_toArray, List.nil_append, List.cons_append, List.setIfInBounds_toArray, List.set_cons_zero, List.set_cons_succ]
    have H := Lib.hid h
    clear h hu
    go_wp2_with fail
    exact ⟨rfl, _, rfl, rfl, rfl, msg, hm, H.out, World.grownBy.refl _ _⟩
  · refine callsD_of_wpS Tryd.func131 rfl fun c₀ cs hu => ?_
    apply wpS_seq
    apply wpS_region
    simp [wpOpsS, go_sem, recoverD, hu, Tryd.ntmps131, Exit.thenS]
    refine wpS_of_wp ?_
    simp only [Array.replicate_succ, Array.replicate_zero, List.push_toArray, List.nil_append, List.cons_append, List.setIfInBounds_toArray, List.set_cons_zero, List.set_cons_succ]
    have H := Lib.hid h
    clear h hu
    go_wp2_with fail
    exact ⟨rfl, _, rfl, rfl, rfl, { data := #[109, 105, 115, 115, 105, 110, 103, 32, 99, 108, 111, 115, 101, 32, 112, 97, 114, 101, 110] }, by decide, heap_set _ H.out _, grown_set (World.grownBy.refl _ _) _ _⟩
def unexS : ByteArray := { data := #[117, 110, 101, 120, 112, 101, 99, 116, 101, 100, 32, 116, 111, 107, 101, 110, 32] }
theorem grown_past {w w' w'' : World} {bp b : Nat} (h : w.grownBy w' (some bp)) (hb : w.heap.size ≤ b) (h2 : w'.grownBy w'' (some b)) : w.grownBy w'' (some bp) :=
  ⟨h2.os.trans h.os, h2.tape.trans h.tape, h2.output.trans h.output, Nat.le_trans h.size h2.size, fun k hk hne => (h2.block k (Nat.lt_of_lt_of_le hk h.size) (by intro e; injection e with e; omega)).trans (h.block k hk hne)⟩
theorem door_panic {fn : Func} {tmps : Array Value} {R : Ending → World → Prop} {s : ByteArray} {n : Nat} {ps : List PanicEntry} {w' : World} (h : PanicP s n (.panicked ps) w')
    (hR : ∀ e w'', PanicP s n e w'' → (∃ b, n ≤ b ∧ w'.grownBy w'' (some b)) → R e w'') : Leaves Tryd.prog fn tmps R [{ target := .fn (.func 131) #[], args := #[] }] (.panicking ps) w' := by
  obtain ⟨b, off, msg, older, h1, h2, h3, h4, h5, h6, h7⟩ := h
  injection h1 with h1
  subst h1
  refine leaves_cons (f := 131) (args := #[]) (by simp) (by simp [go_sem]) ?_
  refine (atom1_panic b off msg older w' h3 h7).mono ?_
  rintro e u w'' ⟨rfl, rfl, msg', hm', hs', hg'⟩
  refine hR _ _ ⟨b, off, msg', { v := .iface 69 (.pointer (some ⟨b, 0, none⟩)), recovered := true } :: older, rfl, ?_, hs', h4, h5, h6, hm'⟩ ⟨b, h4, hg'⟩
  intro x hx
  rcases List.mem_cons.1 hx with rfl | hx
  · rfl
  · exact h2 x hx
theorem atom_par {N M : Nat} (hN : N = M + 1) (z : Nat) {ts : List Tok} (h : isSym 40 ts = true) : gAtom (gO N) z ts = match gOr (gO M) z ts.tail with | some (x, q, z') => if isSym 41 q = true ∧ errB q.tail = false then some (x, q.tail, z') else none | none => none := by
  subst hN
  cases ts with
  | nil => cases h
  | cons t ts =>
    cases t with
    | sym c =>
      have hc : c = 40 := by simpa [isSym] using h
      subst hc
      rw [gAtom_sym, if_pos rfl, List.tail_cons]
      show (match gOr (gO M) z ts with | some (x, .sym d :: q, z') => if d = 41 ∧ errB q = false then some (x, q, z') else none | _ => none) = _
      cases hg : gOr (gO M) z ts with
      | none => rfl
      | some a =>
        obtain ⟨x, q, z'⟩ := a
        cases q with
        | nil => simp [isSym]
        | cons u q =>
          cases u with
          | sym d => simp [isSym]
          | op d => simp [isSym]
          | tag d => simp [isSym]
          | err => simp [isSym]
    | op c => cases h
    | tag c => cases h
    | err => cases h
theorem tag_of {ts : List Tok} (h : headTag ts = true) (o : GP) (z : Nat) : gAtom o z ts = if errB ts.tail = true then none else some (.tag (mkB (headText ts)), ts.tail, z) := by
  cases ts with
  | nil => cases h
  | cons t ts =>
    cases t with
    | tag t => rfl
    | sym c => cases h
    | op c => cases h
    | err => cases h
theorem tag_nosym {ts : List Tok} (h : headTag ts = true) (c : UInt8) : isSym c ts = false := by
  cases ts with
  | nil => cases h
  | cons t ts =>
    cases t with
    | tag t => rfl
    | sym c => cases h
    | op c => cases h
    | err => cases h

set_option maxHeartbeats 2000000 in
theorem atom_ofO (n : Nat) (s : ByteArray) (N : Nat) (hs : s.size ≤ 1152921504606846976) (ih : ∀ M, M < N → OrK n s M) : AtomK n s N := by
  intro bp ts z w h hok hz hN hT hn
  obtain ⟨k, pos, hp, hpos⟩ := h.pis
  have q2 := hp.c2
  have q3 := hp.c3
  have q4 := hp.c4
  have hlb := lt_of_heap hp
  have hmf : ∀ (fn : Fn) (first cap : Array Value) (w : World), (Instr.makeFunc fn first cap).run Tryd.prog w = .ok (.func fn first cap) w := fun _ _ _ _ => rfl
  have H := Lib.hid h
  have HT := Lib.hid hT
  have IH := Lib.hid ih
  clear hp h hT ih
  have hb40 := txt_eq (headText ts) [40]
  by_cases h40 : isSym 40 ts = true
  · have t40 : ((mkB (headText ts)).toList == [40]) = true := by rw [hb40, decide_eq_true]; exact (hok.isSym 40 rfl).2 h40
    obtain ⟨M, hM⟩ : ∃ M, N = M + 1 := ⟨N - 1, by
      cases ts with
      | nil => cases h40
      | cons t ts => simp at hN; omega⟩
    have HR := Lib.hid (atom_par hM z h40)
    have hMl : M < N := by omega
    have hMt : ts.tail.length ≤ M := by rw [List.length_tail]; omega
    clear hb40 h40 hM
    go_enter_defers Tryd.func121, Tryd.ntmps121
    go_wp2_with fail
    refine (IH.out M hMl bp ts.tail z _ H.out.unl hz hMt HT.out hn).mono ?_
    rintro e1 w1 ⟨hg1, hc1⟩
    have HG1 := Lib.hid hg1
    have hsz1 : w.heap.size ≤ w1.heap.size := hg1.size
    clear hg1 q2 q3 q4
    rcases hc1 with ⟨x, ts1, z1, v1, hr1, rfl, hx1, hcur1, hok1⟩ | ⟨hr1, hpan⟩
    · obtain ⟨b1, rfl⟩ := hx1.form
      obtain ⟨k1, pos1, hpp, -⟩ := hcur1.pis
      have q2 := hpp.c2
      have HX := Lib.hid hx1
      have HC := Lib.hid hcur1
      have HR1 := Lib.hid hr1
      clear hpp hx1 hcur1 hr1
      have hb41 := txt_eq (headText ts1) [41]
      by_cases h41 : isSym 41 ts1 = true
      · have t41 : ((mkB (headText ts1)).toList == [41]) = true := by rw [hb41, decide_eq_true]; exact (hok1.isSym 41 rfl).2 h41
        have t41n : ((mkB (headText ts1)).toList != [41]) = false := by rw [bne, t41]; rfl
        have H41 := Lib.hid h41
        clear hb41 h41
        go_wp2_with fail
        refine (lexU HC.out.unl hs (HT.out.grown hn hlb HG1.out) hn).mono ?_
        rintro e2 w2 ⟨hg2, hc2⟩
        have HX2 := Lib.hid (HC.out.grownN HX.out hg2)
        have HG2 := Lib.hid (HG1.out.trans hg2)
        clear hg2 q2
        rcases hc2 with ⟨he2, rfl, hcur2⟩ | ⟨he2, hpan⟩
        · have HC2 := Lib.hid hcur2
          have HRS : Hid (gAtom (gO N) z ts = some (x, ts1.tail, z1)) := Lib.hid (by rw [HR.out, HR1.out]; exact if_pos ⟨H41.out, he2⟩)
          clear hcur2 he2
          go_wp2_with fail
          refine leaves_cons (f := 131) (args := #[]) (by simp) (by simp [go_sem]) ?_
          refine (atom1_idle w2).mono ?_
          rintro e3 u3 w3 ⟨rfl, rfl, rfl⟩
          exact ⟨.iface x.ptr (.pointer (some ⟨b1, 0, none⟩)), by simp [results, Tryd.results121, go_sem], HG2.out, .inl ⟨x, ts1.tail, z1, _, HRS.out, rfl, HX2.out, HC2.out, HC.out.unl.okT⟩⟩
        · have HRN : Hid (gAtom (gO N) z ts = none) := Lib.hid (by rw [HR.out, HR1.out]; exact if_neg (by rw [he2]; simp))
          obtain ⟨ps, rfl⟩ := hpan.form
          have HPN := Lib.hid (panic_up hpan hsz1)
          clear hpan he2
          go_wp2_with fail
          exact door_panic HPN.out fun e w'' hP ⟨b, hb, hg⟩ => ⟨grown_past HG2.out hb hg, .inr ⟨HRN.out, hP⟩⟩
      · have t41 : ((mkB (headText ts1)).toList == [41]) = false := by
          rw [hb41, decide_eq_false]
          intro e
          exact h41 ((hok1.isSym 41 rfl).1 e)
        have t41n : ((mkB (headText ts1)).toList != [41]) = true := by rw [bne, t41]; rfl
        have HRN : Hid (gAtom (gO N) z ts = none) := Lib.hid (by rw [HR.out, HR1.out]; exact if_neg (fun h => h41 h.1))
        clear hb41 h41
        go_wp2_with fail
        refine door_panic (s := s) (n := w.heap.size) (panic_new hsz1 rfl _ (by omega) (by omega) _ (by decide)) fun e w'' hP ⟨b, hb, hg⟩ => ⟨grown_past (HG1.out.trans (World.grownBy_alloc _ _ _)) hb hg, .inr ⟨HRN.out, hP⟩⟩
    · have HRN : Hid (gAtom (gO N) z ts = none) := Lib.hid (by rw [HR.out, hr1])
      obtain ⟨ps, rfl⟩ := hpan.form
      have HPN := Lib.hid hpan
      clear hpan hr1
      go_wp2_with fail
      exact door_panic HPN.out fun e w'' hP ⟨b, hb, hg⟩ => ⟨grown_past HG1.out hb hg, .inr ⟨HRN.out, hP⟩⟩
  · have t40 : ((mkB (headText ts)).toList == [40]) = false := by
      rw [hb40, decide_eq_false]
      intro e
      exact h40 ((hok.isSym 40 rfl).1 e)
    cases htg : headTag ts
    · have HRN := Lib.hid (atom_notag (gO N) z ts htg (by simpa using h40))
      rw [htg] at q3
      clear hb40 h40 htg
      by_cases hnil : headText ts = []
      · have hem : (mkB (headText ts)).toList.isEmpty = true := empty_yes (by rw [mkB_size, hnil]; rfl)
        clear hnil
        go_enter_defers Tryd.func121, Tryd.ntmps121
        go_wp2_with fail
        exact ⟨World.grownBy_alloc _ _ _, .inr ⟨HRN.out, panic_new (Nat.le_refl _) rfl _ (by omega) (by omega) _ (by decide)⟩⟩
      · have hem : (mkB (headText ts)).toList.isEmpty = false := empty_no (by rw [mkB_size]; exact List.length_pos_iff.2 hnil)
        have hml : (mkB (headText ts)).size ≤ 1152921504606846976 := by
          obtain ⟨kk, rfl⟩ := hok
          rcases toks_form tlG (dropB s kk) with h | ⟨a, r, h, _⟩ | ⟨a, r, h, _⟩ | ⟨a, t, r, h, _, _, hl⟩ | h
          · rw [h, mkB_size]; simp [headText]
          · rw [h, mkB_size]; simp [headText]
          · rw [h, mkB_size]; simp [headText]
          · rw [h, mkB_size]
            rw [dropB_length] at hl
            show (a :: t).length ≤ _
            omega
          · rw [h, mkB_size]; simp [headText]
        have rs := fun w => run_string_add_sum (P := Tryd.prog) w unexS (mkB (headText ts)) (by have e : unexS.size = 17 := rfl; omega)
        unfold unexS at rs
        clear hnil
        go_enter_defers Tryd.func121, Tryd.ntmps121
        go_wp2_with fail
        refine region_tail 10 (by kernel_rfl) (by kernel_rfl) ?_
        simp only [List.take_succ_cons, List.take_zero, List.drop_succ_cons, List.drop_zero]
        repeat (go_big_quiet_step (fail))
        refine wpQuiet_nil ?_
        clear rs
        go_wp2_with fail
        exact ⟨grown_drewN (World.grownBy_alloc _ _ _) 1, .inr ⟨HRN.out, PanicP.drew (panic_new (Nat.le_refl _) rfl _ (by omega) (by omega) _ (by rw [ByteArray.size_append]; have e : unexS.size = 17 := rfl; unfold unexS at e; omega))⟩⟩
    · have HRT := Lib.hid (tag_of htg (gO N) z)
      rw [htg] at q3
      have hml : (mkB (headText ts)).size ≤ 1152921504606846976 := by
        obtain ⟨kk, rfl⟩ := hok
        obtain ⟨r, _, hl⟩ := head_tag tlG (dropB s kk) htg
        rw [mkB_size]
        rw [dropB_length] at hl
        omega
      clear hb40 h40 htg
      go_enter_defers Tryd.func121, Tryd.ntmps121
      go_wp2_with fail
      refine (lexU H.out.unl hs HT.out hn).mono ?_
      rintro e2 w2 ⟨hg2, hc2⟩
      have HG2 := Lib.hid hg2
      clear hg2 q2 q3 q4
      rcases hc2 with ⟨he2, rfl, hcur2⟩ | ⟨he2, hpan⟩
      · have HC2 := Lib.hid hcur2
        have HRS : Hid (gAtom (gO N) z ts = some (.tag (mkB (headText ts)), ts.tail, z)) := Lib.hid (by rw [HRT.out]; exact if_neg (by rw [he2]; simp))
        clear hcur2 he2
        go_wp2_with fail
        refine (mkTag_any _ _).mono ?_
        rintro e4 w4 ⟨rfl, rfl⟩
        go_wp2_with fail
        have hbn : Below w2.heap.size w2 (w2.alloc (.cells #[.string (mkB (headText ts))] 96)) := (Below.refl _ _).alloc (Nat.le_refl _) _
        exact ⟨.iface 94 (.pointer (some ⟨w2.heap.size, 0, none⟩)), by simp [results, Tryd.results121, go_sem], grown_below HG2.out hbn, .inl ⟨.tag (mkB (headText ts)), ts.tail, z, _, HRS.out, rfl, ⟨_, rfl, heap_new _ _ rfl, hml⟩, HC2.out.below hbn, H.out.unl.okT⟩⟩
      · have HRN : Hid (gAtom (gO N) z ts = none) := Lib.hid (by rw [HRT.out]; exact if_pos he2)
        obtain ⟨ps, rfl⟩ := hpan.form
        have HPN := Lib.hid hpan
        clear hpan he2
        go_wp2_with fail
        exact ⟨HG2.out, .inr ⟨HRN.out, HPN.out⟩⟩

/- all four -/
theorem parser_all (n : Nat) (s : ByteArray) (hs : s.size ≤ 1152921504606846976) (N : Nat) : OrK n s N := by
  induction N using Nat.strongRecOn with
  | _ N ih => exact or_ofA n s N (and_ofN n s N (not_ofA n s N hs (atom_ofO n s N hs ih)))
end Go.Proofs.YteemenhinhkonaaDoor
