/- The package's parseExpr: what it reads, or an error that tells a place of the text. -/
import Derived.Test.YteemenhinhkonaaDoorProg
import Derived.Test.YteemenhinhkonaaDoorAtom
namespace Go.Proofs.YteemenhinhkonaaDoor
open Go.RowKit

def gParse (N : Nat) (l : List UInt8) : Option Ex :=
  match gOr (gO N) 0 (toks tlG l) with
  | some (x, [], _) => some x
  | _ => none
theorem gParse_some {N : Nat} {l : List UInt8} {x : Ex} {z : Nat} (h : gOr (gO N) 0 (toks tlG l) = some (x, [], z)) : gParse N l = some x := by
  unfold gParse
  rw [h]
theorem gParse_none {N : Nat} {l : List UInt8} (h : gOr (gO N) 0 (toks tlG l) = none) : gParse N l = none := by
  unfold gParse
  rw [h]
theorem gParse_rest {N : Nat} {l : List UInt8} {x : Ex} {ts : List Tok} {z : Nat} (h : gOr (gO N) 0 (toks tlG l) = some (x, ts, z)) (hn : ts ≠ []) : gParse N l = none := by
  unfold gParse
  rw [h]
  cases ts with
  | nil => exact absurd rfl hn
  | cons t ts => rfl

theorem parse1_idle (be : Nat) (w : World) : CallsD Tryd.prog 73 #[.pointer (some ⟨be, 0, none⟩)] .returning w fun e u' w' => e = .returned (.tuple #[]) ∧ u' = .returning ∧ w' = w := by
  refine callsD_of_wpS Tryd.func73 rfl fun c₀ cs hu => ?_
  apply wpS_seq
  apply wpS_region
  simp [wpOpsS, go_sem, recoverD, hu, Tryd.ntmps73, Exit.thenS]
  refine wpS_of_wp ?_
  simp only [Array.replicate_succ, Array.replicate_zero, List.push_toArray, List.nil_append, List.cons_append, List.append_toArray, List.setIfInBounds_toArray, List.set_cons_zero, List.set_cons_succ]
  go_wp2_with fail
  cases c₀
  simp_all [bodyPostS, results, Tryd.results73]
set_option maxHeartbeats 400000 in
theorem parse1_panic (be b : Nat) (v0 : Value) (older : List PanicEntry) (w : World) (h : w.cell? ⟨be, 0, none⟩ = some v0) (hf : w.frozen? ⟨be, 0, none⟩ = false) :
    CallsD Tryd.prog 73 #[.pointer (some ⟨be, 0, none⟩)] (.panicking ({ v := .iface 69 (.pointer (some ⟨b, 0, none⟩)), recovered := false } :: older)) w fun e u' w' =>
      e = .returned (.tuple #[]) ∧ u' = .panicking ({ v := .iface 69 (.pointer (some ⟨b, 0, none⟩)), recovered := true } :: older) ∧ w' = w.setCell ⟨be, 0, none⟩ (.iface 69 (.pointer (some ⟨b, 0, none⟩))) := by
  have ta := fun w => ta_err ⟨b, 0, none⟩ w
  refine callsD_of_wpS Tryd.func73 rfl fun c₀ cs hu => ?_
  apply wpS_seq
  apply wpS_region
  simp [wpOpsS, go_sem, recoverD, hu, Tryd.ntmps73, Exit.thenS]
  refine wpS_of_wp ?_
  simp only [Array.replicate_succ, Array.replicate_zero, List.push_toArray, List.nil_append, List.cons_append, List.append_toArray, List.setIfInBounds_toArray, List.set_cons_zero, List.set_cons_succ]
  clear hu
  go_wp2_with fail
  exact ⟨rfl, _, rfl, _, by simp [results, Tryd.results73, go_sem], rfl, rfl, rfl⟩

theorem okT_small {s : ByteArray} {ts : List Tok} (hok : OkT s ts) (hs : s.size ≤ 1152921504606846976) : (mkB (headText ts)).size ≤ 1152921504606846976 := by
  obtain ⟨kk, rfl⟩ := hok
  rcases toks_form tlG (dropB s kk) with h | ⟨a, r, h, _⟩ | ⟨a, r, h, _⟩ | ⟨a, t, r, h, _, _, hl⟩ | h
  · rw [h, mkB_size]; simp [headText]
  · rw [h, mkB_size]; simp [headText]
  · rw [h, mkB_size]; simp [headText]
  · rw [h, mkB_size]
    rw [dropB_length] at hl
    show (a :: t).length ≤ _
    omega
  · rw [h, mkB_size]; simp [headText]
def PePost (N : Nat) (s : ByteArray) (w : World) (en : Ending) (w' : World) : Prop := Below w.heap.size w w' ∧
  ((∃ x v, gParse N (dropB s 0) = some x ∧ en = .returned (.tuple #[v, .nilIface]) ∧ CIs w' x v) ∨
   (gParse N (dropB s 0) = none ∧ ∃ v b off msg, en = .returned (.tuple #[v, .iface 69 (.pointer (some ⟨b, 0, none⟩))]) ∧ SErr w' b off msg ∧ 0 ≤ off ∧ off ≤ s.size ∧ (v = .nilIface ∨ ∃ t p, v = .iface t p)))
theorem settle_rec (v : Value) (older : List PanicEntry) (h : ∀ x ∈ older, x.goexit = false) : settle (.panicking ({ v := v, recovered := true } :: older)) = .returning := by
  unfold settle
  have : older.dropWhile (!·.goexit) = [] := by
    induction older with
    | nil => rfl
    | cons a l ih =>
      rw [List.dropWhile_cons, if_pos (by rw [h a (List.mem_cons_self ..)]; rfl)]
      exact ih fun x hx => h x (List.mem_cons_of_mem _ hx)
  simp only [this]
theorem below_of_grownP {w wb w1 : World} {bp : Nat} (hb : Below w.heap.size w wb) (hg : wb.grownBy w1 (some bp)) (hbp : w.heap.size ≤ bp) : Below w.heap.size w w1 :=
  ⟨hg.os.trans hb.os, hg.tape.trans hb.tape, hg.output.trans hb.output, Nat.le_trans hb.size hg.size, fun b hlt => (hg.block b (Nat.lt_of_lt_of_le hlt hb.size) (by intro e; injection e with e; omega)).trans (hb.block b hlt)⟩
/- the door, when the body panics -/
theorem pe_door {N : Nat} {s : ByteArray} {w w1 : World} {ps : List PanicEntry} {tmps : Array Value} {v : Value} (hb : Below w.heap.size w w1) (hc : w1.heap[w.heap.size]? = some (.cells #[.nilIface] 65 (0, 0))) (hP : PanicP s (w.heap.size + 1) (.panicked ps) w1) (hr : gParse N (dropB s 0) = none) (hv : v = .nilIface ∨ ∃ t p, v = .iface t p)
    (hres : ∀ w' u, w'.cell? ⟨w.heap.size, 0, none⟩ = some u → (results Tryd.f59 tmps).run Tryd.prog w' = .ok (.tuple #[v, u]) w') :
    Leaves Tryd.prog Tryd.f59 tmps (PePost N s w) [{ target := .fn (.func 73) #[.pointer (some ⟨w.heap.size, 0, none⟩)], args := #[] }] (.panicking ps) w1 := by
  obtain ⟨b, off, msg, older, h1, h2, h3, h4, h5, h6, h7⟩ := hP
  injection h1 with h1
  subst h1
  refine leaves_cons (f := 73) (args := #[.pointer (some ⟨w.heap.size, 0, none⟩)]) (by simp) (by simp [go_sem]) ?_
  refine (parse1_panic w.heap.size b .nilIface older w1 (cell_at hc _ rfl) (free_at hc 0)).mono ?_
  rintro e u w'' ⟨rfl, rfl, rfl⟩
  show Leaves _ _ _ _ [] (settle _) _
  rw [settle_rec _ _ h2]
  have hset := heap_set w1 (o := 0) hc (.iface 69 (.pointer (some ⟨b, 0, none⟩)))
  refine ⟨_, hres _ _ (cell_at hset _ rfl), hb.setCell (p := ⟨w.heap.size, 0, none⟩) (Nat.le_refl _) _, .inr ⟨hr, v, b, off, msg, rfl, ?_, h5, h6, hv⟩⟩
  exact (Below.heap_setCell _ _ _ b (by show b ≠ w.heap.size; omega)).trans h3

set_option maxHeartbeats 1000000 in
theorem parseExpr_any (N : Nat) (s : ByteArray) (w : World) (hs : s.size ≤ 1152921504606846976) (hN : (toks tlG (dropB s 0)).length ≤ N) (hT : Tabs w) : Calls Tryd.prog 59 #[.string s] w (PePost N s w) := by
  have hmf : ∀ (fn : Fn) (first cap : Array Value) (w : World), (Instr.makeFunc fn first cap).run Tryd.prog w = .ok (.func fn first cap) w := fun _ _ _ _ => rfl
  have HT := Lib.hid hT.upTo
  clear hT
  go_enter_defers Tryd.func59, Tryd.ntmps59
  go_wp2_with fail
  obtain ⟨wb, hwb⟩ : ∃ wb, wb = (w.alloc (.cells #[.nilIface] 65)).alloc (.cells #[.string s, .int .i64 0, .string { data := #[] }, .bool false, .int .i64 0, .int .i64 0] 113) := ⟨_, rfl⟩
  rw [← hwb]
  have hbb : Below w.heap.size w wb := by rw [hwb]; exact ((Below.refl _ _).alloc (Nat.le_refl _) _).alloc (by simp) _
  have hcb : wb.heap[w.heap.size]? = some (.cells #[.nilIface] 65 (0, 0)) := by rw [hwb, Below.heap_alloc _ _ _ (by simp)]; exact heap_new _ _ rfl
  have hsb : wb.heap.size = w.heap.size + 2 := by rw [hwb]; simp
  have HU : Hid (Unl wb (w.heap.size + 1) s (toks tlG (dropB s 0)) 0) := Lib.hid ⟨{ data := #[] }, 0, false, 0, by rw [hwb]; exact heap_new _ _ (by simp), Nat.zero_le _, Nat.zero_le _, rfl⟩
  have HTB : Hid (TabsN w.heap.size wb) := Lib.hid (HT.out.next fun b hlt => hbb.block b hlt)
  have HBB := Lib.hid hbb
  have HCB := Lib.hid hcb
  have HSB := Lib.hid hsb
  clear hwb hbb hcb hsb
  refine (parser_all w.heap.size s hs N (w.heap.size + 1) _ 0 _ HU.out (by omega) hN HTB.out (by omega)).mono ?_
  rintro e1 w1 ⟨hg1, hc1⟩
  have HB1 := Lib.hid (below_of_grownP HBB.out hg1 (by omega))
  have HC1 : Hid (w1.heap[w.heap.size]? = some (.cells #[.nilIface] 65 (0, 0))) := Lib.hid ((grown_block_of hg1 (by have := HSB.out; omega) (by omega)).trans HCB.out)
  have hsz1 : w.heap.size + 2 ≤ w1.heap.size := by have := HSB.out; have := hg1.size; omega
  clear hg1
  rcases hc1 with ⟨x, ts1, z1, v1, hr1, rfl, hx1, hcur1, hok1⟩ | ⟨hr1, hpan⟩
  · obtain ⟨b1, rfl⟩ := hx1.form
    obtain ⟨k1, pos1, hpp, hpos1⟩ := hcur1.pis
    have q2 := hpp.c2
    have q4 := hpp.c4
    have HX := Lib.hid hx1
    have he1 : errB ts1 = false := by obtain ⟨_, _, _, _, _, _, he⟩ := hcur1; exact he
    have c0 := cell_at (o := 0) HC1.out .nilIface rfl
    have f0 := free_at HC1.out 0
    clear hpp hx1 hcur1
    by_cases hnil : ts1 = []
    · subst hnil
      have HR := Lib.hid (gParse_some hr1)
      have hem : (mkB (headText [])).toList.isEmpty = true := empty_yes (by rw [mkB_size]; rfl)
      have hem2 : (!(mkB (headText [])).toList.isEmpty) = false := by rw [hem]; rfl
      clear hr1 he1
      go_wp2_with fail
      refine leaves_cons (f := 73) (args := #[.pointer (some ⟨w.heap.size, 0, none⟩)]) (by simp) (by simp [go_sem]) ?_
      refine (parse1_idle w.heap.size _).mono ?_
      rintro e3 u3 w3 ⟨rfl, rfl, rfl⟩
      have hset := heap_set w1 (o := 0) HC1.out .nilIface
      have cs := cell_at (o := 0) hset .nilIface rfl
      refine ⟨.tuple #[.iface x.ptr (.pointer (some ⟨b1, 0, none⟩)), .nilIface], by simp [results, Tryd.results59, go_sem, cs], HB1.out.setCell (p := ⟨w.heap.size, 0, none⟩) (Nat.le_refl _) _, .inl ⟨x, _, HR.out, rfl, ?_⟩⟩
      refine CIs.keep (fun b cs t f hc ht => Below.heap_setCell _ _ _ b ?_) HX.out
      show b ≠ w.heap.size
      rintro rfl
      rw [HC1.out] at hc
      injection hc with hc
      injection hc with _ h2 _
      subst h2
      revert ht
      decide
    · have HR := Lib.hid (gParse_rest hr1 hnil)
      have hne : headText ts1 ≠ [] := by
        intro e
        obtain ⟨kk, hkk⟩ := hok1
        rw [← hkk] at e he1 hnil
        exact hnil ((head_nil tlG _ he1).1 e)
      have hem : (mkB (headText ts1)).toList.isEmpty = false := empty_no (by rw [mkB_size]; exact List.length_pos_iff.2 hne)
      have hem2 : (!(mkB (headText ts1)).toList.isEmpty) = true := by rw [hem]; rfl
      have hml : (mkB (headText ts1)).size ≤ 1152921504606846976 := okT_small hok1 hs
      have rs := fun w => run_string_add_sum (P := Tryd.prog) w unexS (mkB (headText ts1)) (by have e : unexS.size = 17 := rfl; omega)
      unfold unexS at rs
      clear hr1 he1 hne hnil
      go_wp2_with fail
      refine region_tail 10 (by kernel_rfl) (by kernel_rfl) ?_
      simp only [List.take_succ_cons, List.take_zero, List.drop_succ_cons, List.drop_zero]
      repeat (go_big_quiet_step (fail))
      refine wpQuiet_nil ?_
      clear rs
      go_wp2_with fail
      have hba : Below w1.heap.size w1 (w1.alloc (.cells #[.int .i64 (pos1 : Int), .string ({ data := #[117, 110, 101, 120, 112, 101, 99, 116, 101, 100, 32, 116, 111, 107, 101, 110, 32] } ++ mkB (headText ts1))] 72)).drew := ((Below.refl _ _).alloc (Nat.le_refl _) _).drew
      refine pe_door (v := .iface x.ptr (.pointer (some ⟨b1, 0, none⟩))) (HB1.out.trans (hba.mono (by omega))) ((hba.block _ (lt_of_heap HC1.out)).trans HC1.out) (PanicP.drew (panic_new (by omega) rfl _ (by omega) (by omega) _ (by rw [ByteArray.size_append]; have e : unexS.size = 17 := rfl; unfold unexS at e; omega))) HR.out (.inr ⟨_, _, rfl⟩) ?_
      intro w' u hu
      simp [results, Tryd.results59, go_sem, hu]
  · have HR := Lib.hid (gParse_none hr1)
    obtain ⟨ps, rfl⟩ := hpan.form
    have HPN := Lib.hid (panic_up hpan (n := w.heap.size + 1) (by have := HSB.out; omega))
    clear hpan hr1
    go_wp2_with fail
    refine pe_door (v := .nilIface) HB1.out HC1.out HPN.out HR.out (.inl rfl) ?_
    intro w' u hu
    simp [results, Tryd.results59, go_sem, hu]
end Go.Proofs.YteemenhinhkonaaDoor
