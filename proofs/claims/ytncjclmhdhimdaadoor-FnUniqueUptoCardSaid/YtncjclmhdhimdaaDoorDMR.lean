/- The main loop of diff.Diff: a round. -/
import Derived.Test.YtncjclmhdhimdaaDoorDMA2
import Derived.Test.YtncjclmhdhimdaaDoorDMB
import Derived.Test.YtncjclmhdhimdaaDoorDMC
import Derived.Test.YtncjclmhdhimdaaDoorDMDD
namespace Go.Proofs.YtncjclmhdhimdaaDoor
open Go.RowKit

/- how long a diff's text may be -/
theorem ops_len {F : Sc (List UInt8)} {X Y : List (List UInt8)} {i j : Nat} (h : Path X Y 0 0 F i j) : F.length ≤ cX F + cY F := by
  have hs := h.signs
  clear h
  induction F with
  | nil => simp
  | cons o F ih =>
    have := ih fun p hp => hs p (List.mem_cons_of_mem _ hp)
    rw [cX_cons, cY_cons, List.length_cons]
    rcases hs o (List.mem_cons_self ..) with h | h | h <;> rw [h] <;> simp <;> omega
theorem cov_sum : ∀ {cs : List (Ck (List UInt8))} {i j : Nat} {F : Sc (List UInt8)}, Cov i j cs F → (cs.map fun c => c.ops.length).sum ≤ F.length ∧ ∀ c ∈ cs, c.x ≤ i + F.length ∧ c.y ≤ j + F.length := by
  intro cs
  induction cs with
  | nil => intro i j F _; exact ⟨Nat.zero_le _, fun c hc => by cases hc⟩
  | cons c cs ih =>
    intro i j F h
    obtain ⟨G, F', _, rfl, hx, hy, h⟩ := h
    obtain ⟨h1, h2⟩ := ih h
    have g1 : cX c.ops ≤ c.ops.length := List.countP_le_length
    have g2 : cY c.ops ≤ c.ops.length := List.countP_le_length
    simp only [List.map_cons, List.sum_cons, List.length_append]
    refine ⟨by omega, fun d hd => ?_⟩
    rcases List.mem_cons.1 hd with rfl | hd
    · omega
    · have := h2 d hd
      omega
theorem text_len : ∀ {cs : List (Ck (List UInt8))}, (∀ c ∈ cs, 0 < c.ops.length ∧ c.x ≤ 100000 ∧ c.y ≤ 100000 ∧ c.ops.length ≤ 100000 ∧ ∀ o ∈ c.ops, o.2.length ≤ 1048605) → (cs.map ckText).flatten.length ≤ (cs.map fun c => c.ops.length).sum * 1048806 := by
  intro cs
  induction cs with
  | nil => intro _; simp
  | cons c cs ih =>
    intro h
    have h1 := ih fun d hd => h d (List.mem_cons_of_mem _ hd)
    obtain ⟨p1, p2, p3, p4, p5⟩ := h c (List.mem_cons_self ..)
    have g1 : cX c.ops ≤ c.ops.length := List.countP_le_length
    have g2 : cY c.ops ≤ c.ops.length := List.countP_le_length
    have h2 := cts_bound c.ops p5
    have a1 : at1 c.x (cX c.ops) ≤ c.x + 1 := by unfold at1; split <;> omega
    have a2 : at1 c.y (cY c.ops) ≤ c.y + 1 := by unfold at1; split <;> omega
    have z1 := itoa_len (k := at1 c.x (cX c.ops)) (by omega)
    have z2 := itoa_len (k := cX c.ops) (by omega)
    have z3 := itoa_len (k := at1 c.y (cY c.ops)) (by omega)
    have z4 := itoa_len (k := cY c.ops) (by omega)
    rw [List.map_cons, List.map_cons, List.flatten_cons, List.length_append, List.sum_cons]
    have : (ckText c).length ≤ 200 + c.ops.length * 1048606 := by
      unfold ckText ckHead
      simp only [List.length_append, List.length_cons, List.length_nil]
      omega
    omega
theorem touched_pos {F : Sc (List UInt8)} (h : touched F) : 0 < F.length := by
  rcases Nat.eq_zero_or_pos F.length with h0 | h0
  · exact absurd (by rw [List.length_eq_zero_iff.1 h0]; exact allK_nil) h.1
  · exact h0
structure Sized (X Y : List (List UInt8)) : Prop where
  hx : X.length ≤ 10000
  hy : Y.length ≤ 10000
  sx : ∀ t ∈ X, t.length ≤ 1048605
  sy : ∀ t ∈ Y, t.length ≤ 1048605
theorem DInv.sizes {X Y : List (List UInt8)} {M : List (Nat × Nat)} {t dx dy cx cy : Nat} {ct : Sc (List UInt8)} {cs : List (Ck (List UInt8))} (h : DInv X Y M t dx dy cx cy ct cs) (hs : Sized X Y) :
    cx ≤ 10000 ∧ cy ≤ 10000 ∧ ct.length ≤ 20000 ∧ (∀ o ∈ ct, o.2.length ≤ 1048605) ∧ (cs.map ckText).flatten.length ≤ 30000000000 := by
  obtain ⟨F0, hp, hcov, h1, h2, _, _⟩ := h.run
  have hl := ops_len hp
  obtain ⟨e1, e2⟩ := hp.ends
  have l1 := h.len.1
  have l2 := h.len.2
  have := hs.hx
  have := hs.hy
  rw [cX_app] at e1
  rw [cY_app] at e2
  rw [cX_app, cY_app, List.length_append] at hl
  have hol : ∀ o ∈ F0 ++ ct, o.2.length ≤ 1048605 := fun o ho => by
    rcases hp.mem o ho with h3 | h3
    · exact hs.sx _ h3
    · exact hs.sy _ h3
  obtain ⟨c1, c2⟩ := cov_sum hcov
  refine ⟨by omega, by omega, by omega, fun o ho => hol o (List.mem_append_right _ ho), ?_⟩
  have key : ∀ (cs : List (Ck (List UInt8))) (c : Ck (List UInt8)), c ∈ cs → c.ops.length ≤ (cs.map fun c => c.ops.length).sum := by
    intro cs
    induction cs with
    | nil => intro c hc; cases hc
    | cons d cs ih =>
      intro c hc
      rw [List.map_cons, List.sum_cons]
      rcases List.mem_cons.1 hc with rfl | hc
      · omega
      · have := ih c hc; omega
  have := text_len (cs := cs) fun c hc => ⟨touched_pos (h.out c hc), by have := (c2 c hc).1; omega, by have := (c2 c hc).2; omega, by have := key cs c hc; omega, fun o ho => hol o (List.mem_append_left _ (hcov.mem c hc o ho))⟩
  omega
end Go.Proofs.YtncjclmhdhimdaaDoor
