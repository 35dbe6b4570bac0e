/- What hunks do to a text; lines that stand once in both texts; ascending numbers. Plain definitions and lemmas, no program in sight. -/
import Derived.Test.YtncjclmhdhimdaaDoorDText
import Derived.Test.YtncjclmhdhimdaaDoorDTgs
namespace Go.Proofs.YtncjclmhdhimdaaDoor

section
variable {α : Type} {X Y : List α}
def flags (F : Sc α) : List Bool := (F.filter fun o => o.1 != 43).map fun o => o.1 == 32
def outs (F : Sc α) : List α := (F.filter fun o => o.1 != 45).map fun o => o.2
theorem flags_len (F : Sc α) : (flags F).length = cX F := by unfold flags cX; rw [List.length_map, List.countP_eq_length_filter]
theorem flags_app (F G : Sc α) : flags (F ++ G) = flags F ++ flags G := by simp [flags]
theorem outs_app (F G : Sc α) : outs (F ++ G) = outs F ++ outs G := by simp [outs]
theorem outs_len (F : Sc α) : (outs F).length = cY F := by unfold outs cY; rw [List.length_map, List.countP_eq_length_filter]
theorem Path.outs {i j i' j' : Nat} {F : Sc α} (h : Path X Y i j F i' j') : Y.take j ++ outs F = Y.take j' := by
  induction h with
  | nil => simp [Go.Proofs.YtncjclmhdhimdaaDoor.outs]
  | keep hx hy _ ih => rw [← ih, List.take_add_one, hy]; simp [Go.Proofs.YtncjclmhdhimdaaDoor.outs]
  | del hx _ ih => rw [← ih]; simp [Go.Proofs.YtncjclmhdhimdaaDoor.outs]
  | ins hy _ ih => rw [← ih, List.take_add_one, hy]; simp [Go.Proofs.YtncjclmhdhimdaaDoor.outs]
theorem Path.at_ {i j i' j' : Nat} {F : Sc α} (h : Path X Y i j F i' j') {F1 F2 : Sc α} {o : UInt8 × α} (he : F = F1 ++ o :: F2) : (o.1 = 32 ∧ X[i + cX F1]? = some o.2 ∧ Y[j + cY F1]? = some o.2) ∨ (o.1 = 45 ∧ X[i + cX F1]? = some o.2) ∨ (o.1 = 43 ∧ Y[j + cY F1]? = some o.2) := by
  rw [he] at h
  rcases h.split.2.head with ⟨h1, h2, h3, _⟩ | ⟨h1, h2, _⟩ | ⟨h1, h2, _⟩
  · exact .inl ⟨h1, h2, h3⟩
  · exact .inr (.inl ⟨h1, h2⟩)
  · exact .inr (.inr ⟨h1, h2⟩)
theorem kept_flag {F : Sc α} {m : Nat × Nat} (h : kept F m) : (flags F)[m.1]? = some true := by
  obtain ⟨F1, a, F2, rfl, h1, h2⟩ := h
  rw [flags_app, List.getElem?_append_right (by rw [flags_len]; omega), flags_len, h1, Nat.sub_self]
  simp [flags]
theorem flag_kept : ∀ {F : Sc α} {i : Nat}, (flags F)[i]? = some true → ∃ j, kept F (i, j) := by
  intro F
  induction F with
  | nil => intro i h; simp [flags] at h
  | cons o F ih =>
    intro i h
    obtain ⟨s, a⟩ := o
    by_cases hs : s = 43
    · subst hs
      rw [show flags ((43, a) :: F) = flags F by simp [flags]] at h
      obtain ⟨j, F1, b, F2, rfl, h1, h2⟩ := ih h
      exact ⟨j + 1, (43, a) :: F1, b, F2, rfl, by rw [cX_cons]; simp at h1 ⊢; exact h1, by rw [cY_cons]; simp at h2 ⊢; exact h2⟩
    · rw [show flags ((s, a) :: F) = (s == 32) :: flags F by simp [flags, hs]] at h
      cases i with
      | zero =>
        simp at h
        subst h
        exact ⟨0, [], a, F, rfl, rfl, rfl⟩
      | succ i =>
        rw [List.getElem?_cons_succ] at h
        obtain ⟨j, F1, b, F2, rfl, h1, h2⟩ := ih h
        refine ⟨j + if s = 45 then 0 else 1, (s, a) :: F1, b, F2, rfl, by rw [cX_cons]; simp [hs] at h1 ⊢; exact h1, by rw [cY_cons]; simp at h2 ⊢; exact h2⟩
theorem kept_rise {F : Sc α} {m n : Nat × Nat} (h1 : kept F m) (h2 : kept F n) (h : m.1 < n.1) : m.2 < n.2 := by
  obtain ⟨F1, a, F2, e1, p1, p2⟩ := h1
  obtain ⟨G1, b, G2, e2, q1, q2⟩ := h2
  have hp : F1 ++ [(32, a)] <+: F := ⟨F2, by rw [e1]; simp⟩
  have hq : G1 <+: F := ⟨(32, b) :: G2, by rw [e2]⟩
  rcases Nat.lt_or_ge G1.length (F1.length + 1) with hl | hl
  · have hr : F1 <+: F := ⟨(32, a) :: F2, by rw [e1]⟩
    obtain ⟨R, hR⟩ := List.prefix_of_prefix_length_le hq hr (by omega)
    rw [← hR, cX_app] at p1
    omega
  · obtain ⟨R, hR⟩ := List.prefix_of_prefix_length_le hp hq (by simp; omega)
    rw [← hR, cY_app, cY_app] at q2
    have : cY [((32 : UInt8), a)] = 1 := by rw [cY_cons, cY_nil]; simp
    omega
theorem kept_path {F : Sc α} {m : Nat × Nat} {i' j' : Nat} (hp : Path X Y 0 0 F i' j') (h : kept F m) : ∃ a, X[m.1]? = some a ∧ Y[m.2]? = some a := by
  obtain ⟨F1, a, F2, e1, p1, p2⟩ := h
  rcases hp.at_ e1 with ⟨_, h2, h3⟩ | ⟨h1, _⟩ | ⟨h1, _⟩
  · rw [Nat.zero_add, p1] at h2
    rw [Nat.zero_add, p2] at h3
    exact ⟨a, h2, h3⟩
  · exact absurd (show (32 : UInt8) = 45 from h1) (by decide)
  · exact absurd (show (32 : UInt8) = 43 from h1) (by decide)

/- a script the other way round -/
def swO (o : UInt8 × α) : UInt8 × α := (if o.1 = 45 then 43 else if o.1 = 43 then 45 else o.1, o.2)
def swS (F : Sc α) : Sc α := F.map swO
def swC (c : Ck α) : Ck α := ⟨c.y, c.x, swS c.ops⟩
theorem swO_swO (o : UInt8 × α) : swO (swO o) = o := by
  obtain ⟨s, a⟩ := o
  unfold swO
  by_cases h1 : s = 45
  · subst h1; simp
  · by_cases h2 : s = 43
    · subst h2; simp
    · simp [h1, h2]
theorem swS_app (F G : Sc α) : swS (F ++ G) = swS F ++ swS G := by simp [swS]
theorem swS_swS (F : Sc α) : swS (swS F) = F := by
  unfold swS
  rw [List.map_map]
  conv => rhs; rw [← List.map_id F]
  exact List.map_congr_left fun o _ => swO_swO o
theorem swC_swC (c : Ck α) : swC (swC c) = c := by
  obtain ⟨x, y, ops⟩ := c
  simp [swC, swS_swS]
theorem cX_sw (F : Sc α) : cX (swS F) = cY F := by
  unfold cX cY swS
  rw [List.countP_map]
  congr 1
  funext o
  obtain ⟨s, a⟩ := o
  simp only [Function.comp, swO]
  by_cases h1 : s = 45
  · subst h1; decide
  · by_cases h2 : s = 43
    · subst h2; decide
    · rw [if_neg h1, if_neg h2, bne_iff_ne.2 h1, bne_iff_ne.2 h2]
theorem cY_sw (F : Sc α) : cY (swS F) = cX F := by
  have := cX_sw (swS F)
  rw [swS_swS] at this
  exact this.symm
theorem allK_sw {F : Sc α} : allK (swS F) ↔ allK F := by
  have key : ∀ F : Sc α, allK F → allK (swS F) := by
    intro F h o ho
    obtain ⟨p, hp, rfl⟩ := List.mem_map.1 ho
    have := h p hp
    unfold swO
    rw [this]
    rfl
  exact ⟨fun h => by have := key _ h; rwa [swS_swS] at this, key F⟩
theorem swO_32 (o : UInt8 × α) : ((swO o).1 == 32) = (o.1 == 32) := by
  obtain ⟨s, a⟩ := o
  unfold swO
  by_cases h1 : s = 45
  · subst h1; rfl
  · by_cases h2 : s = 43
    · subst h2; rfl
    · simp [h1, h2]
theorem hdK_sw (F : Sc α) : hdK (swS F) = hdK F := by
  unfold hdK swS
  rw [List.takeWhile_map, List.length_map]
  congr 2
  funext o
  exact swO_32 o
theorem tlK_sw (F : Sc α) : tlK (swS F) = tlK F := by
  unfold tlK
  rw [show (swS F).reverse = swS F.reverse by simp [swS], hdK_sw]
theorem Path.sw {i j i' j' : Nat} {F : Sc α} (h : Path X Y i j F i' j') : Path Y X j i (swS F) j' i' := by
  induction h with
  | nil => exact .nil _ _
  | keep hx hy _ ih => exact .keep hy hx ih
  | del hx _ ih => exact .ins hx ih
  | ins hy _ ih => exact .del hy ih
theorem Cov.sw : ∀ {cs : List (Ck α)} {i j : Nat} {F : Sc α}, Cov i j cs F → Cov j i (cs.map swC) (swS F) := by
  intro cs
  induction cs with
  | nil => intro i j F h; exact allK_sw.2 h
  | cons c cs ih =>
    intro i j F h
    obtain ⟨G, F', hG, rfl, hx, hy, h⟩ := h
    refine ⟨swS G, swS F', allK_sw.2 hG, by rw [swS_app, swS_app]; rfl, by simp [swC, swS]; exact hy, by simp [swC, swS]; exact hx, ?_⟩
    have := ih h
    simp only [swC]
    rw [cX_sw, cY_sw]
    exact this
theorem kept.sw {F : Sc α} {m : Nat × Nat} (h : kept F m) : kept (swS F) (m.2, m.1) := by
  obtain ⟨F1, a, F2, rfl, h1, h2⟩ := h
  refine ⟨swS F1, a, swS F2, by rw [swS_app]; rfl, by rw [cX_sw]; exact h2, by rw [cY_sw]; exact h1⟩
theorem Once.sw {m : Nat × Nat} (h : Once X Y m) : Once Y X (m.2, m.1) := by
  obtain ⟨a, h1, h2, h3, h4⟩ := h
  exact ⟨a, h2, h1, h4, h3⟩
/- what is used of a diff: its script, its hunks, and that of the lines that stand once as many are kept as can be -/
structure DGood (X Y : List α) (cs : List (Ck α)) (F : Sc α) : Prop where
  path : Path X Y 0 0 F X.length Y.length
  cov : Cov 0 0 cs F
  best : ∃ (K : Nat) (R : List (Nat × Nat)) (lab : Nat × Nat → Nat), R.length = K ∧ (∀ m ∈ R, Once X Y m ∧ kept F m) ∧ (∀ (s t : Nat) (m n : Nat × Nat), R[s]? = some m → R[t]? = some n → s < t → m.1 < n.1) ∧
    (∀ m, Once X Y m → 1 ≤ lab m ∧ lab m ≤ K) ∧ ∀ m n, Once X Y m → Once X Y n → m.1 < n.1 → m.2 < n.2 → lab m < lab n
theorem DGood.sw {cs : List (Ck α)} {F : Sc α} (h : DGood X Y cs F) : DGood Y X (cs.map swC) (swS F) := by
  obtain ⟨K, R, lab, h1, h2, h3, h4, h5⟩ := h.best
  refine ⟨h.path.sw, h.cov.sw, K, R.map fun m => (m.2, m.1), fun m => lab (m.2, m.1), by rw [List.length_map]; exact h1, ?_, ?_, fun m hm => h4 _ hm.sw, fun m n hm hn l1 l2 => h5 _ _ hm.sw hn.sw l2 l1⟩
  · intro m hm
    obtain ⟨n, hn, rfl⟩ := List.mem_map.1 hm
    exact ⟨(h2 n hn).1.sw, (h2 n hn).2.sw⟩
  · intro s t m n hs ht hst
    rw [List.getElem?_map] at hs ht
    obtain ⟨m', hm, rfl⟩ := Option.map_eq_some_iff.1 hs
    obtain ⟨n', hn, rfl⟩ := Option.map_eq_some_iff.1 ht
    exact kept_rise (h2 m' (List.mem_of_getElem? hm)).2 (h2 n' (List.mem_of_getElem? hn)).2 (h3 s t m' n' hm hn hst)
end

/- of a list of numbers: how long an ascending part may be that ends at each place -/
def BestAt (L : List Int) (B : List Nat) (i k c : Nat) : Prop := 1 ≤ c ∧ (∀ (q : Nat) (m : Int), q < k → L[q]? = some m → 0 ≤ m → m < L.getD i 0 → B.getD q 0 + 1 ≤ c) ∧ (c = 1 ∨ ∃ (q : Nat) (m : Int), q < k ∧ L[q]? = some m ∧ 0 ≤ m ∧ m < L.getD i 0 ∧ c = B.getD q 0 + 1)
def BestTo (L : List Int) (B : List Nat) (i : Nat) : Prop := ∀ (q : Nat) (m : Int), q < i → L[q]? = some m → 0 ≤ m → BestAt L B q q (B.getD q 0)
def MostTo (L : List Int) (B : List Nat) (i most : Nat) : Prop := (∀ (q : Nat) (m : Int), q < i → L[q]? = some m → 0 ≤ m → B.getD q 0 ≤ most) ∧ (most = 0 ∨ ∃ (q : Nat) (m : Int), q < i ∧ L[q]? = some m ∧ 0 ≤ m ∧ B.getD q 0 = most)
def Long (L : List Int) (r : Nat) : Prop := ∃ B, BestTo L B L.length ∧ MostTo L B L.length r
theorem long_le {L : List Int} {r K : Nat} (h : Long L r) (lab : Nat → Nat) (h1 : ∀ (q : Nat) (m : Int), L[q]? = some m → 0 ≤ m → 1 ≤ lab q ∧ lab q ≤ K) (h2 : ∀ (p q : Nat) (m n : Int), L[p]? = some m → L[q]? = some n → 0 ≤ m → p < q → m < n → lab p < lab q) : r ≤ K := by
  obtain ⟨B, hB, hM⟩ := h
  have key : ∀ (q : Nat) (m : Int), L[q]? = some m → 0 ≤ m → B.getD q 0 ≤ lab q := by
    intro q
    induction q using Nat.strongRecOn with
    | _ q ih =>
      intro m hm h0
      have hq := (List.getElem?_eq_some_iff.1 hm).1
      obtain ⟨_, _, hc⟩ := hB q m hq hm h0
      rcases hc with hc | ⟨p, n, hp, hn, hn0, hlt, hc⟩
      · have := (h1 q m hm h0).1; omega
      · have := ih p hp n hn hn0
        have := h2 p q n m hn hm hn0 hp (by rw [List.getD_eq_getElem?_getD, hm] at hlt; exact hlt)
        omega
  rcases hM.2 with h0 | ⟨q, m, _, hm, h0, he⟩
  · omega
  · have := key q m hm h0
    have := (h1 q m hm h0).2
    omega
/- how many places are chosen ahead of one -/
def chosen (L : List Int) (fl : List Bool) (i : Nat) : Nat := (List.range i).countP fun k => decide (∃ m, L[k]? = some m ∧ 0 ≤ m) && (fl[k]? == some true)
theorem chosen_succ (L : List Int) (fl : List Bool) (i : Nat) : chosen L fl (i + 1) = chosen L fl i + if (∃ m, L[i]? = some m ∧ 0 ≤ m) ∧ fl[i]? = some true then 1 else 0 := by
  unfold chosen
  rw [List.range_succ, List.countP_append, List.countP_cons, List.countP_nil]
  by_cases h1 : ∃ m, L[i]? = some m ∧ 0 ≤ m <;> by_cases h2 : fl[i]? = some true <;> simp [h1, h2]
theorem long_ge {L : List Int} {fl : List Bool} {r : Nat} (h : Long L r) (hf : ∀ (p q : Nat) (m n : Int), p < q → L[p]? = some m → L[q]? = some n → 0 ≤ m → 0 ≤ n → fl[p]? = some true → fl[q]? = some true → m < n) : chosen L fl L.length ≤ r := by
  obtain ⟨B, hB, hM⟩ := h
  have key : ∀ (i : Nat), i ≤ L.length → chosen L fl i = 0 ∨ ∃ (q : Nat) (m : Int), q < i ∧ L[q]? = some m ∧ 0 ≤ m ∧ fl[q]? = some true ∧ chosen L fl i ≤ B.getD q 0 := by
    intro i
    induction i with
    | zero => intro _; exact .inl rfl
    | succ i ih =>
      intro hi
      rw [chosen_succ]
      by_cases hc : (∃ m, L[i]? = some m ∧ 0 ≤ m) ∧ fl[i]? = some true
      · right
        rw [if_pos hc]
        obtain ⟨⟨m, hm, h0⟩, hfl⟩ := hc
        obtain ⟨b1, b2, _⟩ := hB i m (by omega) hm h0
        refine ⟨i, m, Nat.lt_succ_self _, hm, h0, hfl, ?_⟩
        rcases ih (by omega) with h1 | ⟨q, n, hq, hn, hn0, hfq, hle⟩
        · omega
        · have := b2 q n hq hn hn0 (by rw [List.getD_eq_getElem?_getD, hm]; exact hf q i n m hq hn hm hn0 h0 hfq hfl)
          omega
      · rw [if_neg hc]
        rcases ih (by omega) with h1 | ⟨q, n, hq, hn, hn0, hfq, hle⟩
        · exact .inl h1
        · exact .inr ⟨q, n, by omega, hn, hn0, hfq, hle⟩
  rcases key L.length (Nat.le_refl _) with h1 | ⟨q, m, hq, hm, h0, _, hle⟩
  · omega
  · have := hM.1 q m hq hm h0
    omega
theorem snoc_rec {β : Type} {P : List β → Prop} (h0 : P []) (h1 : ∀ l c, P l → P (l ++ [c])) (l : List β) : P l := by
  have key : ∀ m : List β, P m.reverse := by
    intro m
    induction m with
    | nil => exact h0
    | cons c m ih => rw [List.reverse_cons]; exact h1 _ _ ih
  have := key l.reverse
  rwa [List.reverse_reverse] at this
theorem count_ge {p : Nat → Bool} : ∀ (R : List Nat) (n : Nat), (∀ x ∈ R, x < n ∧ p x = true) → (∀ (s t x y : Nat), R[s]? = some x → R[t]? = some y → s < t → x < y) → R.length ≤ (List.range n).countP p := by
  intro R
  induction R using snoc_rec with
  | h0 => intro n _ _; simp
  | h1 R x ih =>
    intro n h hr
    obtain ⟨hx, hpx⟩ := h x (by simp)
    have hlt : ∀ y ∈ R, y < x := by
      intro y hy
      obtain ⟨s, hs⟩ := List.mem_iff_getElem?.1 hy
      have hsl := (List.getElem?_eq_some_iff.1 hs).1
      exact hr s R.length y x (by rw [List.getElem?_append_left hsl]; exact hs) (by simp) hsl
    have h1 := ih x (fun y hy => ⟨hlt y hy, (h y (List.mem_append_left _ hy)).2⟩) fun s t a b hs ht hst => by
      have l1 := (List.getElem?_eq_some_iff.1 hs).1
      have l2 := (List.getElem?_eq_some_iff.1 ht).1
      exact hr s t a b (by rw [List.getElem?_append_left l1]; exact hs) (by rw [List.getElem?_append_left l2]; exact ht) hst
    have h2 : (List.range (x + 1)).countP p = (List.range x).countP p + 1 := by
      rw [List.range_succ, List.countP_append, List.countP_cons, List.countP_nil, hpx]; rfl
    have h3 : (List.range (x + 1)).countP p ≤ (List.range n).countP p := (List.range_sublist.2 (by omega)).countP_le
    rw [List.length_append]
    simp only [List.length_cons, List.length_nil]
    omega

/- the places of the lines that stand once in both -/
section
variable {α : Type} [DecidableEq α] {X Y : List α}
def places (X Y : List α) : List Int := X.map fun l => if X.count l = 1 ∧ Y.count l = 1 then (Y.idxOf l : Int) else -1
theorem places_get {i : Nat} {m : Int} (h : (places X Y)[i]? = some m) (h0 : 0 ≤ m) : Once X Y (i, m.toNat) ∧ (m.toNat : Int) = m := by
  unfold places at h
  rw [List.getElem?_map] at h
  obtain ⟨l, hl, he⟩ := Option.map_eq_some_iff.1 h
  split at he
  · rename_i hc
    subst he
    have hy : Y[Y.idxOf l]? = some l := idx_get (List.count_pos_iff.1 (by omega))
    refine ⟨⟨l, hl, by simpa using hy, fun k hk => ?_, fun k hk => ?_⟩, by simp⟩
    · have h1 := once_idx hc.1 hk
      have h2 := once_idx hc.1 hl
      simp only
      omega
    · have h1 := once_idx hc.2 hk
      simp
      omega
  · omega
theorem once_count : ∀ {X : List α} {i : Nat} {a : α}, X[i]? = some a → (∀ k, X[k]? = some a → k = i) → X.count a = 1 := by
  intro X
  induction X with
  | nil => intro i a h; simp at h
  | cons x X ih =>
    intro i a h hu
    cases i with
    | zero =>
      simp at h
      subst h
      rw [List.count_cons_self]
      have : X.count x = 0 := List.count_eq_zero.2 fun hm => by
        obtain ⟨k, hk⟩ := List.mem_iff_getElem?.1 hm
        have := hu (k + 1) (by rw [List.getElem?_cons_succ]; exact hk)
        omega
      omega
    | succ i =>
      rw [List.getElem?_cons_succ] at h
      have hne : x ≠ a := fun he => by have := hu 0 (by rw [he]; rfl); omega
      rw [List.count_cons_of_ne hne]
      exact ih h fun k hk => by have := hu (k + 1) (by rw [List.getElem?_cons_succ]; exact hk); omega
theorem places_once {m : Nat × Nat} (h : Once X Y m) : (places X Y)[m.1]? = some (m.2 : Int) := by
  obtain ⟨a, h1, h2, h3, h4⟩ := h
  unfold places
  have c2 := once_count h2 h4
  rw [List.getElem?_map, h1, Option.map_some, if_pos ⟨once_count h1 h3, c2⟩, once_idx c2 h2]
/- of the lines that stand once in both as many stay as can -/
theorem DGood.most {cs : List (Ck α)} {F : Sc α} (h : DGood X Y cs F) {r : Nat} (hr : Long (places X Y) r) : chosen (places X Y) (flags F) (places X Y).length = r := by
  obtain ⟨K, R, lab, h1, h2, h3, h4, h5⟩ := h.best
  have pl : (places X Y).length = X.length := by simp [places]
  have up : r ≤ K := long_le hr (fun q => lab (q, ((places X Y).getD q 0).toNat)) (fun q m hm h0 => by
      have := (places_get hm h0).1
      rw [List.getD_eq_getElem?_getD, hm]
      exact h4 _ this) fun p q m n hm hn h0 hpq hmn => by
      have a1 := places_get hm h0
      have a2 := places_get hn (by omega)
      rw [List.getD_eq_getElem?_getD, List.getD_eq_getElem?_getD, hm, hn]
      exact h5 _ _ a1.1 a2.1 hpq (by simp only [Option.getD_some]; omega)
  have dn : chosen (places X Y) (flags F) (places X Y).length ≤ r := long_ge hr fun p q m n hpq hm hn h0 h0' hp hq => by
    obtain ⟨o1, e1⟩ := places_get hm h0
    obtain ⟨o2, e2⟩ := places_get hn h0'
    obtain ⟨j1, k1⟩ := flag_kept hp
    obtain ⟨j2, k2⟩ := flag_kept hq
    have := kept_rise k1 k2 hpq
    have x1 : j1 = m.toNat := by
      obtain ⟨a, g1, g2⟩ := kept_path h.path k1
      obtain ⟨b, g3, _, _, g4⟩ := o1
      simp only at g1 g2 g3 g4
      rw [g1] at g3
      injection g3 with g3
      subst g3
      exact g4 _ g2
    have x2 : j2 = n.toNat := by
      obtain ⟨a, g1, g2⟩ := kept_path h.path k2
      obtain ⟨b, g3, _, _, g4⟩ := o2
      simp only at g1 g2 g3 g4
      rw [g1] at g3
      injection g3 with g3
      subst g3
      exact g4 _ g2
    simp only at this
    omega
  have lo : K ≤ chosen (places X Y) (flags F) (places X Y).length := by
    have := count_ge (p := fun k => decide (∃ m, (places X Y)[k]? = some m ∧ 0 ≤ m) && ((flags F)[k]? == some true)) (R.map fun m => m.1) (places X Y).length (fun x hx => by
      obtain ⟨m, hm, rfl⟩ := List.mem_map.1 hx
      obtain ⟨g1, g2⟩ := h2 m hm
      have g3 := places_once g1
      have g4 := kept_flag g2
      refine ⟨(List.getElem?_eq_some_iff.1 g3).1, ?_⟩
      rw [g4]
      simp [g3]) fun s t x y hs ht hst => by
      rw [List.getElem?_map] at hs ht
      obtain ⟨m, hm, rfl⟩ := Option.map_eq_some_iff.1 hs
      obtain ⟨n, hn, rfl⟩ := Option.map_eq_some_iff.1 ht
      exact h3 s t m n hm hn hst
    rw [List.length_map, h1] at this
    exact this
  omega
end
end Go.Proofs.YtncjclmhdhimdaaDoor
