/- Lines that stand once in both texts, and the numbers that the package counts them by. No program in sight. -/
import Derived.Test.YtncjclmhdhimdaaDoorDPath
import Derived.Test.YtncjclmhdhimdaaDoorDPile
namespace Go.Proofs.YtncjclmhdhimdaaDoor
variable {α : Type}
/- the places, up to one, of lines that stand once -/
def ix (p : α → Bool) (L : List α) (k : Nat) : List Nat := (List.range k).filter fun j => (L[j]?).any p
theorem ix_succ {p : α → Bool} {L : List α} {k : Nat} {s : α} (h : L[k]? = some s) : ix p L (k + 1) = if p s = true then ix p L k ++ [k] else ix p L k := by
  unfold ix
  rw [List.range_succ, List.filter_append]
  cases hp : p s <;> simp [h, hp]
theorem ix_mem {p : α → Bool} {L : List α} {k j : Nat} : j ∈ ix p L k ↔ j < k ∧ ∃ s, L[j]? = some s ∧ p s = true := by
  unfold ix
  rw [List.mem_filter, List.mem_range]
  constructor
  · rintro ⟨h1, h2⟩
    refine ⟨h1, ?_⟩
    cases h : L[j]? with
    | none => rw [h] at h2; simp at h2
    | some s => rw [h] at h2; exact ⟨s, rfl, by simpa using h2⟩
  · rintro ⟨h1, s, h2, h3⟩
    exact ⟨h1, by rw [h2]; simpa using h3⟩
theorem ix_len (p : α → Bool) (L : List α) (k : Nat) : (ix p L k).length ≤ k := by
  unfold ix
  have := List.length_filter_le (fun j => (L[j]?).any p) (List.range k)
  simpa using this
theorem ix_rise (p : α → Bool) (L : List α) (k : Nat) : ∀ (a b i j : Nat), (ix p L k)[a]? = some i → (ix p L k)[b]? = some j → a < b → i < j := by
  have h : (ix p L k).Pairwise (· < ·) := List.Pairwise.filter _ List.pairwise_lt_range
  intro a b i j ha hb hab
  obtain ⟨h1, rfl⟩ := List.getElem?_eq_some_iff.1 ha
  obtain ⟨h2, rfl⟩ := List.getElem?_eq_some_iff.1 hb
  exact List.pairwise_iff_getElem.1 h a b h1 h2 hab
/- where such a place stands in the list of places -/
theorem ix_at {p : α → Bool} {L : List α} : ∀ {k j : Nat} {s : α}, j < k → L[j]? = some s → p s = true → (ix p L k)[(ix p L j).length]? = some j := by
  intro k
  induction k with
  | zero => intro j s h; omega
  | succ k ih =>
    intro j s hj hs hp
    rcases Nat.lt_or_ge j k with h | h
    · have h1 := ih h hs hp
      have h2 := (List.getElem?_eq_some_iff.1 h1).1
      unfold ix at h1 h2 ⊢
      rw [List.range_succ, List.filter_append, List.getElem?_append_left h2]
      exact h1
    · obtain rfl : j = k := by omega
      rw [ix_succ hs, if_pos hp]
      simp
theorem mem_take_of {Y : List α} {t : α} {j k : Nat} (h : Y[j]? = some t) (hj : j < k) : t ∈ Y.take k := by
  rw [List.mem_iff_getElem?]
  exact ⟨j, by rw [List.getElem?_take, if_pos hj]; exact h⟩
variable [DecidableEq α]
def cnt (L : List α) (t : α) : Nat := L.count t
theorem cnt_mem {L : List α} {t : α} (h : 0 < cnt L t) : t ∈ L := List.count_pos_iff.1 h

def fx (L : List α) (t : α) : Int := -((min 2 (L.count t) : Nat) : Int)
def fxy (X M : List α) (t : α) : Int := fx X t - 4 * ((min 2 (M.count t) : Nat) : Int)
theorem count_snoc (L : List α) (s t : α) : (L ++ [s]).count t = L.count t + if s = t then 1 else 0 := by
  rw [List.count_append, List.count_singleton]
  by_cases h : s = t
  · subst h; simp
  · simp [h]
theorem fx_range (L : List α) (t : α) : -2 ≤ fx L t ∧ fx L t ≤ 0 := by unfold fx; omega
theorem fxy_range (X M : List α) (t : α) : -10 ≤ fxy X M t ∧ fxy X M t ≤ 0 := by have := fx_range X t; unfold fxy; omega
theorem fx_test (L : List α) (t : α) : -2 < fx L t ↔ cnt L t < 2 := by unfold fx cnt; omega
theorem fxy_test (X M : List α) (t : α) : -8 < fxy X M t ↔ cnt M t < 2 := by have := fx_range X t; unfold fxy cnt; omega
theorem fx_put {L : List α} {s : α} (h : cnt L s < 2) (u : α) : (if u = s then fx L s - 1 else fx L u) = fx (L ++ [s]) u := by
  unfold cnt at h
  unfold fx
  rw [count_snoc]
  by_cases hu : u = s
  · subst hu; simp; omega
  · rw [if_neg hu, if_neg (fun h => hu h.symm)]; rfl
theorem fx_skip {L : List α} {s : α} (h : ¬ cnt L s < 2) (u : α) : fx L u = fx (L ++ [s]) u := by
  unfold cnt at h
  unfold fx
  rw [count_snoc]
  by_cases hu : s = u
  · subst hu; simp; omega
  · rw [if_neg hu]; rfl
theorem fxy_put {X M : List α} {s : α} (h : cnt M s < 2) (u : α) : (if u = s then fxy X M s - 4 else fxy X M u) = fxy X (M ++ [s]) u := by
  unfold cnt at h
  unfold fxy
  rw [count_snoc]
  by_cases hu : u = s
  · subst hu; simp; omega
  · rw [if_neg hu, if_neg (fun h => hu h.symm)]; rfl
theorem fxy_skip {X M : List α} {s : α} (h : ¬ cnt M s < 2) (u : α) : fxy X M u = fxy X (M ++ [s]) u := by
  unfold cnt at h
  unfold fxy
  rw [count_snoc]
  by_cases hu : s = u
  · subst hu; simp; omega
  · rw [if_neg hu]; rfl
def uq (X Y : List α) (t : α) : Bool := decide (X.count t = 1 ∧ Y.count t = 1)
theorem uq_iff {X Y : List α} {t : α} : uq X Y t = true ↔ X.count t = 1 ∧ Y.count t = 1 := by unfold uq; simp
theorem fxy_uq (X Y : List α) (t : α) : fxy X Y t = -5 ↔ uq X Y t = true := by
  rw [uq_iff]
  unfold fxy fx
  omega
theorem idx_get {Y : List α} {t : α} (h : t ∈ Y) : Y[Y.idxOf t]? = some t := by
  have := List.idxOf_lt_length_iff.2 h
  rw [List.getElem?_eq_getElem this, List.getElem_idxOf this]
theorem once_idx {Y : List α} {t : α} {j : Nat} (hc : Y.count t = 1) (h : Y[j]? = some t) : Y.idxOf t = j := by
  have key : ∀ (Y : List α) (a b : Nat), a < b → Y[a]? = some t → Y[b]? = some t → 2 ≤ Y.count t := by
    intro Y a b hab ha hb
    obtain ⟨h1, h2⟩ := List.getElem?_eq_some_iff.1 ha
    obtain ⟨h3, h4⟩ := List.getElem?_eq_some_iff.1 hb
    have e : Y = Y.take b ++ Y.drop b := (List.take_append_drop b Y).symm
    rw [e, List.count_append]
    have m1 : t ∈ Y.take b := by
      rw [List.mem_iff_getElem?]
      exact ⟨a, by rw [List.getElem?_take, if_pos hab]; exact ha⟩
    have m2 : t ∈ Y.drop b := by
      rw [List.mem_iff_getElem?]
      exact ⟨0, by rw [List.getElem?_drop]; exact hb⟩
    have := List.count_pos_iff.2 m1
    have := List.count_pos_iff.2 m2
    omega
  have hm : t ∈ Y := List.mem_of_getElem? h
  have hi := idx_get hm
  rcases Nat.lt_trichotomy (Y.idxOf t) j with h1 | h1 | h1
  · have := key Y _ _ h1 hi h; omega
  · exact h1
  · have := key Y _ _ h1 h hi; omega
def posn (X Y : List α) (t : α) : Nat := (ix (uq X Y) Y (Y.idxOf t)).length
/- what the map answers in the third loop -/
def fm (X Y : List α) (k : Nat) (t : α) : Int := if uq X Y t = true ∧ t ∈ Y.take k then ((ix (uq X Y) Y (Y.idxOf t)).length : Int) else fxy X Y t
theorem not_mem_take {Y : List α} {t : α} {k : Nat} (hc : Y.count t = 1) (h : Y[k]? = some t) : t ∉ Y.take k := by
  intro hm
  obtain ⟨j, hj⟩ := List.mem_iff_getElem?.1 hm
  rw [List.getElem?_take] at hj
  split at hj
  · rename_i hlt
    have h1 := once_idx hc hj
    have h2 := once_idx hc h
    omega
  · cases hj
theorem fm_zero (X Y : List α) (t : α) : fm X Y 0 t = fxy X Y t := by unfold fm; simp
theorem fm_test {X Y : List α} {k : Nat} {s : α} (h : Y[k]? = some s) : fm X Y k s = -5 ↔ uq X Y s = true := by
  unfold fm
  by_cases hu : uq X Y s = true
  · rw [if_neg (fun hh => not_mem_take (uq_iff.1 hu).2 h hh.2), fxy_uq]
  · rw [if_neg (fun hh => hu hh.1), fxy_uq]
theorem fm_put {X Y : List α} {k : Nat} {s : α} (h : Y[k]? = some s) (hu : uq X Y s = true) (u : α) : (if u = s then ((ix (uq X Y) Y k).length : Int) else fm X Y k u) = fm X Y (k + 1) u := by
  have hi := once_idx (uq_iff.1 hu).2 h
  by_cases hus : u = s
  · subst hus
    rw [if_pos rfl]
    unfold fm
    rw [if_pos ⟨hu, mem_take_of h (Nat.lt_succ_self _)⟩, hi]
  · rw [if_neg hus]
    unfold fm
    have : u ∈ Y.take (k + 1) ↔ u ∈ Y.take k := by
      rw [List.take_add_one, h]
      simp [hus]
    simp only [this]
theorem fm_skip {X Y : List α} {k : Nat} {s : α} (h : Y[k]? = some s) (hu : ¬ uq X Y s = true) (u : α) : fm X Y k u = fm X Y (k + 1) u := by
  unfold fm
  by_cases hus : u = s
  · subst hus
    rw [if_neg (fun hh => hu hh.1), if_neg (fun hh => hu hh.1)]
  · have : u ∈ Y.take (k + 1) ↔ u ∈ Y.take k := by
      rw [List.take_add_one, h]
      simp [hus]
    simp only [this]
theorem fm_all {X Y : List α} {i : Nat} {s : α} (h : X[i]? = some s) : (uq X Y s = true → fm X Y Y.length s = (posn X Y s : Int) ∧ s ∈ Y) ∧ (¬ uq X Y s = true → fm X Y Y.length s < 0) := by
  constructor
  · intro hu
    have hm : s ∈ Y := by
      have := (uq_iff.1 hu).2
      exact List.count_pos_iff.1 (by omega)
    unfold fm
    rw [if_pos ⟨hu, by rw [List.take_length]; exact hm⟩]
    exact ⟨rfl, hm⟩
  · intro hu
    unfold fm
    rw [if_neg (fun hh => hu hh.1)]
    have : 0 < X.count s := List.count_pos_iff.2 (List.mem_of_getElem? h)
    unfold fxy fx
    omega
def inv (X Y : List α) (k : Nat) : List Nat := (ix (uq X Y) X k).map fun i => match X[i]? with | some s => (ix (uq X Y) Y (Y.idxOf s)).length | none => 0
theorem inv_succ {X Y : List α} {k : Nat} {s : α} (h : X[k]? = some s) : inv X Y (k + 1) = if uq X Y s = true then inv X Y k ++ [posn X Y s] else inv X Y k := by
  unfold inv
  rw [ix_succ h]
  split
  · simp [h, posn]
  · rfl
theorem inv_len (X Y : List α) (k : Nat) : (inv X Y k).length = (ix (uq X Y) X k).length := by simp [inv]
/- a place in the list of x, the number that stands beside it, and the place in y that it leads to -/
theorem inv_at {X Y : List α} {t j : Nat} (h : (inv X Y X.length)[t]? = some j) : ∃ i s, (ix (uq X Y) X X.length)[t]? = some i ∧ X[i]? = some s ∧ uq X Y s = true ∧ j = (ix (uq X Y) Y (Y.idxOf s)).length ∧ (ix (uq X Y) Y Y.length)[j]? = some (Y.idxOf s) ∧ Y[Y.idxOf s]? = some s := by
  unfold inv at h
  rw [List.getElem?_map] at h
  obtain ⟨i, hi, hj⟩ := Option.map_eq_some_iff.1 h
  obtain ⟨_, s, hs, hu⟩ := ix_mem.1 (List.mem_of_getElem? hi)
  rw [hs] at hj
  have hj : (ix (uq X Y) Y (Y.idxOf s)).length = j := hj
  obtain ⟨_, hm⟩ := (fm_all hs).1 hu
  have hy := idx_get hm
  refine ⟨i, s, hi, hs, hu, hj.symm, ?_, hy⟩
  rw [← hj]
  exact ix_at (List.idxOf_lt_length_iff.2 hm) hy hu
theorem sub_len {β : Type} [DecidableEq β] : ∀ {l m : List β}, l.Nodup → (∀ x ∈ l, x ∈ m) → l.length ≤ m.length := by
  intro l
  induction l with
  | nil => intro m _ _; simp
  | cons x l ih =>
    intro m hn hs
    obtain ⟨h1, h2⟩ := List.nodup_cons.1 hn
    have hx := hs x (List.mem_cons_self ..)
    have := ih (m := m.erase x) h2 fun y hy => (List.mem_erase_of_ne (fun (e : y = x) => h1 (e ▸ hy))).2 (hs y (List.mem_cons_of_mem _ hy))
    rw [List.length_erase_of_mem hx] at this
    have : 0 < m.length := List.length_pos_of_mem hx
    simp
    omega
/- as many places in both -/
theorem yi_len (X Y : List α) : (ix (uq X Y) Y Y.length).length ≤ (ix (uq X Y) X X.length).length := by
  have hmap : ((ix (uq X Y) Y Y.length).map fun j => match Y[j]? with | some s => X.idxOf s | none => 0).length ≤ (ix (uq X Y) X X.length).length := by
    apply sub_len
    · rw [List.nodup_iff_pairwise_ne, List.pairwise_map]
      refine List.Pairwise.imp_of_mem ?_ (List.Pairwise.filter _ List.pairwise_lt_range : (ix (uq X Y) Y Y.length).Pairwise (· < ·))
      intro a b ha hb hab he
      obtain ⟨_, s, hs, hu⟩ := ix_mem.1 ha
      obtain ⟨_, t, ht, hv⟩ := ix_mem.1 hb
      rw [hs, ht] at he
      have hsx : s ∈ X := List.count_pos_iff.1 (by have := (uq_iff.1 hu).1; omega)
      have htx : t ∈ X := List.count_pos_iff.1 (by have := (uq_iff.1 hv).1; omega)
      have e1 := idx_get hsx
      have e2 := idx_get htx
      have he : X.idxOf s = X.idxOf t := he
      rw [he, e2] at e1
      injection e1 with e1
      subst e1
      have h1 := once_idx (uq_iff.1 hu).2 hs
      have h2 := once_idx (uq_iff.1 hv).2 ht
      omega
    · intro x hx
      obtain ⟨j, hj, rfl⟩ := List.mem_map.1 hx
      obtain ⟨_, s, hs, hu⟩ := ix_mem.1 hj
      rw [hs]
      have hsx : s ∈ X := List.count_pos_iff.1 (by have := (uq_iff.1 hu).1; omega)
      exact ix_mem.2 ⟨List.idxOf_lt_length_iff.2 hsx, s, idx_get hsx, hu⟩
  simpa using hmap
theorem inv_lt {X Y : List α} {t j : Nat} (h : (inv X Y X.length)[t]? = some j) : j < (ix (uq X Y) X X.length).length := by
  obtain ⟨i, s, _, _, _, _, h2, _⟩ := inv_at h
  have := (List.getElem?_eq_some_iff.1 h2).1
  have := yi_len X Y
  omega
end Go.Proofs.YtncjclmhdhimdaaDoor
