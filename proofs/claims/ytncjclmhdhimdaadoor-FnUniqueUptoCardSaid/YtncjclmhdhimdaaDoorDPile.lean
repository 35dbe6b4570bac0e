/- Piles: the longest rising chain of a list of numbers, by the last number of each pile. No program in sight. -/
import Derived.Lib.Hide
namespace Go.Proofs.YtncjclmhdhimdaaDoor

/- behind i numbers: T the last number of each of q piles, L the pile of each number -/
structure PInv (J : List Nat) (n i : Nat) (T L : List Nat) (q : Nat) : Prop where
  tl : T.length = n
  ll : L.length = n
  qi : q ≤ i
  big : ∀ k v, q ≤ k → T[k]? = some v → v = n + 1
  small : ∀ k, k < q → ∃ t j, t < i ∧ T[k]? = some j ∧ J[t]? = some j ∧ L[t]? = some (k + 1) ∧ ∀ s, t < s → s < i → L[s]? ≠ some (k + 1)
  inc : ∀ a b u v, a < b → b < q → T[a]? = some u → T[b]? = some v → u < v
  lab : ∀ t, t < i → ∃ c, L[t]? = some (c + 1) ∧ c < q ∧ ∀ j u, J[t]? = some j → T[c]? = some u → u ≤ j
  chain : ∀ t c j, t < i → L[t]? = some (c + 2) → J[t]? = some j → ∃ s b, s < t ∧ L[s]? = some (c + 1) ∧ J[s]? = some b ∧ b < j ∧ ∀ r, s < r → r < t → L[r]? ≠ some (c + 1)
  opt : ∀ s t a b c d, s < t → t < i → J[s]? = some a → J[t]? = some b → a < b → L[s]? = some c → L[t]? = some d → c < d
theorem PInv.init (J : List Nat) (n : Nat) : PInv J n 0 (List.replicate n (n + 1)) (List.replicate n 0) 0 where
  tl := by simp
  ll := by simp
  qi := Nat.le_refl _
  big := fun k v _ h => by rw [List.getElem?_replicate] at h; split at h <;> simp_all
  small := fun k h => by omega
  inc := fun a b u v _ h => by omega
  lab := fun t h => by omega
  chain := fun t c j h => by omega
  opt := fun s t a b c d _ h => by omega
theorem PInv.rises {J : List Nat} {n i q : Nat} {T L : List Nat} (h : PInv J n i T L q) (hJ : ∀ (t j : Nat), J[t]? = some j → j < n) : ∀ (a b u v : Nat), a ≤ b → T[a]? = some u → T[b]? = some v → u ≤ v := by
  intro a b u v hab hu hv
  rcases Nat.lt_or_ge b q with hb | hb
  · rcases Nat.lt_or_ge a b with h1 | h1
    · exact Nat.le_of_lt (h.inc a b u v h1 hb hu hv)
    · obtain rfl : a = b := by omega
      rw [hu] at hv
      injection hv with hv
      omega
  · have hvb := h.big b v hb hv
    rcases Nat.lt_or_ge a q with ha | ha
    · obtain ⟨t, j, _, h2, h3, _⟩ := h.small a ha
      rw [hu] at h2
      injection h2 with h2
      have := hJ t j h3
      omega
    · have := h.big a u ha hu
      omega
theorem PInv.step {J : List Nat} {n i q k j : Nat} {T L : List Nat} (h : PInv J n i T L q) (hJ : ∀ (t j : Nat), J[t]? = some j → j < n) (hi : i < n) (hj : J[i]? = some j) (hlo : ∀ (a u : Nat), a < k → T[a]? = some u → u < j) (hhi : ∀ (a u : Nat), k ≤ a → T[a]? = some u → j ≤ u) (hk : k ≤ n) :
    k < n ∧ PInv J n (i + 1) (T.set k j) (L.set i (k + 1)) (max q (k + 1)) := by
  have hq := h.qi
  have htl := h.tl
  have hll := h.ll
  have hjn := hJ i j hj
  have hkq : k ≤ q := by
    rcases Nat.lt_or_ge q k with h1 | h1
    · obtain ⟨v, hv⟩ : ∃ v, T[q]? = some v := ⟨_, List.getElem?_eq_getElem (by omega)⟩
      have h2 := h.big q v (Nat.le_refl _) hv
      have h3 := hlo q v h1 hv
      omega
    · exact h1
  have hkn : k < n := by omega
  have hT : ∀ a, (T.set k j)[a]? = if a = k then some j else T[a]? := fun a => by
    rw [List.getElem?_set]
    by_cases hak : k = a
    · subst hak; simp [htl, hkn]
    · rw [if_neg hak, if_neg (fun h => hak h.symm)]
  have hL : ∀ t, (L.set i (k + 1))[t]? = if t = i then some (k + 1) else L[t]? := fun t => by
    rw [List.getElem?_set]
    by_cases hti : i = t
    · subst hti; simp [hll, hi]
    · rw [if_neg hti, if_neg (fun h => hti h.symm)]
  refine ⟨hkn, { tl := by simp [htl], ll := by simp [hll], qi := by omega, big := ?_, small := ?_, inc := ?_, lab := ?_, chain := ?_, opt := ?_ }⟩
  · intro a v ha hv
    rw [hT, if_neg (by omega)] at hv
    exact h.big a v (by omega) hv
  · intro a ha
    by_cases hak : a = k
    · subst hak
      exact ⟨i, j, by omega, by rw [hT, if_pos rfl], hj, by rw [hL, if_pos rfl], fun s h1 h2 => by omega⟩
    · obtain ⟨t, b, h1, h2, h3, h4, h5⟩ := h.small a (by omega)
      refine ⟨t, b, by omega, by rw [hT, if_neg hak, h2], h3, by rw [hL, if_neg (by omega), h4], fun s hs1 hs2 => ?_⟩
      rw [hL]
      by_cases hsi : s = i
      · rw [if_pos hsi]
        intro he
        injection he with he
        omega
      · rw [if_neg hsi]
        exact h5 s hs1 (by omega)
  · intro a b u v hab hb hu hv
    rw [hT] at hu hv
    by_cases hbk : b = k
    · subst hbk
      rw [if_pos rfl] at hv
      rw [if_neg (by omega)] at hu
      injection hv with hv
      have := hlo a u hab hu
      omega
    · rw [if_neg hbk] at hv
      by_cases hak : a = k
      · subst hak
        rw [if_pos rfl] at hu
        injection hu with hu
        obtain ⟨z, hz⟩ : ∃ z, T[a]? = some z := ⟨_, List.getElem?_eq_getElem (by omega)⟩
        have h1 := hhi a z (Nat.le_refl _) hz
        have h2 := h.inc a b z v hab (by omega) hz hv
        omega
      · rw [if_neg hak] at hu
        exact h.inc a b u v hab (by omega) hu hv
  · intro t ht
    by_cases hti : t = i
    · subst hti
      refine ⟨k, by rw [hL, if_pos rfl], by omega, fun b u h1 h2 => ?_⟩
      rw [hT, if_pos rfl] at h2
      rw [hj] at h1
      injection h1 with h1
      injection h2 with h2
      omega
    · obtain ⟨c, h1, h2, h3⟩ := h.lab t (by omega)
      refine ⟨c, by rw [hL, if_neg hti, h1], by omega, fun b u hb hu => ?_⟩
      rw [hT] at hu
      by_cases hck : c = k
      · subst hck
        rw [if_pos rfl] at hu
        injection hu with hu
        obtain ⟨z, hz⟩ : ∃ z, T[c]? = some z := ⟨_, List.getElem?_eq_getElem (by omega)⟩
        have h4 := h3 b z hb hz
        have h5 := hhi c z (Nat.le_refl _) hz
        omega
      · rw [if_neg hck] at hu
        exact h3 b u hb hu
  · intro t c b ht hc hb
    rw [hL] at hc
    by_cases hti : t = i
    · subst hti
      rw [if_pos rfl] at hc
      injection hc with hc
      rw [hj] at hb
      injection hb with hb
      obtain ⟨s, z, h1, h2, h3, h4, h5⟩ := h.small c (by omega)
      have h6 := hlo c z (by omega) h2
      exact ⟨s, z, h1, by rw [hL, if_neg (by omega), h4], h3, by omega, fun r hr1 hr2 => by rw [hL, if_neg (by omega)]; exact h5 r hr1 hr2⟩
    · rw [if_neg hti] at hc
      obtain ⟨s, z, h1, h2, h3, h4, h5⟩ := h.chain t c b (by omega) hc hb
      exact ⟨s, z, h1, by rw [hL, if_neg (by omega), h2], h3, h4, fun r hr1 hr2 => by rw [hL, if_neg (by omega)]; exact h5 r hr1 hr2⟩
  · intro s t a b c d hst ht ha hb hab hc hd
    rw [hL] at hc hd
    rw [if_neg (by omega)] at hc
    by_cases hti : t = i
    · subst hti
      rw [if_pos rfl] at hd
      injection hd with hd
      rw [hj] at hb
      injection hb with hb
      obtain ⟨e, h1, h2, h3⟩ := h.lab s (by omega)
      rw [h1] at hc
      injection hc with hc
      obtain ⟨z, hz⟩ : ∃ z, T[e]? = some z := ⟨_, List.getElem?_eq_getElem (by omega)⟩
      have h4 := h3 a z ha hz
      rcases Nat.lt_or_ge e k with h5 | h5
      · omega
      · have := hhi e z h5 hz
        omega
    · rw [if_neg hti] at hd
      exact h.opt s t a b c d hst (by omega) ha hb hab hc hd
/- how many places are still false, where what is true stays true -/
theorem countP_rise (p : Nat → Bool) : ∀ (n : Nat), (∀ a b, a ≤ b → b < n → p a = true → p b = true) → (List.range n).countP (fun i => !p i) ≤ n ∧ (∀ a, a < (List.range n).countP (fun i => !p i) → p a = false) ∧ ∀ a, (List.range n).countP (fun i => !p i) ≤ a → a < n → p a = true := by
  intro n
  induction n with
  | zero => intro _; exact ⟨by simp, fun a h => by simp at h, fun a _ h => by omega⟩
  | succ n ih =>
    intro hm
    obtain ⟨h1, h2, h3⟩ := ih fun a b hab hb => hm a b hab (by omega)
    rw [List.range_succ, List.countP_append]
    cases hp : p n with
    | true =>
      have e : (List.countP (fun i => !p i) [n]) = 0 := by simp [hp]
      rw [e, Nat.add_zero]
      refine ⟨by omega, h2, fun a ha han => ?_⟩
      rcases Nat.lt_or_ge a n with h4 | h4
      · exact h3 a ha h4
      · obtain rfl : a = n := by omega
        exact hp
    | false =>
      have e : (List.countP (fun i => !p i) [n]) = 1 := by simp [hp]
      rw [e]
      have hall : ∀ a, a < n → p a = false := fun a ha => by
        cases hpa : p a with
        | false => rfl
        | true => rw [hm a n (by omega) (by omega) hpa] at hp; cases hp
      have hc : (List.range n).countP (fun i => !p i) = n := by
        rcases Nat.lt_or_ge ((List.range n).countP fun i => !p i) n with h4 | h4
        · have := h3 _ (Nat.le_refl _) h4
          rw [hall _ h4] at this
          cases this
        · omega
      rw [hc]
      refine ⟨by omega, fun a ha => ?_, fun a h4 h5 => by omega⟩
      rcases Nat.lt_or_ge a n with h4 | h4
      · exact hall a h4
      · obtain rfl : a = n := by omega
        exact hp

/- the chain is read back: behind all numbers from i on, k more are wanted, ch is what was taken -/
structure BInv (J L : List Nat) (n K i k : Nat) (ch : List Nat) : Prop where
  len : k + ch.length = K
  lab : ∀ c t, ch[c]? = some t → t < n ∧ i ≤ t ∧ L[t]? = some (k + c + 1)
  inc : ∀ c s t, ch[c]? = some s → ch[c + 1]? = some t → s < t ∧ ∀ a b, J[s]? = some a → J[t]? = some b → a < b
  top : ch = [] → ∀ t, i ≤ t → t < n → L[t]? ≠ some K
  gap : ∀ t, ch[0]? = some t → ∀ s, i ≤ s → s < t → L[s]? ≠ some k
theorem BInv.init (J L : List Nat) (n K : Nat) : BInv J L n K n K [] where
  len := by simp
  lab := fun c t h => by simp at h
  inc := fun c s t h => by simp at h
  top := fun _ t h1 h2 => by omega
  gap := fun t h => by simp at h
theorem BInv.take {J L T : List Nat} {n K i k q : Nat} {ch : List Nat} (hP : PInv J n n T L q) (h : BInv J L n K (i + 1) (k + 1) ch) (hi : i < n) (hL : L[i]? = some (k + 1)) : BInv J L n K i k (i :: ch) where
  len := by have := h.len; simp; omega
  lab := fun c t hc => by
    cases c with
    | zero => simp at hc; subst hc; exact ⟨hi, Nat.le_refl _, by rw [hL]⟩
    | succ c =>
      rw [List.getElem?_cons_succ] at hc
      obtain ⟨h1, h2, h3⟩ := h.lab c t hc
      exact ⟨h1, by omega, by rw [h3]; congr 1; omega⟩
  inc := fun c s t hs ht => by
    cases c with
    | zero =>
      simp at hs
      subst hs
      rw [List.getElem?_cons_succ] at ht
      obtain ⟨h1, h2, h3⟩ := h.lab 0 t ht
      refine ⟨by omega, fun a b ha hb => ?_⟩
      obtain ⟨s, z, g1, g2, g3, g4, g5⟩ := hP.chain t k b h1 (by rw [h3]) hb
      have hsi : s = i := by
        rcases Nat.lt_trichotomy s i with h4 | h4 | h4
        · exact absurd hL (g5 i h4 (by omega))
        · exact h4
        · exact absurd g2 (h.gap t ht s (by omega) g1)
      subst hsi
      rw [ha] at g3
      injection g3 with g3
      omega
    | succ c =>
      rw [List.getElem?_cons_succ] at hs ht
      exact h.inc c s t hs ht
  top := fun h => by cases h
  gap := fun t ht s h1 h2 => by simp at ht; omega
theorem BInv.pass {J L : List Nat} {n K i k : Nat} {ch : List Nat} (h : BInv J L n K (i + 1) k ch) (hL : L[i]? ≠ some k) : BInv J L n K i k ch where
  len := h.len
  lab := fun c t hc => by obtain ⟨h1, h2, h3⟩ := h.lab c t hc; exact ⟨h1, by omega, h3⟩
  inc := h.inc
  top := fun hc t h1 h2 => by
    rcases Nat.lt_or_ge i t with h3 | h3
    · exact h.top hc t (by omega) h2
    · obtain rfl : t = i := by omega
      have := h.len
      subst hc
      simp at this
      rwa [this] at hL
  gap := fun t ht s h1 h2 => by
    rcases Nat.lt_or_ge i s with h3 | h3
    · exact h.gap t ht s (by omega) h2
    · obtain rfl : s = i := by omega
      exact hL
theorem BInv.done {J L T : List Nat} {n K k q : Nat} {ch : List Nat} (hP : PInv J n n T L q) (hJ : J.length = n) (hK : 0 < K → ∃ t, t < n ∧ L[t]? = some K) (h : BInv J L n K 0 k ch) : k = 0 := by
  rcases Nat.eq_zero_or_pos k with h0 | h0
  · exact h0
  · exfalso
    cases ch with
    | nil =>
      have := h.len
      simp at this
      obtain ⟨t, h1, h2⟩ := hK (by omega)
      exact h.top rfl t (Nat.zero_le _) h1 h2
    | cons t ch =>
      obtain ⟨h1, _, h3⟩ := h.lab 0 t rfl
      obtain ⟨b, hb⟩ : ∃ b, J[t]? = some b := ⟨_, List.getElem?_eq_getElem (by omega)⟩
      obtain ⟨s, z, g1, g2, _⟩ := hP.chain t (k - 1) b h1 (by rw [h3]; congr 1; omega) hb
      exact h.gap t rfl s (Nat.zero_le _) g1 (by rw [g2]; congr 1; omega)
end Go.Proofs.YtncjclmhdhimdaaDoor
