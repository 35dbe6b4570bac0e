/- What a diff is good for: from what the package's Diff leaves to what the laws speak of. No program in sight. -/
import Derived.Test.YtncjclmhdhimdaaDoorDPlaces
namespace Go.Proofs.YtncjclmhdhimdaaDoor

theorem ix_lt {α : Type} {p : α → Bool} {L : List α} {i k : Nat} {s : α} (h : L[i]? = some s) (hp : p s = true) (hik : i < k) : (ix p L i).length < (ix p L k).length :=
  (List.getElem?_eq_some_iff.1 (ix_at hik h hp)).1
theorem Once.map {α β : Type} {X Y : List α} {f : α → β} (hX : ∀ x ∈ X, ∀ y ∈ X, f x = f y → x = y) (hY : ∀ x ∈ Y, ∀ y ∈ Y, f x = f y → x = y) {m : Nat × Nat} (h : Once X Y m) : Once (X.map f) (Y.map f) m := by
  obtain ⟨a, h1, h2, h3, h4⟩ := h
  refine ⟨f a, by rw [List.getElem?_map, h1]; rfl, by rw [List.getElem?_map, h2]; rfl, fun i hi => h3 i ?_, fun i hi => h4 i ?_⟩
  · rw [List.getElem?_map] at hi
    obtain ⟨x, hx, he⟩ := Option.map_eq_some_iff.1 hi
    rw [hx, hX x (List.mem_of_getElem? hx) a (List.mem_of_getElem? h1) he]
  · rw [List.getElem?_map] at hi
    obtain ⟨x, hx, he⟩ := Option.map_eq_some_iff.1 hi
    rw [hx, hY x (List.mem_of_getElem? hx) a (List.mem_of_getElem? h2) he]
theorem opt_lab {X Y : List (List UInt8)} {K : Nat} (h : Opt X Y K) : ∃ lab : Nat × Nat → Nat, (∀ m, Once X Y m → 1 ≤ lab m ∧ lab m ≤ K) ∧ ∀ m n, Once X Y m → Once X Y n → m.1 < n.1 → m.2 < n.2 → lab m < lab n := by
  obtain ⟨lb, hl, hr, hi⟩ := h
  have key : ∀ m, Once X Y m → ∃ z c, X[m.1]? = some z ∧ Y[m.2]? = some z ∧ uq X Y z = true ∧ lb[(ix (uq X Y) X m.1).length]? = some c ∧ (inv X Y X.length)[(ix (uq X Y) X m.1).length]? = some (ix (uq X Y) Y m.2).length := by
    intro m hm
    obtain ⟨z, h1, h2, h3, h4⟩ := hm
    have u1 := once_count h1 h3
    have u2 := once_count h2 h4
    have hu : uq X Y z = true := uq_iff.2 ⟨u1, u2⟩
    have hlt : m.1 < X.length := (List.getElem?_eq_some_iff.1 h1).1
    have hx := ix_at hlt h1 hu
    have hs := (List.getElem?_eq_some_iff.1 hx).1
    obtain ⟨c, hc⟩ : ∃ c, lb[(ix (uq X Y) X m.1).length]? = some c := ⟨_, List.getElem?_eq_getElem (by rw [hl]; exact hs)⟩
    refine ⟨z, c, h1, h2, hu, hc, ?_⟩
    unfold inv
    rw [List.getElem?_map, hx, Option.map_some, h1]
    simp only
    rw [once_idx u2 h2]
  refine ⟨fun m => lb.getD (ix (uq X Y) X m.1).length 0, fun m hm => ?_, fun m n hm hn l1 l2 => ?_⟩
  · obtain ⟨z, c, _, _, _, hc, _⟩ := key m hm
    simp only
    rw [List.getD_eq_getElem?_getD, hc]
    exact hr c (List.mem_of_getElem? hc)
  · obtain ⟨z, c, h1, h2, hu, hc, hv⟩ := key m hm
    obtain ⟨z', c', h1', h2', hu', hc', hv'⟩ := key n hn
    simp only
    rw [List.getD_eq_getElem?_getD, List.getD_eq_getElem?_getD, hc, hc']
    exact hi _ _ _ _ _ _ (ix_lt h1 hu l1) hv hv' (ix_lt h2 hu l2) hc hc'
/- all that the laws use of a diff of two texts -/
structure DAll (a b : List UInt8) (cs : List (Ck (List UInt8))) (F : Sc (List UInt8)) : Prop where
  good : DGood (lns a) (lns b) cs F
  out : ∀ c ∈ cs, touched c.ops
  later : ∀ c ∈ cs.tail, ∃ x r, c.ops = (32, x) :: r
theorem dall_of {a b : List UInt8} {M : List (Nat × Nat)} {cs : List (Ck (List UInt8))} {F : Sc (List UInt8)} (h : DFin (lns a) (lns b) M cs F) (hM : Matches (dl a) (dl b) M) (hO : Opt (dl a) (dl b) (M.length - 2)) : DAll a b cs F := by
  obtain ⟨lab, h4, h5⟩ := opt_lab hO
  rw [dl_eq, dl_eq] at h4 h5 hM
  have inj : ∀ a b : List UInt8, ∀ x ∈ lns a, ∀ y ∈ lns b, mark x = mark y → x = y := inj_lns
  have hM2 := hM.unmap (inj a b)
  have up : ∀ m, Once (lns a) (lns b) m → Once ((lns a).map mark) ((lns b).map mark) m := fun m hm => hm.map (inj a a) (inj b b)
  have get : ∀ (s : Nat) (m : Nat × Nat), ((M.drop 1).take (M.length - 2))[s]? = some m → M[s + 1]? = some m ∧ s + 2 < M.length := by
    intro s m hs
    have hl := (List.getElem?_eq_some_iff.1 hs).1
    rw [List.length_take, List.length_drop] at hl
    rw [List.getElem?_take, if_pos (by omega), List.getElem?_drop] at hs
    exact ⟨by rw [← hs]; congr 1; omega, by omega⟩
  refine ⟨⟨h.path, h.cov, M.length - 2, (M.drop 1).take (M.length - 2), lab, ?_, fun m hm => ?_, fun s t m n hs ht hst => ?_, fun m hm => h4 m (up m hm), fun m n hm hn => h5 m n (up m hm) (up n hn)⟩, h.out, h.later⟩
  · rw [List.length_take, List.length_drop]
    omega
  · obtain ⟨s, hs⟩ := List.mem_iff_getElem?.1 hm
    obtain ⟨k1, k2⟩ := get s m hs
    exact ⟨hM2.real (s + 1) m k1 (by omega) (by omega), h.kept (s + 1) m k1 (by omega) (by omega)⟩
  · obtain ⟨k1, k2⟩ := get s m hs
    obtain ⟨k3, k4⟩ := get t n ht
    exact hM2.strict (s + 1) (t + 1) m n k1 k3 (by omega) (by omega) (by omega)
theorem DAll.some {a b : List UInt8} {cs : List (Ck (List UInt8))} {F : Sc (List UInt8)} (h : DAll a b cs F) (hne : a ≠ b) : cs ≠ [] := by
  rintro rfl
  have hk : allK F := h.good.cov
  have := same_of_keep h.good.path hk
  exact hne (by rw [← lns_flat a, this, lns_flat])
end Go.Proofs.YtncjclmhdhimdaaDoor
