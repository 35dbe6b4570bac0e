/- What a round of the diff's main loop does to the script, and what the whole loop leaves. No program in sight. -/
import Derived.Test.YtncjclmhdhimdaaDoorDPath
namespace Go.Proofs.YtncjclmhdhimdaaDoor
variable {α : Type} {X Y : List α}

/- what a match is found to be: the place where its diagonal begins, and how long that is -/
structure Found (X Y : List α) (dx dy sx sy d1 d2 : Nat) (m : Nat × Nat) : Prop where
  ex : m.1 = sx + d1
  ey : m.2 = sy + d1
  lx : dx ≤ sx
  ly : dy ≤ sy
  back : Diag X Y sx sy d1
  fore : Diag X Y m.1 m.2 d2
  max : Max X Y (m.1 + d2) (m.2 + d2)
  inX : sx + (d1 + d2) ≤ X.length
  inY : sy + (d1 + d2) ≤ Y.length
theorem Found.diag {dx dy sx sy d1 d2 : Nat} {m : Nat × Nat} (h : Found X Y dx dy sx sy d1 d2 m) : Diag X Y sx sy (d1 + d2) := by
  refine h.back.join ?_
  have := h.fore
  rwa [h.ex, h.ey] at this
def chg (X Y : List α) (dx dy sx sy : Nat) : Sc α := part 45 X dx (sx - dx) ++ part 43 Y dy (sy - dy)
theorem chg_signs {dx dy sx sy : Nat} : ∀ o ∈ chg X Y dx dy sx sy, o.1 = 45 ∨ o.1 = 43 := by
  intro o ho
  unfold chg part at ho
  rcases List.mem_append.1 ho with h | h
  · obtain ⟨a, _, rfl⟩ := List.mem_map.1 h; exact .inl rfl
  · obtain ⟨a, _, rfl⟩ := List.mem_map.1 h; exact .inr rfl
theorem chg_not {dx dy sx sy : Nat} : ∀ o ∈ chg X Y dx dy sx sy, o.1 ≠ 32 := by
  intro o ho h
  rcases chg_signs o ho with h1 | h1 <;> rw [h] at h1 <;> exact absurd h1 (by decide)
theorem chg_path {dx dy sx sy : Nat} (lx : dx ≤ sx) (ly : dy ≤ sy) (hx : sx ≤ X.length) (hy : sy ≤ Y.length) : Path X Y dx dy (chg X Y dx dy sx sy) sx sy := by
  have h1 := Path.dels (X := X) Y dy (sx - dx) dx (by omega)
  have h2 := Path.inss (Y := Y) X (dx + (sx - dx)) (sy - dy) dy (by omega)
  have := h1.app h2
  rwa [show dx + (sx - dx) = sx by omega, show dy + (sy - dy) = sy by omega] at this
theorem chg_some {M : List (Nat × Nat)} {t dx dy cx cy sx sy d1 d2 : Nat} {ct : Sc α} {cs : List (Ck α)} {m : Nat × Nat} (h : DInv X Y M t dx dy cx cy ct cs) (hM : Matches X Y M) (hm : M[t]? = some m) (hf : Found X Y dx dy sx sy d1 d2 m) (ht : 0 < t) : chg X Y dx dy sx sy ≠ [] := by
  intro he
  have hl := congrArg List.length he
  have inX := hf.inX
  have inY := hf.inY
  have lx := hf.lx
  have ly := hf.ly
  unfold chg at hl
  rw [List.length_append, part_len (by omega), part_len (by omega)] at hl
  simp only [List.length_nil] at hl
  have e1 : sx = dx := by omega
  have e2 : sy = dy := by omega
  obtain ⟨hmx, hn⟩ := h.max ht
  apply hmx
  rcases Nat.eq_zero_or_pos d1 with h0 | h0
  · have m1 := hf.ex
    have m2 := hf.ey
    have htl : t < M.length := (List.getElem?_eq_some_iff.1 hm).1
    rcases Nat.lt_or_ge (t + 1) M.length with h1 | h1
    · obtain ⟨a, ha, hb, _⟩ := hM.real t m hm ht h1
      exact ⟨a, by rw [← ha]; congr 1; omega, by rw [← hb]; congr 1; omega⟩
    · have := hM.last t m hm (by omega)
      rw [this] at m1 m2
      simp only at m1 m2
      omega
  · obtain ⟨a, h1, h2⟩ := hf.back 0 h0
    exact ⟨a, by rw [← h1]; congr 1; omega, by rw [← h2]; congr 1; omega⟩
theorem chg_none {M : List (Nat × Nat)} {dx dy cx cy sx sy d1 d2 : Nat} {ct : Sc α} {cs : List (Ck α)} {m : Nat × Nat} (h : DInv X Y M 0 dx dy cx cy ct cs) (hM : Matches X Y M) (hm : M[0]? = some m) (hf : Found X Y dx dy sx sy d1 d2 m) : dx = 0 ∧ dy = 0 ∧ sx = 0 ∧ sy = 0 ∧ d1 = 0 ∧ cx = 0 ∧ cy = 0 ∧ ct = [] ∧ cs = [] ∧ chg X Y dx dy sx sy = [] := by
  obtain ⟨h1, h2, h3, h4, h5, h6⟩ := h.start rfl
  have e1 := hf.ex
  have e2 := hf.ey
  obtain rfl := Option.some.inj (hM.first.symm.trans hm)
  simp only at e1 e2
  have k1 : sx = 0 := by omega
  have k2 : sy = 0 := by omega
  have k3 : d1 = 0 := by omega
  subst h1 h2 k1 k2 k3
  exact ⟨rfl, rfl, rfl, rfl, rfl, h3, h4, h5, h6, by simp [chg, part_zero]⟩
/- the script up to the end of the diagonal, in every case -/
theorem core {M : List (Nat × Nat)} {t dx dy sx sy d1 d2 : Nat} {F0 ct : Sc α} {m : Nat × Nat} (hM : Matches X Y M) (hm : M[t]? = some m) (hf : Found X Y dx dy sx sy d1 d2 m) (hp : Path X Y 0 0 (F0 ++ ct) dx dy)
    (hk : ∀ (s : Nat) (m : Nat × Nat), M[s]? = some m → s < t → 0 < s → s + 1 < M.length → kept (F0 ++ ct) m) {G : Sc α} (hG : G = F0 ++ ((ct ++ chg X Y dx dy sx sy) ++ part 32 X sx (d1 + d2))) :
    Path X Y 0 0 (F0 ++ (ct ++ chg X Y dx dy sx sy)) sx sy ∧ Path X Y 0 0 G (sx + (d1 + d2)) (sy + (d1 + d2)) ∧ (∀ (s : Nat) (m : Nat × Nat), M[s]? = some m → s < t + 1 → 0 < s → s + 1 < M.length → kept G m) ∧
      ∃ H K : Sc α, G = H ++ K ∧ allK K ∧ ∀ (s : Nat) (m : Nat × Nat), M[s]? = some m → t + 1 ≤ s → cX H ≤ m.1 ∧ cY H ≤ m.2 := by
  have inX := hf.inX
  have inY := hf.inY
  have p1 : Path X Y 0 0 (F0 ++ (ct ++ chg X Y dx dy sx sy)) sx sy := by
    rw [← List.append_assoc]
    exact hp.app (chg_path hf.lx hf.ly (by omega) (by omega))
  have p2 : Path X Y 0 0 G (sx + (d1 + d2)) (sy + (d1 + d2)) := by
    rw [hG, ← List.append_assoc]
    exact p1.app (Path.keeps _ _ _ hf.diag)
  have p3 : Path X Y 0 0 ((F0 ++ (ct ++ chg X Y dx dy sx sy)) ++ part 32 X sx d1) (sx + d1) (sy + d1) := p1.app (Path.keeps _ _ _ hf.back)
  obtain ⟨e1, e2⟩ := p3.ends
  have hGe : G = ((F0 ++ (ct ++ chg X Y dx dy sx sy)) ++ part 32 X sx d1) ++ part 32 X (sx + d1) d2 := by
    rw [hG, part_add]
    simp
  refine ⟨p1, p2, fun s n hs hst h0 hl => ?_, _, _, hGe, part_K _ _ _, fun s n hs hts => ?_⟩
  · rcases Nat.lt_or_ge s t with h3 | h3
    · rw [hG, List.append_assoc ct, ← List.append_assoc F0 ct]
      exact (hk s n hs h3 h0 hl).more
    · obtain rfl : s = t := by omega
      obtain rfl := Option.some.inj (hs.symm.trans hm)
      obtain ⟨a, ha, hb, _⟩ := hM.real s n hs h0 hl
      have hd2 : 0 < d2 := by
        rcases Nat.eq_zero_or_pos d2 with h4 | h4
        · exact absurd ⟨a, by rw [← ha]; congr 1; omega, by rw [← hb]; congr 1; omega⟩ hf.max
        · exact h4
      rw [hGe]
      exact kept_of (e := 0) (part_K _ _ _) (by rw [part_len (by omega)]; exact hd2) (by rw [hf.ex]; omega) (by rw [hf.ey]; omega)
  · obtain ⟨r1, r2⟩ := hM.rise t s m n hm hs (by omega)
    rw [hf.ex] at r1
    rw [hf.ey] at r2
    omega
theorem hd_chg {ct C K : Sc α} (hC : ∀ o ∈ C, o.1 ≠ 32) (hne : C ≠ []) : hdK ((ct ++ C) ++ K) = hdK ct ∧ ¬ allK ((ct ++ C) ++ K) := by
  obtain ⟨o, r, rfl⟩ := List.exists_cons_of_ne_nil hne
  have hn : ¬ allK (ct ++ (o :: r)) := fun h => hC o (List.mem_cons_self ..) (h o (by simp))
  refine ⟨?_, fun h => hn (allK_app.1 h).1⟩
  rw [hdK_more hn, hdK_app_le]
  intro p t he
  injection he with h1 h2
  rw [← h1]
  exact hC o (List.mem_cons_self ..)
theorem touched_emit {ct C K : Sc α} (hC : ∀ o ∈ C, o.1 ≠ 32) (hne : C ≠ []) (hh : hdK ct ≤ 3) (hK : allK K) (h3 : K.length ≤ 3) : touched ((ct ++ C) ++ K) := by
  obtain ⟨h1, h2⟩ := hd_chg (ct := ct) (K := K) hC hne
  refine ⟨h2, by omega, ?_⟩
  rw [tlK_app _ hK]
  · exact h3
  · intro o t he
    have hl := congrArg List.getLast? he
    rw [List.getLast?_append, List.getLast?_concat] at hl
    have hc : C.getLast? = some (C.getLast hne) := List.getLast?_eq_some_getLast hne
    rw [hc] at hl
    simp at hl
    rw [← hl]
    exact hC _ (List.getLast_mem hne)

/- the chunk goes on over the whole diagonal -/
theorem DInv.cont {M : List (Nat × Nat)} {t dx dy cx cy sx sy d1 d2 : Nat} {ct : Sc α} {cs : List (Ck α)} {m : Nat × Nat} (h : DInv X Y M t dx dy cx cy ct cs) (hM : Matches X Y M) (hm : M[t]? = some m) (hf : Found X Y dx dy sx sy d1 d2 m)
    (hn : sx + (d1 + d2) < X.length ∨ sy + (d1 + d2) < Y.length) (hc : d1 + d2 < 3 ∨ ct ++ chg X Y dx dy sx sy ≠ []) :
    DInv X Y M (t + 1) (sx + (d1 + d2)) (sy + (d1 + d2)) cx cy ((ct ++ chg X Y dx dy sx sy) ++ part 32 X sx (d1 + d2)) cs := by
  obtain ⟨F0, hp, hcov, h1, h2, hkp, hd⟩ := h.run
  obtain ⟨_, p2, k2, dg⟩ := core hM hm hf hp hkp rfl
  have hmx := hf.max
  rw [hf.ex, hf.ey, Nat.add_assoc, Nat.add_assoc] at hmx
  refine { run := ⟨F0, p2, hcov, h1, h2, k2, fun _ => dg⟩, start := fun h => by omega, max := fun _ => ⟨hmx, hn⟩, hd := ?_, out := h.out, next := fun hcs => ?_, later := h.later, len := ⟨hf.inX, hf.inY⟩ }
  · rcases Nat.eq_zero_or_pos t with h0 | h0
    · subst h0
      obtain ⟨rfl, rfl, rfl, rfl, rfl, _, _, rfl, rfl, hch⟩ := chg_none h hM hm hf
      rw [hch] at hc ⊢
      have := hdK_le (part 32 X 0 (0 + d2))
      rw [part_len hf.inX] at this
      rw [show ([] : Sc α) ++ [] ++ part 32 X 0 (0 + d2) = part 32 X 0 (0 + d2) from rfl]
      rcases hc with hc | hc
      · omega
      · exact absurd rfl hc
    · rw [(hd_chg chg_not (chg_some h hM hm hf h0)).1]
      exact h.hd
  · obtain ⟨a, r, he⟩ := h.next hcs
    exact ⟨a, (r ++ chg X Y dx dy sx sy) ++ part 32 X sx (d1 + d2), by rw [he]; simp⟩
theorem later_snoc {cs : List (Ck α)} {c : Ck α} {ct r : Sc α} (h : ∀ d ∈ cs.tail, ∃ a s, d.ops = (32, a) :: s) (hn : cs ≠ [] → ∃ a s, ct = (32, a) :: s) (hc : c.ops = ct ++ r) : ∀ d ∈ (cs ++ [c]).tail, ∃ a s, d.ops = (32, a) :: s := by
  intro d hd
  cases cs with
  | nil => simp at hd
  | cons b bs =>
    rw [List.cons_append, List.tail_cons] at hd
    rcases List.mem_append.1 hd with h1 | h1
    · exact h d h1
    · obtain rfl : d = c := by simpa using h1
      obtain ⟨a, s, he⟩ := hn (by simp)
      exact ⟨a, s ++ r, by rw [hc, he]; rfl⟩
theorem t_pos {M : List (Nat × Nat)} {t dx dy cx cy sx sy d1 d2 : Nat} {ct : Sc α} {cs : List (Ck α)} {m : Nat × Nat} (h : DInv X Y M t dx dy cx cy ct cs) (hM : Matches X Y M) (hm : M[t]? = some m) (hf : Found X Y dx dy sx sy d1 d2 m) (hc : ct ++ chg X Y dx dy sx sy ≠ []) : 0 < t := by
  rcases Nat.eq_zero_or_pos t with h0 | h0
  · subst h0
    obtain ⟨_, _, _, _, _, _, _, h1, _, h2⟩ := chg_none h hM hm hf
    rw [h1, h2] at hc
    exact absurd rfl hc
  · exact h0
/- the chunk is put out, and another one begins -/
theorem DInv.emit {M : List (Nat × Nat)} {t dx dy cx cy sx sy d1 d2 : Nat} {ct : Sc α} {cs : List (Ck α)} {m : Nat × Nat} (h : DInv X Y M t dx dy cx cy ct cs) (hM : Matches X Y M) (hm : M[t]? = some m) (hf : Found X Y dx dy sx sy d1 d2 m)
    (hn : sx + (d1 + d2) < X.length ∨ sy + (d1 + d2) < Y.length) (hc : ct ++ chg X Y dx dy sx sy ≠ []) (h6 : 6 ≤ d1 + d2) :
    DInv X Y M (t + 1) (sx + (d1 + d2)) (sy + (d1 + d2)) (sx + (d1 + d2) - 3) (sy + (d1 + d2) - 3) (part 32 X (sx + (d1 + d2) - 3) 3) (cs ++ [⟨cx, cy, (ct ++ chg X Y dx dy sx sy) ++ part 32 X sx 3⟩]) := by
  obtain ⟨F0, hp, hcov, h1, h2, hkp, hd⟩ := h.run
  have ht := t_pos h hM hm hf hc
  obtain ⟨p1, p2, k2, dg⟩ := core hM hm hf hp hkp rfl
  have hmx := hf.max
  rw [hf.ex, hf.ey, Nat.add_assoc, Nat.add_assoc] at hmx
  have inX := hf.inX
  have dgs := hf.diag
  have hG : F0 ++ ((ct ++ chg X Y dx dy sx sy) ++ part 32 X sx (d1 + d2)) = ((F0 ++ ((ct ++ chg X Y dx dy sx sy) ++ part 32 X sx 3)) ++ part 32 X (sx + 3) (d1 + d2 - 6)) ++ part 32 X (sx + (d1 + d2) - 3) 3 := by
    conv => lhs; rw [show d1 + d2 = 3 + ((d1 + d2 - 6) + 3) by omega, part_add, part_add]
    rw [show sx + 3 + (d1 + d2 - 6) = sx + (d1 + d2) - 3 by omega]
    simp
  have pa : Path X Y 0 0 ((F0 ++ ((ct ++ chg X Y dx dy sx sy) ++ part 32 X sx 3)) ++ part 32 X (sx + 3) (d1 + d2 - 6)) (sx + (d1 + d2) - 3) (sy + (d1 + d2) - 3) := by
    have q1 := (p1.app (Path.keeps 3 _ _ (dgs.sub 0 3 (by omega)))).app (Path.keeps (d1 + d2 - 6) _ _ (dgs.sub 3 (d1 + d2 - 6) (by omega)))
    rw [show sx + 3 + (d1 + d2 - 6) = sx + (d1 + d2) - 3 by omega, show sy + 3 + (d1 + d2 - 6) = sy + (d1 + d2) - 3 by omega] at q1
    have e : (F0 ++ ((ct ++ chg X Y dx dy sx sy) ++ part 32 X sx 3)) = (F0 ++ (ct ++ chg X Y dx dy sx sy)) ++ part 32 X sx 3 := by simp
    rw [e]
    exact q1
  have pe := pa.ends
  refine { run := ⟨_, by rw [← hG]; exact p2, (hcov.snoc (c := ⟨cx, cy, (ct ++ chg X Y dx dy sx sy) ++ part 32 X sx 3⟩) (by simp [h1]) (by simp [h2])).more (part_K _ _ _), by rw [pe.1]; simp, by rw [pe.2]; simp, by rw [← hG]; exact k2, fun _ => by rw [← hG]; exact dg⟩, start := fun h => by omega, max := fun _ => ⟨hmx, hn⟩, hd := ?_, out := ?_, next := fun _ => ?_, later := later_snoc h.later h.next (r := chg X Y dx dy sx sy ++ part 32 X sx 3) (by simp), len := ⟨hf.inX, hf.inY⟩ }
  · have := hdK_le (part 32 X (sx + (d1 + d2) - 3) 3)
    rw [part_len (by omega)] at this
    exact this
  · intro c hcm
    rcases List.mem_append.1 hcm with h3 | h3
    · exact h.out c h3
    · obtain rfl : c = ⟨cx, cy, (ct ++ chg X Y dx dy sx sy) ++ part 32 X sx 3⟩ := by simpa using h3
      exact touched_emit chg_not (chg_some h hM hm hf ht) h.hd (part_K _ _ _) (by rw [part_len (by omega)]; exact Nat.le_refl _)
  · obtain ⟨a, ha⟩ : ∃ a, X[sx + (d1 + d2) - 3]? = some a := ⟨_, List.getElem?_eq_getElem (by omega)⟩
    exact ⟨a, _, part_succ ha⟩
/- nothing is put out, and the first chunk begins -/
theorem DInv.fresh {M : List (Nat × Nat)} {t dx dy cx cy sx sy d1 d2 : Nat} {ct : Sc α} {cs : List (Ck α)} {m : Nat × Nat} (h : DInv X Y M t dx dy cx cy ct cs) (hM : Matches X Y M) (hm : M[t]? = some m) (hf : Found X Y dx dy sx sy d1 d2 m)
    (hn : sx + (d1 + d2) < X.length ∨ sy + (d1 + d2) < Y.length) (hc : ct ++ chg X Y dx dy sx sy = []) (h3 : 3 ≤ d1 + d2) :
    DInv X Y M (t + 1) (sx + (d1 + d2)) (sy + (d1 + d2)) (sx + (d1 + d2) - 3) (sy + (d1 + d2) - 3) (part 32 X (sx + (d1 + d2) - 3) 3) cs := by
  obtain ⟨F0, hp, hcov, h1, h2, hkp, hd⟩ := h.run
  have ht : t = 0 := by
    rcases Nat.eq_zero_or_pos t with h0 | h0
    · exact h0
    · exact absurd (List.append_eq_nil_iff.1 hc).2 (chg_some h hM hm hf h0)
  obtain ⟨p1, p2, k2, dg⟩ := core hM hm hf hp hkp rfl
  have hcs : cs = [] := (h.start ht).2.2.2.2.2
  have hmx := hf.max
  rw [hf.ex, hf.ey, Nat.add_assoc, Nat.add_assoc] at hmx
  have inX := hf.inX
  have dgs := hf.diag
  have hG : F0 ++ ((ct ++ chg X Y dx dy sx sy) ++ part 32 X sx (d1 + d2)) = (F0 ++ part 32 X sx (d1 + d2 - 3)) ++ part 32 X (sx + (d1 + d2) - 3) 3 := by
    conv => lhs; rw [hc, show d1 + d2 = (d1 + d2 - 3) + 3 by omega, part_add]
    rw [show sx + (d1 + d2 - 3) = sx + (d1 + d2) - 3 by omega]
    simp
  rw [hc, List.append_nil] at p1
  have pa : Path X Y 0 0 (F0 ++ part 32 X sx (d1 + d2 - 3)) (sx + (d1 + d2) - 3) (sy + (d1 + d2) - 3) := by
    have q1 := p1.app (Path.keeps (d1 + d2 - 3) _ _ (dgs.sub 0 (d1 + d2 - 3) (by omega)))
    rwa [show sx + (d1 + d2 - 3) = sx + (d1 + d2) - 3 by omega, show sy + (d1 + d2 - 3) = sy + (d1 + d2) - 3 by omega] at q1
  have pe := pa.ends
  refine { run := ⟨_, by rw [← hG]; exact p2, hcov.more (part_K _ _ _), by rw [pe.1]; simp, by rw [pe.2]; simp, by rw [← hG]; exact k2, fun _ => by rw [← hG]; exact dg⟩, start := fun h => by omega, max := fun _ => ⟨hmx, hn⟩, hd := ?_, out := h.out, next := fun hne => absurd hcs hne, later := h.later, len := ⟨hf.inX, hf.inY⟩ }
  have := hdK_le (part 32 X (sx + (d1 + d2) - 3) 3)
  rw [part_len (by omega)] at this
  exact this

/- what the whole loop leaves -/
structure DFin (X Y : List α) (M : List (Nat × Nat)) (cs : List (Ck α)) (F : Sc α) : Prop where
  path : Path X Y 0 0 F X.length Y.length
  cov : Cov 0 0 cs F
  kept : ∀ (s : Nat) (m : Nat × Nat), M[s]? = some m → 0 < s → s + 1 < M.length → kept F m
  out : ∀ c ∈ cs, touched c.ops
  later : ∀ c ∈ cs.tail, ∃ a r, c.ops = (32, a) :: r
theorem fin_kept {M : List (Nat × Nat)} {t : Nat} {G : Sc α} (hM : Matches X Y M) (hp : Path X Y 0 0 G X.length Y.length) (hk : ∀ (s : Nat) (m : Nat × Nat), M[s]? = some m → s < t + 1 → 0 < s → s + 1 < M.length → Go.Proofs.YtncjclmhdhimdaaDoor.kept G m)
    (dg : ∃ H K : Sc α, G = H ++ K ∧ allK K ∧ ∀ (s : Nat) (m : Nat × Nat), M[s]? = some m → t + 1 ≤ s → cX H ≤ m.1 ∧ cY H ≤ m.2) : ∀ (s : Nat) (m : Nat × Nat), M[s]? = some m → 0 < s → s + 1 < M.length → Go.Proofs.YtncjclmhdhimdaaDoor.kept G m := by
  intro s m hs h0 hl
  rcases Nat.lt_or_ge s (t + 1) with h1 | h1
  · exact hk s m hs h1 h0 hl
  · obtain ⟨H, K, he, hK, hle⟩ := dg
    obtain ⟨l1, l2⟩ := hle s m hs h1
    have ho := hM.real s m hs h0 hl
    have : m.1 < X.length := by obtain ⟨a, ha, _⟩ := ho; exact (List.getElem?_eq_some_iff.1 ha).1
    exact (on_diag hp he hK l1 l2 ho (.inl this)).2.2
theorem DInv.last {M : List (Nat × Nat)} {t dx dy cx cy sx sy d1 d2 : Nat} {ct : Sc α} {cs : List (Ck α)} {m : Nat × Nat} (h : DInv X Y M t dx dy cx cy ct cs) (hM : Matches X Y M) (hm : M[t]? = some m) (hf : Found X Y dx dy sx sy d1 d2 m)
    (hn : ¬ (sx + (d1 + d2) < X.length ∨ sy + (d1 + d2) < Y.length)) (hc : ct ++ chg X Y dx dy sx sy ≠ []) {n : Nat} (hn3 : n ≤ 3) (hnd : n ≤ d1 + d2) :
    ∃ F, DFin X Y M (cs ++ [⟨cx, cy, (ct ++ chg X Y dx dy sx sy) ++ part 32 X sx n⟩]) F := by
  obtain ⟨F0, hp, hcov, h1, h2, hkp, hd⟩ := h.run
  have ht := t_pos h hM hm hf hc
  obtain ⟨p1, p2, k2, dg⟩ := core hM hm hf hp hkp rfl
  have inX := hf.inX
  have inY := hf.inY
  rw [show sx + (d1 + d2) = X.length by omega, show sy + (d1 + d2) = Y.length by omega] at p2
  refine ⟨_, p2, ?_, fin_kept hM p2 k2 dg, ?_, later_snoc h.later h.next (r := chg X Y dx dy sx sy ++ part 32 X sx n) (by simp)⟩
  · have e : F0 ++ ((ct ++ chg X Y dx dy sx sy) ++ part 32 X sx (d1 + d2)) = (F0 ++ ((ct ++ chg X Y dx dy sx sy) ++ part 32 X sx n)) ++ part 32 X (sx + n) (d1 + d2 - n) := by
      conv => lhs; rw [show d1 + d2 = n + (d1 + d2 - n) by omega, part_add]
      simp
    rw [e]
    exact (hcov.snoc (c := ⟨cx, cy, (ct ++ chg X Y dx dy sx sy) ++ part 32 X sx n⟩) (by simp [h1]) (by simp [h2])).more (part_K _ _ _)
  · intro c hcm
    rcases List.mem_append.1 hcm with h3 | h3
    · exact h.out c h3
    · obtain rfl : c = ⟨cx, cy, (ct ++ chg X Y dx dy sx sy) ++ part 32 X sx n⟩ := by simpa using h3
      exact touched_emit chg_not (chg_some h hM hm hf ht) h.hd (part_K _ _ _) (by rw [part_len (by omega)]; exact hn3)
theorem DInv.none {M : List (Nat × Nat)} {t dx dy cx cy sx sy d1 d2 : Nat} {ct : Sc α} {cs : List (Ck α)} {m : Nat × Nat} (h : DInv X Y M t dx dy cx cy ct cs) (hM : Matches X Y M) (hm : M[t]? = some m) (hf : Found X Y dx dy sx sy d1 d2 m)
    (hn : ¬ (sx + (d1 + d2) < X.length ∨ sy + (d1 + d2) < Y.length)) (hc : ct ++ chg X Y dx dy sx sy = []) : ∃ F, DFin X Y M cs F := by
  obtain ⟨F0, hp, hcov, h1, h2, hkp, hd⟩ := h.run
  obtain ⟨p1, p2, k2, dg⟩ := core hM hm hf hp hkp rfl
  have inX := hf.inX
  have inY := hf.inY
  rw [show sx + (d1 + d2) = X.length by omega, show sy + (d1 + d2) = Y.length by omega] at p2
  refine ⟨_, p2, ?_, fin_kept hM p2 k2 dg, h.out, h.later⟩
  rw [hc]
  exact hcov.more (part_K _ _ _)
/- where all is kept the lists are the same -/
theorem same_of_keep {F : Sc α} (hp : Path X Y 0 0 F X.length Y.length) (hk : allK F) : X = Y := by
  obtain ⟨e1, e2⟩ := hp.ends
  rw [cX_keep hk] at e1
  rw [cY_keep hk] at e2
  apply List.ext_getElem?
  intro i
  rcases Nat.lt_or_ge i F.length with h | h
  · obtain ⟨b, h1, h2⟩ := diag_at F 0 0 _ _ hp hk i h
    rw [Nat.zero_add] at h1 h2
    rw [h1, h2]
  · rw [List.getElem?_eq_none (by omega), List.getElem?_eq_none (by omega)]
end Go.Proofs.YtncjclmhdhimdaaDoor
