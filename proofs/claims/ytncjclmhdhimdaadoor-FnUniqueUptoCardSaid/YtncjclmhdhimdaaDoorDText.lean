/- The text of a diff, line by line; scripts over lines without the remark. Plain definitions and lemmas, no program in sight. -/
import Derived.Test.YtncjclmhdhimdaaDoorDMark
import Derived.Test.YtncjclmhdhimdaaDoorDPath
import Derived.Test.YtncjclmhdhimdaaDoorDRound
import Derived.Lib.ItoaLen
namespace Go.Proofs.YtncjclmhdhimdaaDoor

/- lines of a text that is made of lines -/
def full (x : List UInt8) : Prop := ∃ y, x = y ++ [10] ∧ 10 ∉ y
theorem foldl_stp : ∀ (b : List UInt8) (p : List (List UInt8)) (q : List UInt8), b.foldl stp (p, q) = (p ++ (b.foldl stp ([], q)).1, (b.foldl stp ([], q)).2) := by
  intro b
  induction b with
  | nil => intro p q; simp
  | cons c b ih =>
    intro p q
    rw [List.foldl_cons, List.foldl_cons]
    by_cases hc : c = 10
    · rw [show stp (p, q) c = (p ++ [q ++ [c]], []) by unfold stp; rw [if_pos hc], show stp ([], q) c = ([] ++ [q ++ [c]], []) by unfold stp; rw [if_pos hc], ih (p ++ [q ++ [c]]) [], ih ([] ++ [q ++ [c]]) []]; simp
    · rw [show stp (p, q) c = (p, q ++ [c]) by unfold stp; rw [if_neg hc], show stp ([], q) c = ([], q ++ [c]) by unfold stp; rw [if_neg hc]]
      exact ih p (q ++ [c])
theorem foldl_no10 : ∀ (b q : List UInt8), 10 ∉ b → b.foldl stp ([], q) = ([], q ++ b) := by
  intro b
  induction b with
  | nil => intro q _; simp
  | cons c b ih =>
    intro q h
    rw [List.foldl_cons]
    have hc : ¬ c = 10 := fun he => h (by simp [he])
    rw [show stp ([], q) c = ([], q ++ [c]) by unfold stp; rw [if_neg hc], ih _ (fun he => h (List.mem_cons_of_mem _ he))]
    simp
theorem spl_full {x : List UInt8} (h : full x) (b : List UInt8) : spl (x ++ b) = (x :: (spl b).1, (spl b).2) := by
  obtain ⟨y, rfl, hy⟩ := h
  unfold spl
  rw [List.foldl_append, List.foldl_append, foldl_no10 y [] hy]
  rw [show [(10 : UInt8)].foldl stp ([], [] ++ y) = ([y ++ [10]], []) by simp [stp]]
  rw [foldl_stp]
  simp
theorem lns_full {x : List UInt8} (h : full x) (b : List UInt8) : lns (x ++ b) = x :: lns b := by
  unfold lns
  rw [spl_full h]
  simp
theorem lns_of_lines : ∀ (L : List (List UInt8)), (∀ x ∈ L, full x) → lns L.flatten = L := by
  intro L
  induction L with
  | nil => intro _; rfl
  | cons x L ih =>
    intro h
    rw [List.flatten_cons, lns_full (h x (List.mem_cons_self ..)), ih fun y hy => h y (List.mem_cons_of_mem _ hy)]

/- numerals -/
def dval (l : List UInt8) : Nat := l.foldl (fun n c => n * 10 + (c.toNat - 48)) 0
def isDig (c : UInt8) : Prop := 48 ≤ c.toNat ∧ c.toNat ≤ 57
theorem dval_snoc (l : List UInt8) (c : UInt8) : dval (l ++ [c]) = dval l * 10 + (c.toNat - 48) := by unfold dval; rw [List.foldl_append]; rfl
theorem dig_val {k : Nat} (h : k < 10) : (UInt8.ofNat (48 + k)).toNat = 48 + k := by
  rw [UInt8.toNat_ofNat']
  omega
theorem dec_val : ∀ (u : Nat), dval (Lib.decDigits u) = u := by
  intro u
  induction u using Nat.strongRecOn with
  | _ u ih =>
    rw [Lib.decDigits]
    split
    · rename_i h
      unfold dval
      simp only [List.foldl_cons, List.foldl_nil]
      rw [dig_val h]
      omega
    · rename_i h
      rw [dval_snoc, ih (u / 10) (by omega), dig_val (Nat.mod_lt _ (by omega))]
      omega
theorem dec_dig : ∀ (u : Nat), ∀ c ∈ Lib.decDigits u, isDig c := by
  intro u
  induction u using Nat.strongRecOn with
  | _ u ih =>
    rw [Lib.decDigits]
    split
    · rename_i h
      intro c hc
      rw [List.mem_singleton] at hc
      subst hc
      unfold isDig
      rw [dig_val h]
      omega
    · rename_i h
      intro c hc
      rcases List.mem_append.1 hc with hc | hc
      · exact ih (u / 10) (by omega) c hc
      · rw [List.mem_singleton] at hc
        subst hc
        unfold isDig
        rw [dig_val (Nat.mod_lt _ (by omega))]
        omega
theorem dec_len {u : Nat} (h : u < 1000000000) : (Lib.decDigits u).length ≤ 9 ∧ 0 < (Lib.decDigits u).length := by
  rw [Lib.decDigits_length]
  have h1 := Lib.nDigits_pos u
  refine ⟨?_, h1⟩
  rcases Nat.lt_or_ge (Lib.nDigits u) 10 with h2 | h2
  · omega
  · exfalso
    have key : ∀ (k u : Nat), k + 1 ≤ Lib.nDigits u → 0 < k → 10 ^ k ≤ u := by
      intro k
      induction k with
      | zero => intro u _ h; omega
      | succ k ih =>
        intro u h3 _
        by_cases h4 : u < 10
        · rw [Lib.nDigits_small h4] at h3; omega
        · rw [Lib.nDigits_big h4] at h3
          rcases Nat.eq_zero_or_pos k with h5 | h5
          · subst h5; omega
          · have := ih (u / 10) (by omega) h5
            rw [Nat.pow_succ]
            omega
    have := key 9 u (by omega) (by omega)
    omega
theorem dec_no10 (u : Nat) : 10 ∉ Lib.decDigits u := fun h => by
  have := (dec_dig u 10 h).1
  revert this
  decide

/- the text of a diff -/
def hdr1 (o n : List UInt8) : List UInt8 := [100, 105, 102, 102, 32] ++ o ++ [32] ++ n ++ [10]
def hdr2 (o : List UInt8) : List UInt8 := [45, 45, 45, 32] ++ o ++ [10]
def hdr3 (n : List UInt8) : List UInt8 := [43, 43, 43, 32] ++ n ++ [10]
def hdr (o n : List UInt8) : List UInt8 := hdr1 o n ++ hdr2 o ++ hdr3 n
def at1 (x k : Nat) : Nat := if 0 < k then x + 1 else x
def ckHead (x y kx ky : Nat) : List UInt8 := [64, 64, 32, 45] ++ Lib.itoa (at1 x kx : Nat) ++ [44] ++ Lib.itoa (kx : Nat) ++ [32, 43] ++ Lib.itoa (at1 y ky : Nat) ++ [44] ++ Lib.itoa (ky : Nat) ++ [32, 64, 64, 10]
def cts (ct : Sc (List UInt8)) : List (List UInt8) := ct.map fun o => o.1 :: o.2
theorem cts_snoc (ct : Sc (List UInt8)) (s : UInt8) (l : List UInt8) : cts (ct ++ [(s, l)]) = cts ct ++ [s :: l] := by simp [cts]
theorem cts_len (ct : Sc (List UInt8)) : (cts ct).length = ct.length := by simp [cts]
def ckText (c : Ck (List UInt8)) : List UInt8 := ckHead c.x c.y (cX c.ops) (cY c.ops) ++ (cts c.ops).flatten

def rmk : List UInt8 := [92, 32, 78, 111, 32, 110, 101, 119, 108, 105, 110, 101, 32, 97, 116, 32, 101, 110, 100, 32, 111, 102, 32, 102, 105, 108, 101, 10]
def opLns (o : UInt8 × List UInt8) : List (List UInt8) := if 10 ∈ o.2 then [o.1 :: o.2] else [o.1 :: (o.2 ++ [10]), rmk]
def ckLns (c : Ck (List UInt8)) : List (List UInt8) := ckHead c.x c.y (cX c.ops) (cY c.ops) :: c.ops.flatMap opLns
def dfLns (o n : List UInt8) (cs : List (Ck (List UInt8))) : List (List UInt8) := hdr1 o n :: hdr2 o :: hdr3 n :: cs.flatMap ckLns

def mop (o : UInt8 × List UInt8) : UInt8 × List UInt8 := (o.1, mark o.2)
def mck (c : Ck (List UInt8)) : Ck (List UInt8) := ⟨c.x, c.y, c.ops.map mop⟩
theorem mop_text (o : UInt8 × List UInt8) : (mop o).1 :: (mop o).2 = (opLns o).flatten := by
  unfold mop opLns mark
  by_cases h : 10 ∈ o.2
  · simp [h]
  · simp [h, nonl, rmk]
theorem cX_map {α β : Type} (g : α → β) (F : Sc α) : cX (F.map fun o => (o.1, g o.2)) = cX F := by
  unfold cX
  rw [List.countP_map]
  rfl
theorem cY_map {α β : Type} (g : α → β) (F : Sc α) : cY (F.map fun o => (o.1, g o.2)) = cY F := by
  unfold cY
  rw [List.countP_map]
  rfl
theorem flat_ops (F : Sc (List UInt8)) : (cts (F.map mop)).flatten = (F.flatMap opLns).flatten := by
  induction F with
  | nil => rfl
  | cons o F ih =>
    rw [List.map_cons, List.flatMap_cons, List.flatten_append, ← ih, ← mop_text]
    simp [cts]
theorem ckText_lns (c : Ck (List UInt8)) : ckText (mck c) = (ckLns c).flatten := by
  unfold ckText ckLns mck
  rw [List.flatten_cons]
  simp only
  rw [flat_ops, show c.ops.map mop = c.ops.map fun o => (o.1, mark o.2) from rfl, cX_map, cY_map]
theorem df_text (o n : List UInt8) (cs : List (Ck (List UInt8))) : hdr o n ++ ((cs.map mck).map ckText).flatten = (dfLns o n cs).flatten := by
  unfold dfLns hdr
  simp only [List.flatten_cons, List.append_assoc]
  congr 3
  induction cs with
  | nil => rfl
  | cons c cs ih =>
    rw [List.map_cons, List.map_cons, List.flatten_cons, List.flatMap_cons, List.flatten_append, ih, ckText_lns]
theorem ckHead_full (x y kx ky : Nat) : full (ckHead x y kx ky) := by
  refine ⟨[64, 64, 32, 45] ++ Lib.itoa (at1 x kx : Nat) ++ [44] ++ Lib.itoa (kx : Nat) ++ [32, 43] ++ Lib.itoa (at1 y ky : Nat) ++ [44] ++ Lib.itoa (ky : Nat) ++ [32, 64, 64], by unfold ckHead; simp, ?_⟩
  rw [Lib.itoa_nonneg, Lib.itoa_nonneg, Lib.itoa_nonneg, Lib.itoa_nonneg]
  have h1 := dec_no10 (at1 x kx)
  have h2 := dec_no10 kx
  have h3 := dec_no10 (at1 y ky)
  have h4 := dec_no10 ky
  simp [h1, h2, h3, h4]
theorem opLns_full {o : UInt8 × List UInt8} (hs : o.1 ≠ 10) (hl : isLine o.2) : ∀ x ∈ opLns o, full x := by
  unfold opLns
  intro x hx
  rcases hl with ⟨y, h1, h2⟩ | ⟨h1, h2⟩
  · rw [if_pos (by rw [h1]; simp), List.mem_singleton] at hx
    exact ⟨o.1 :: y, by rw [hx, h1]; rfl, by simp [h2, hs.symm]⟩
  · rw [if_neg h1] at hx
    simp at hx
    rcases hx with rfl | rfl
    · exact ⟨o.1 :: o.2, rfl, by simp [h1, hs.symm]⟩
    · exact ⟨rmk.dropLast, by decide, by decide⟩
theorem dfLns_full {o n : List UInt8} {cs : List (Ck (List UInt8))} (ho : 10 ∉ o) (hn : 10 ∉ n) (h : ∀ c ∈ cs, ∀ p ∈ c.ops, p.1 ≠ 10 ∧ isLine p.2) : ∀ x ∈ dfLns o n cs, full x := by
  intro x hx
  unfold dfLns at hx
  rcases List.mem_cons.1 hx with rfl | hx
  · exact ⟨[100, 105, 102, 102, 32] ++ o ++ [32] ++ n, rfl, by simp [ho, hn]⟩
  rcases List.mem_cons.1 hx with rfl | hx
  · exact ⟨[45, 45, 45, 32] ++ o, rfl, by simp [ho]⟩
  rcases List.mem_cons.1 hx with rfl | hx
  · exact ⟨[43, 43, 43, 32] ++ n, rfl, by simp [hn]⟩
  obtain ⟨c, hc, hx⟩ := List.mem_flatMap.1 hx
  unfold ckLns at hx
  rcases List.mem_cons.1 hx with rfl | hx
  · exact ckHead_full _ _ _ _
  obtain ⟨p, hp, hx⟩ := List.mem_flatMap.1 hx
  exact opLns_full (h c hc p hp).1 (h c hc p hp).2 x hx
theorem df_lns {o n : List UInt8} {cs : List (Ck (List UInt8))} (ho : 10 ∉ o) (hn : 10 ∉ n) (h : ∀ c ∈ cs, ∀ p ∈ c.ops, p.1 ≠ 10 ∧ isLine p.2) : lns (hdr o n ++ ((cs.map mck).map ckText).flatten) = dfLns o n cs := by
  rw [df_text]
  exact lns_of_lines _ (dfLns_full ho hn h)

/- scripts over the lines as they are -/
section
variable {α β : Type} {X Y : List α} {f : α → β}
def mapS (f : α → β) (F : Sc α) : Sc β := F.map fun o => (o.1, f o.2)
def mapC (f : α → β) (c : Ck α) : Ck β := ⟨c.x, c.y, mapS f c.ops⟩
theorem mapS_len (F : Sc α) : (mapS f F).length = F.length := by simp [mapS]
theorem mapS_app (F G : Sc α) : mapS f (F ++ G) = mapS f F ++ mapS f G := by simp [mapS]
theorem mapS_allK {F : Sc α} : allK (mapS f F) ↔ allK F := by
  unfold allK mapS
  simp only [List.mem_map]
  exact ⟨fun h o ho => h _ ⟨o, ho, rfl⟩, fun h o ⟨p, hp, he⟩ => by rw [← he]; exact h p hp⟩
theorem mapS_hdK (F : Sc α) : hdK (mapS f F) = hdK F := by
  unfold hdK mapS
  rw [List.takeWhile_map, List.length_map]
  rfl
theorem mapS_tlK (F : Sc α) : tlK (mapS f F) = tlK F := by
  unfold tlK
  rw [show (mapS f F).reverse = mapS f F.reverse by simp [mapS], mapS_hdK]
theorem mapS_touched {F : Sc α} : touched (mapS f F) ↔ touched F := by unfold touched; rw [mapS_allK, mapS_hdK, mapS_tlK]
theorem Path.unmap (hinj : ∀ x ∈ X, ∀ y ∈ Y, f x = f y → x = y) {i j i' j' : Nat} {F : Sc β} (h : Path (X.map f) (Y.map f) i j F i' j') : ∃ G, F = mapS f G ∧ Path X Y i j G i' j' := by
  induction h with
  | nil i j => exact ⟨[], rfl, .nil _ _⟩
  | keep hx hy _ ih =>
    obtain ⟨G, rfl, hG⟩ := ih
    rw [List.getElem?_map] at hx hy
    obtain ⟨x, gx, rfl⟩ := Option.map_eq_some_iff.1 hx
    obtain ⟨y, gy, he⟩ := Option.map_eq_some_iff.1 hy
    obtain rfl := hinj x (List.mem_of_getElem? gx) y (List.mem_of_getElem? gy) he.symm
    exact ⟨(32, x) :: G, rfl, .keep gx gy hG⟩
  | del hx _ ih =>
    obtain ⟨G, rfl, hG⟩ := ih
    rw [List.getElem?_map] at hx
    obtain ⟨x, gx, rfl⟩ := Option.map_eq_some_iff.1 hx
    exact ⟨(45, x) :: G, rfl, .del gx hG⟩
  | ins hy _ ih =>
    obtain ⟨G, rfl, hG⟩ := ih
    rw [List.getElem?_map] at hy
    obtain ⟨y, gy, rfl⟩ := Option.map_eq_some_iff.1 hy
    exact ⟨(43, y) :: G, rfl, .ins gy hG⟩
theorem Cov.unmap : ∀ {cs : List (Ck β)} {i j : Nat} {F : Sc α}, Cov i j cs (mapS f F) → ∃ ds : List (Ck α), cs = ds.map (mapC f) ∧ Cov i j ds F := by
  intro cs
  induction cs with
  | nil => intro i j F h; exact ⟨[], rfl, mapS_allK.1 h⟩
  | cons c cs ih =>
    intro i j F h
    obtain ⟨G, F', hG, he, hx, hy, h⟩ := h
    unfold mapS at he
    obtain ⟨F1, F2, rfl, rfl, he2⟩ := List.map_eq_append_iff.1 he
    obtain ⟨F3, F4, rfl, he3, rfl⟩ := List.map_eq_append_iff.1 he2
    rw [← he3, cX_map, cY_map] at h
    obtain ⟨ds, rfl, hd⟩ := ih h
    refine ⟨⟨c.x, c.y, F3⟩ :: ds, ?_, F1, F4, mapS_allK.1 hG, rfl, by rw [hx, List.length_map], by rw [hy, List.length_map], hd⟩
    rw [List.map_cons]
    congr 1
    obtain ⟨x, y, ops⟩ := c
    simp only at he3
    simp [mapC, mapS, he3]
theorem kept.unmap {F : Sc α} {m : Nat × Nat} (h : kept (mapS f F) m) : kept F m := by
  obtain ⟨F1, a, F2, he, h1, h2⟩ := h
  unfold mapS at he
  obtain ⟨G1, G2, rfl, rfl, he2⟩ := List.map_eq_append_iff.1 he
  obtain ⟨o, G3, rfl, ho, rfl⟩ := List.map_eq_cons_iff.1 he2
  obtain ⟨s, b⟩ := o
  injection ho with h3 h4
  simp only at h3
  subst h3
  rw [cX_map] at h1
  rw [cY_map] at h2
  exact ⟨G1, b, G3, rfl, h1, h2⟩
theorem head_unmap {F : Sc α} (h : ∃ a r, mapS f F = (32, a) :: r) : ∃ a r, F = (32, a) :: r := by
  obtain ⟨a, r, he⟩ := h
  unfold mapS at he
  obtain ⟨o, G, rfl, ho, rfl⟩ := List.map_eq_cons_iff.1 he
  obtain ⟨s, b⟩ := o
  injection ho with h3 h4
  simp only at h3
  subst h3
  exact ⟨b, G, rfl⟩
theorem DFin.unmap (hinj : ∀ x ∈ X, ∀ y ∈ Y, f x = f y → x = y) {M : List (Nat × Nat)} {cs : List (Ck β)} {F : Sc β} (h : DFin (X.map f) (Y.map f) M cs F) : ∃ ds G, cs = ds.map (mapC f) ∧ F = mapS f G ∧ DFin X Y M ds G := by
  obtain ⟨G, rfl, hG⟩ := h.path.unmap hinj
  obtain ⟨ds, rfl, hd⟩ := h.cov.unmap
  rw [List.length_map, List.length_map] at hG
  refine ⟨ds, G, rfl, rfl, hG, hd, fun s m h1 h2 h3 => (h.kept s m h1 h2 h3).unmap, fun c hc => ?_, fun c hc => ?_⟩
  · exact mapS_touched.1 (h.out (mapC f c) (List.mem_map_of_mem hc))
  · exact head_unmap (h.later (mapC f c) (by rw [← List.map_tail]; exact List.mem_map_of_mem hc))
theorem Once.unmap (hX : ∀ x ∈ X, ∀ y ∈ Y, f x = f y → x = y) {m : Nat × Nat} (h : Once (X.map f) (Y.map f) m) : Once X Y m := by
  obtain ⟨a, h1, h2, h3, h4⟩ := h
  rw [List.getElem?_map] at h1 h2
  obtain ⟨x, hx, rfl⟩ := Option.map_eq_some_iff.1 h1
  obtain ⟨y, hy, he⟩ := Option.map_eq_some_iff.1 h2
  obtain rfl := hX x (List.mem_of_getElem? hx) y (List.mem_of_getElem? hy) he.symm
  exact ⟨x, hx, hy, fun i hi => h3 i (by rw [List.getElem?_map, hi]; rfl), fun i hi => h4 i (by rw [List.getElem?_map, hi]; rfl)⟩
theorem Matches.unmap (hX : ∀ x ∈ X, ∀ y ∈ Y, f x = f y → x = y) {M : List (Nat × Nat)} (h : Matches (X.map f) (Y.map f) M) : Matches X Y M :=
  ⟨h.first, fun t m h1 h2 => by have := h.last t m h1 h2; rwa [List.length_map, List.length_map] at this, fun t m h1 h2 h3 => (h.real t m h1 h2 h3).unmap hX, h.rise, h.two, h.strict⟩
end
theorem inj_lns (a b : List UInt8) : ∀ x ∈ lns a, ∀ y ∈ lns b, mark x = mark y → x = y := fun _ hx _ hy h => mark_inj (lns_line hx) (lns_line hy) h
/- what Cov gives of the parts: they are of the script -/
theorem Cov.mem {α : Type} : ∀ {cs : List (Ck α)} {i j : Nat} {F : Sc α}, Cov i j cs F → ∀ c ∈ cs, ∀ o ∈ c.ops, o ∈ F := by
  intro cs
  induction cs with
  | nil => intro _ _ _ _ c hc; cases hc
  | cons d cs ih =>
    intro i j F h c hc o ho
    obtain ⟨G, F', _, rfl, _, _, h⟩ := h
    rcases List.mem_cons.1 hc with rfl | hc
    · exact List.mem_append_right _ (List.mem_append_left _ ho)
    · exact List.mem_append_right _ (List.mem_append_right _ (ih h c hc o ho))
theorem Path.mem {α : Type} {X Y : List α} {i j i' j' : Nat} {F : Sc α} (h : Path X Y i j F i' j') : ∀ o ∈ F, o.2 ∈ X ∨ o.2 ∈ Y := by
  induction h with
  | nil => intro o ho; cases ho
  | keep hx _ _ ih => intro o ho; rcases List.mem_cons.1 ho with rfl | ho; exact .inl (List.mem_of_getElem? hx); exact ih o ho
  | del hx _ ih => intro o ho; rcases List.mem_cons.1 ho with rfl | ho; exact .inl (List.mem_of_getElem? hx); exact ih o ho
  | ins hy _ ih => intro o ho; rcases List.mem_cons.1 ho with rfl | ho; exact .inr (List.mem_of_getElem? hy); exact ih o ho
theorem DFin.lines {a b : List UInt8} {M : List (Nat × Nat)} {cs : List (Ck (List UInt8))} {F : Sc (List UInt8)} (h : DFin (lns a) (lns b) M cs F) : ∀ c ∈ cs, ∀ p ∈ c.ops, p.1 ≠ 10 ∧ isLine p.2 := by
  intro c hc p hp
  have hF := h.cov.mem c hc p hp
  refine ⟨?_, ?_⟩
  · rcases h.path.signs p hF with h1 | h1 | h1 <;> rw [h1] <;> decide
  · rcases h.path.mem p hF with h1 | h1 <;> exact lns_line h1
/- the lines of a diff of two texts -/
theorem df_read {a b o n : List UInt8} {M : List (Nat × Nat)} {cs : List (Ck (List UInt8))} {F : Sc (List UInt8)} (ho : 10 ∉ o) (hn : 10 ∉ n) (h : DFin (dl a) (dl b) M cs F) :
    ∃ ds G, DFin (lns a) (lns b) M ds G ∧ lns (hdr o n ++ (cs.map ckText).flatten) = dfLns o n ds := by
  rw [dl_eq, dl_eq] at h
  obtain ⟨ds, G, rfl, rfl, hd⟩ := h.unmap (inj_lns a b)
  exact ⟨ds, G, hd, df_lns ho hn hd.lines⟩
/- a diff of texts that differ has hunks -/
theorem DFin.some {a b : List UInt8} {M : List (Nat × Nat)} {cs : List (Ck (List UInt8))} {F : Sc (List UInt8)} (h : DFin (lns a) (lns b) M cs F) (hne : a ≠ b) : cs ≠ [] := by
  rintro rfl
  have hk : allK F := h.cov
  have := same_of_keep h.path hk
  exact hne (by rw [← lns_flat a, this, lns_flat])
end Go.Proofs.YtncjclmhdhimdaaDoor
