/- Scripts that turn one list of lines into another: their steps, how hunks cover them, and what a round of the diff's main loop does to them. No program in sight. -/
import Derived.Lib.Hide
namespace Go.Proofs.YtncjclmhdhimdaaDoor

abbrev Sc (α : Type) := List (UInt8 × α)
structure Ck (α : Type) where
  x : Nat
  y : Nat
  ops : Sc α
def cX {α : Type} (F : Sc α) : Nat := F.countP (fun o => o.1 != 43)
def cY {α : Type} (F : Sc α) : Nat := F.countP (fun o => o.1 != 45)
def allK {α : Type} (F : Sc α) : Prop := ∀ o ∈ F, o.1 = 32
inductive Path {α : Type} (X Y : List α) : Nat → Nat → Sc α → Nat → Nat → Prop
  | nil (i j : Nat) : Path X Y i j [] i j
  | keep {i j i' j' : Nat} {a : α} {t : Sc α} (hx : X[i]? = some a) (hy : Y[j]? = some a) (h : Path X Y (i + 1) (j + 1) t i' j') : Path X Y i j ((32, a) :: t) i' j'
  | del {i j i' j' : Nat} {a : α} {t : Sc α} (hx : X[i]? = some a) (h : Path X Y (i + 1) j t i' j') : Path X Y i j ((45, a) :: t) i' j'
  | ins {i j i' j' : Nat} {a : α} {t : Sc α} (hy : Y[j]? = some a) (h : Path X Y i (j + 1) t i' j') : Path X Y i j ((43, a) :: t) i' j'

variable {α : Type} {X Y : List α}

theorem cX_nil : cX ([] : Sc α) = 0 := rfl
theorem cY_nil : cY ([] : Sc α) = 0 := rfl
theorem cX_app (F G : Sc α) : cX (F ++ G) = cX F + cX G := by simp [cX]
theorem cY_app (F G : Sc α) : cY (F ++ G) = cY F + cY G := by simp [cY]
theorem cX_cons (o : UInt8 × α) (F : Sc α) : cX (o :: F) = cX F + if o.1 = 43 then 0 else 1 := by
  unfold cX; rw [List.countP_cons]; by_cases h : o.1 = 43 <;> simp [h]
theorem cY_cons (o : UInt8 × α) (F : Sc α) : cY (o :: F) = cY F + if o.1 = 45 then 0 else 1 := by
  unfold cY; rw [List.countP_cons]; by_cases h : o.1 = 45 <;> simp [h]
theorem cX_keep {F : Sc α} (h : allK F) : cX F = F.length := by
  unfold cX; rw [List.countP_eq_length]; intro o ho; rw [h o ho]; decide
theorem cY_keep {F : Sc α} (h : allK F) : cY F = F.length := by
  unfold cY; rw [List.countP_eq_length]; intro o ho; rw [h o ho]; decide
theorem allK_app {F G : Sc α} : allK (F ++ G) ↔ allK F ∧ allK G := by
  unfold allK; simp only [List.mem_append]
  exact ⟨fun h => ⟨fun o ho => h o (.inl ho), fun o ho => h o (.inr ho)⟩, fun h o ho => ho.elim (h.1 o) (h.2 o)⟩
theorem allK_nil : allK ([] : Sc α) := fun _ h => by cases h

theorem Path.app {i j i1 j1 i2 j2 : Nat} {F G : Sc α} (h : Path X Y i j F i1 j1) (h2 : Path X Y i1 j1 G i2 j2) : Path X Y i j (F ++ G) i2 j2 := by
  induction h with
  | nil => exact h2
  | keep hx hy _ ih => exact .keep hx hy (ih h2)
  | del hx _ ih => exact .del hx (ih h2)
  | ins hy _ ih => exact .ins hy (ih h2)
theorem Path.ends {i j i' j' : Nat} {F : Sc α} (h : Path X Y i j F i' j') : i' = i + cX F ∧ j' = j + cY F := by
  induction h with
  | nil => simp [cX_nil, cY_nil]
  | keep _ _ _ ih => rw [cX_cons, cY_cons]; simp; omega
  | del _ _ ih => rw [cX_cons, cY_cons]; simp; omega
  | ins _ _ ih => rw [cX_cons, cY_cons]; simp; omega
theorem Path.head {i j i' j' : Nat} {o : UInt8 × α} {t : Sc α} (h : Path X Y i j (o :: t) i' j') :
    (o.1 = 32 ∧ X[i]? = some o.2 ∧ Y[j]? = some o.2 ∧ Path X Y (i + 1) (j + 1) t i' j') ∨ (o.1 = 45 ∧ X[i]? = some o.2 ∧ Path X Y (i + 1) j t i' j') ∨ (o.1 = 43 ∧ Y[j]? = some o.2 ∧ Path X Y i (j + 1) t i' j') := by
  cases h with
  | keep hx hy h => exact .inl ⟨rfl, hx, hy, h⟩
  | del hx h => exact .inr (.inl ⟨rfl, hx, h⟩)
  | ins hy h => exact .inr (.inr ⟨rfl, hy, h⟩)
theorem Path.split : ∀ {F G : Sc α} {i j i' j' : Nat}, Path X Y i j (F ++ G) i' j' → Path X Y i j F (i + cX F) (j + cY F) ∧ Path X Y (i + cX F) (j + cY F) G i' j' := by
  intro F
  induction F with
  | nil => intro G i j i' j' h; exact ⟨.nil _ _, h⟩
  | cons o F ih =>
    intro G i j i' j' h
    obtain ⟨s, a⟩ := o
    rw [cX_cons, cY_cons]
    rcases Path.head h with ⟨hs, hx, hy, h⟩ | ⟨hs, hx, h⟩ | ⟨hs, hy, h⟩
    · obtain ⟨h1, h2⟩ := ih h
      simp only at hs hx hy
      subst hs
      rw [show i + (cX F + if (32 : UInt8) = 43 then 0 else 1) = i + 1 + cX F by simp; omega, show j + (cY F + if (32 : UInt8) = 45 then 0 else 1) = j + 1 + cY F by simp; omega]
      exact ⟨.keep hx hy h1, h2⟩
    · obtain ⟨h1, h2⟩ := ih h
      simp only at hs hx
      subst hs
      rw [show i + (cX F + if (45 : UInt8) = 43 then 0 else 1) = i + 1 + cX F by simp; omega, show j + (cY F + if (45 : UInt8) = 45 then 0 else 1) = j + cY F by simp]
      exact ⟨.del hx h1, h2⟩
    · obtain ⟨h1, h2⟩ := ih h
      simp only at hs hy
      subst hs
      rw [show i + (cX F + if (43 : UInt8) = 43 then 0 else 1) = i + cX F by simp, show j + (cY F + if (43 : UInt8) = 45 then 0 else 1) = j + 1 + cY F by simp; omega]
      exact ⟨.ins hy h1, h2⟩
theorem Path.signs {i j i' j' : Nat} {F : Sc α} (h : Path X Y i j F i' j') : ∀ o ∈ F, o.1 = 32 ∨ o.1 = 45 ∨ o.1 = 43 := by
  induction h with
  | nil => intro o ho; cases ho
  | keep _ _ _ ih => intro o ho; rcases List.mem_cons.1 ho with rfl | ho; exact .inl rfl; exact ih o ho
  | del _ _ ih => intro o ho; rcases List.mem_cons.1 ho with rfl | ho; exact .inr (.inl rfl); exact ih o ho
  | ins _ _ ih => intro o ho; rcases List.mem_cons.1 ho with rfl | ho; exact .inr (.inr rfl); exact ih o ho
theorem Path.le {i j i' j' : Nat} {F : Sc α} (h : Path X Y i j F i' j') : (i ≤ X.length → i' ≤ X.length) ∧ (j ≤ Y.length → j' ≤ Y.length) := by
  induction h with
  | nil => exact ⟨id, id⟩
  | keep hx hy _ ih =>
    have h1 := (List.getElem?_eq_some_iff.1 hx).1
    have h2 := (List.getElem?_eq_some_iff.1 hy).1
    exact ⟨fun _ => ih.1 (by omega), fun _ => ih.2 (by omega)⟩
  | del hx _ ih =>
    have h1 := (List.getElem?_eq_some_iff.1 hx).1
    exact ⟨fun _ => ih.1 (by omega), ih.2⟩
  | ins hy _ ih =>
    have h2 := (List.getElem?_eq_some_iff.1 hy).1
    exact ⟨ih.1, fun _ => ih.2 (by omega)⟩

/- the lines from one place on, with a sign -/
def part (s : UInt8) (X : List α) (i d : Nat) : Sc α := ((X.drop i).take d).map fun a => (s, a)
theorem part_zero (s : UInt8) (X : List α) (i : Nat) : part s X i 0 = [] := by simp [part]
theorem part_len {s : UInt8} {X : List α} {i d : Nat} (h : i + d ≤ X.length) : (part s X i d).length = d := by simp [part]; omega
theorem part_succ {s : UInt8} {X : List α} {i d : Nat} {a : α} (h : X[i]? = some a) : part s X i (d + 1) = (s, a) :: part s X (i + 1) d := by
  obtain ⟨hi, rfl⟩ := List.getElem?_eq_some_iff.1 h
  unfold part
  rw [List.drop_eq_getElem_cons hi]
  rfl
theorem part_snoc {s : UInt8} {X : List α} {i d : Nat} {a : α} (h : X[i + d]? = some a) : part s X i (d + 1) = part s X i d ++ [(s, a)] := by
  unfold part
  rw [List.take_add_one, List.getElem?_drop, h]
  simp
theorem part_add (s : UInt8) (X : List α) (i d e : Nat) : part s X i (d + e) = part s X i d ++ part s X (i + d) e := by
  unfold part
  rw [← List.map_append, List.take_add, List.drop_drop]
theorem part_K (X : List α) (i d : Nat) : allK (part 32 X i d) := by
  intro o ho
  unfold part at ho
  obtain ⟨a, _, rfl⟩ := List.mem_map.1 ho
  rfl
def Diag (X Y : List α) (i j d : Nat) : Prop := ∀ k, k < d → ∃ a, X[i + k]? = some a ∧ Y[j + k]? = some a
theorem Path.dels (Y : List α) (j : Nat) : ∀ (d i : Nat), i + d ≤ X.length → Path X Y i j (part 45 X i d) (i + d) j := by
  intro d
  induction d with
  | zero => intro i _; rw [part_zero]; exact .nil _ _
  | succ d ih =>
    intro i h
    have hx : X[i]? = some X[i] := List.getElem?_eq_getElem (by omega)
    rw [part_succ hx, show i + (d + 1) = i + 1 + d by omega]
    exact .del hx (ih (i + 1) (by omega))
theorem Path.inss (X : List α) (i : Nat) : ∀ (d j : Nat), j + d ≤ Y.length → Path X Y i j (part 43 Y j d) i (j + d) := by
  intro d
  induction d with
  | zero => intro j _; rw [part_zero]; exact .nil _ _
  | succ d ih =>
    intro j h
    have hx : Y[j]? = some Y[j] := List.getElem?_eq_getElem (by omega)
    rw [part_succ hx, show j + (d + 1) = j + 1 + d by omega]
    exact .ins hx (ih (j + 1) (by omega))
theorem Path.keeps : ∀ (d i j : Nat), Diag X Y i j d → Path X Y i j (part 32 X i d) (i + d) (j + d) := by
  intro d
  induction d with
  | zero => intro i j _; rw [part_zero]; exact .nil _ _
  | succ d ih =>
    intro i j h
    obtain ⟨a, hx, hy⟩ := h 0 (by omega)
    rw [Nat.add_zero] at hx hy
    rw [part_succ hx, show i + (d + 1) = i + 1 + d by omega, show j + (d + 1) = j + 1 + d by omega]
    exact .keep hx hy (ih (i + 1) (j + 1) fun k hk => by
      obtain ⟨a, h1, h2⟩ := h (k + 1) (by omega)
      exact ⟨a, by rw [← h1]; congr 1; omega, by rw [← h2]; congr 1; omega⟩)
theorem Diag.sub {i j d : Nat} (h : Diag X Y i j d) (k e : Nat) (he : k + e ≤ d) : Diag X Y (i + k) (j + k) e := fun q hq => by
  obtain ⟨a, h1, h2⟩ := h (k + q) (by omega)
  exact ⟨a, by rw [← h1]; congr 1; omega, by rw [← h2]; congr 1; omega⟩
theorem Diag.join {i j d e : Nat} (h : Diag X Y i j d) (h2 : Diag X Y (i + d) (j + d) e) : Diag X Y i j (d + e) := fun q hq => by
  by_cases hd : q < d
  · exact h q hd
  · obtain ⟨a, h3, h4⟩ := h2 (q - d) (by omega)
    exact ⟨a, by rw [← h3]; congr 1; omega, by rw [← h4]; congr 1; omega⟩
theorem Diag.lenX {i j d : Nat} (h : Diag X Y i j d) (hd : 0 < d) : i + d ≤ X.length ∧ j + d ≤ Y.length := by
  obtain ⟨a, h1, h2⟩ := h (d - 1) (by omega)
  have := (List.getElem?_eq_some_iff.1 h1).1
  have := (List.getElem?_eq_some_iff.1 h2).1
  omega

/- hunks cover a script: what lies between them is kept -/
def Cov : Nat → Nat → List (Ck α) → Sc α → Prop
  | _, _, [], F => allK F
  | i, j, c :: cs, F => ∃ G F', allK G ∧ F = G ++ (c.ops ++ F') ∧ c.x = i + G.length ∧ c.y = j + G.length ∧ Cov (c.x + cX c.ops) (c.y + cY c.ops) cs F'
theorem Cov.more : ∀ {cs : List (Ck α)} {i j : Nat} {F G : Sc α}, Cov i j cs F → allK G → Cov i j cs (F ++ G) := by
  intro cs
  induction cs with
  | nil => intro i j F G h hG; exact allK_app.2 ⟨h, hG⟩
  | cons c cs ih =>
    intro i j F G h hG
    obtain ⟨K, F', hK, rfl, hx, hy, h⟩ := h
    exact ⟨K, F' ++ G, hK, by simp, hx, hy, ih h hG⟩
theorem Cov.snoc {c : Ck α} : ∀ {cs : List (Ck α)} {i j : Nat} {F : Sc α}, Cov i j cs F → c.x = i + cX F → c.y = j + cY F → Cov i j (cs ++ [c]) (F ++ c.ops) := by
  intro cs
  induction cs with
  | nil =>
    intro i j F h hx hy
    have hF : allK F := h
    refine ⟨F, [], hF, by simp, by rw [hx, cX_keep hF], by rw [hy, cY_keep hF], allK_nil⟩
  | cons d cs ih =>
    intro i j F h hx hy
    obtain ⟨K, F', hK, rfl, h1, h2, h⟩ := h
    rw [cX_app, cX_app, cX_keep hK] at hx
    rw [cY_app, cY_app, cY_keep hK] at hy
    exact ⟨K, F' ++ c.ops, hK, by simp, h1, h2, ih h (by omega) (by omega)⟩

/- how many kept lines stand ahead, and at the end -/
def hdK (F : Sc α) : Nat := (F.takeWhile fun o => o.1 == 32).length
def tlK (F : Sc α) : Nat := hdK F.reverse
def touched (F : Sc α) : Prop := ¬ allK F ∧ hdK F ≤ 3 ∧ tlK F ≤ 3
theorem hdK_keep {F : Sc α} (h : allK F) : hdK F = F.length := by
  unfold hdK
  induction F with
  | nil => rfl
  | cons o F ih =>
    rw [List.takeWhile_cons, h o (List.mem_cons_self ..)]
    simp [ih fun p hp => h p (List.mem_cons_of_mem _ hp)]
theorem hdK_app_le {F G : Sc α} (h : ∀ o t, G = o :: t → o.1 ≠ 32) : hdK (F ++ G) = hdK F := by
  unfold hdK
  induction F with
  | nil =>
    cases G with
    | nil => rfl
    | cons o t => simp [h o t rfl]
  | cons o F ih =>
    rw [List.cons_append, List.takeWhile_cons, List.takeWhile_cons]
    by_cases ho : o.1 = 32
    · simp [ho, ih]
    · simp [ho]
theorem hdK_more {F G : Sc α} (h : ¬ allK F) : hdK (F ++ G) = hdK F := by
  unfold hdK
  induction F with
  | nil => exact absurd allK_nil h
  | cons o F ih =>
    rw [List.cons_append, List.takeWhile_cons, List.takeWhile_cons]
    by_cases ho : o.1 = 32
    · have : ¬ allK F := fun hF => h fun p hp => by rcases List.mem_cons.1 hp with rfl | hp; exact ho; exact hF p hp
      simp [ho, ih this]
    · simp [ho]
theorem hdK_le (F : Sc α) : hdK F ≤ F.length := by
  unfold hdK
  exact (List.takeWhile_sublist _).length_le
theorem tlK_app {F G : Sc α} (hF : ∀ o t, F = t ++ [o] → o.1 ≠ 32) (hG : allK G) : tlK (F ++ G) = G.length := by
  unfold tlK
  rw [List.reverse_append, hdK_app_le]
  · rw [hdK_keep fun o ho => hG o (List.mem_reverse.1 ho), List.length_reverse]
  · intro o t he
    exact hF o t.reverse (by rw [← List.reverse_reverse F, he]; simp)

/- a pair of places is kept by a script -/
def kept (F : Sc α) (m : Nat × Nat) : Prop := ∃ F1 a F2, F = F1 ++ (32, a) :: F2 ∧ cX F1 = m.1 ∧ cY F1 = m.2
theorem kept.more {F G : Sc α} {m : Nat × Nat} (h : kept F m) : kept (F ++ G) m := by
  obtain ⟨F1, a, F2, rfl, h1, h2⟩ := h
  exact ⟨F1, a, F2 ++ G, by simp, h1, h2⟩
theorem kept_of {H K : Sc α} {m : Nat × Nat} {e : Nat} (hK : allK K) (he : e < K.length) (h1 : m.1 = cX H + e) (h2 : m.2 = cY H + e) : kept (H ++ K) m := by
  have hk : K = K.take e ++ (K[e] :: K.drop (e + 1)) := by rw [← List.drop_eq_getElem_cons he, List.take_append_drop]
  have hT : allK (K.take e) := fun o ho => hK o (List.mem_of_mem_take ho)
  refine ⟨H ++ K.take e, K[e].2, K.drop (e + 1), ?_, ?_, ?_⟩
  · rw [List.append_assoc]
    have : K[e] = (32, K[e].2) := by rw [← hK K[e] (List.getElem_mem he)]
    rw [← this, ← hk]
  · rw [cX_app, cX_keep hT, List.length_take]; omega
  · rw [cY_app, cY_keep hT, List.length_take]; omega

/- a line that stands once in each list, at these places -/
def Once (X Y : List α) (m : Nat × Nat) : Prop := ∃ a, X[m.1]? = some a ∧ Y[m.2]? = some a ∧ (∀ i, X[i]? = some a → i = m.1) ∧ (∀ j, Y[j]? = some a → j = m.2)
/- the matches: a first pair of noughts, pairs of lines that stand once, both lengths; they rise -/
structure Matches (X Y : List α) (M : List (Nat × Nat)) : Prop where
  first : M[0]? = some (0, 0)
  last : ∀ (t : Nat) (m : Nat × Nat), M[t]? = some m → t + 1 = M.length → m = (X.length, Y.length)
  real : ∀ (t : Nat) (m : Nat × Nat), M[t]? = some m → 0 < t → t + 1 < M.length → Once X Y m
  rise : ∀ (s t : Nat) (m n : Nat × Nat), M[s]? = some m → M[t]? = some n → s ≤ t → m.1 ≤ n.1 ∧ m.2 ≤ n.2
  two : 2 ≤ M.length
  strict : ∀ (s t : Nat) (m n : Nat × Nat), M[s]? = some m → M[t]? = some n → 0 < s → s < t → t + 1 < M.length → m.1 < n.1

def Max (X Y : List α) (i j : Nat) : Prop := ¬ ∃ a, X[i]? = some a ∧ Y[j]? = some a
/- the state of the diff's main loop behind t matches: done, the current hunk, the hunks that are out -/
structure DInv (X Y : List α) (M : List (Nat × Nat)) (t dx dy cx cy : Nat) (ct : Sc α) (cs : List (Ck α)) : Prop where
  run : ∃ F0, Path X Y 0 0 (F0 ++ ct) dx dy ∧ Cov 0 0 cs F0 ∧ cx = cX F0 ∧ cy = cY F0 ∧ (∀ (s : Nat) (m : Nat × Nat), M[s]? = some m → s < t → 0 < s → s + 1 < M.length → kept (F0 ++ ct) m) ∧
    (0 < t → ∃ H K : Sc α, F0 ++ ct = H ++ K ∧ allK K ∧ ∀ (s : Nat) (m : Nat × Nat), M[s]? = some m → t ≤ s → cX H ≤ m.1 ∧ cY H ≤ m.2)
  start : t = 0 → dx = 0 ∧ dy = 0 ∧ cx = 0 ∧ cy = 0 ∧ ct = [] ∧ cs = []
  max : 0 < t → Max X Y dx dy ∧ (dx < X.length ∨ dy < Y.length)
  hd : hdK ct ≤ 3
  out : ∀ c ∈ cs, touched c.ops
  next : cs ≠ [] → ∃ a r, ct = (32, a) :: r
  later : ∀ c ∈ cs.tail, ∃ a r, c.ops = (32, a) :: r
  len : dx ≤ X.length ∧ dy ≤ Y.length

theorem DInv.init {M : List (Nat × Nat)} : DInv X Y M 0 0 0 0 0 [] [] where
  run := ⟨[], .nil _ _, allK_nil, rfl, rfl, fun s m _ h => by omega, fun h => by omega⟩
  start := fun _ => ⟨rfl, rfl, rfl, rfl, rfl, rfl⟩
  max := fun h => by omega
  hd := Nat.zero_le _
  out := fun c h => by cases h
  next := fun h => absurd rfl h
  later := fun c h => by cases h
  len := ⟨Nat.zero_le _, Nat.zero_le _⟩
/- a match that lies ahead of an end on one side lies on the last diagonal -/
theorem diag_at : ∀ (K : Sc α) (i j i' j' : Nat), Path X Y i j K i' j' → allK K → ∀ e, e < K.length → ∃ b, X[i + e]? = some b ∧ Y[j + e]? = some b := by
  intro K
  induction K with
  | nil => intro i j i' j' _ _ e he; simp at he
  | cons o K ih =>
    intro i j i' j' h hk e he
    have ho := hk o (List.mem_cons_self ..)
    rcases h.head with ⟨_, hx, hy, h⟩ | ⟨hs, _⟩ | ⟨hs, _⟩
    · cases e with
      | zero => exact ⟨o.2, hx, hy⟩
      | succ e =>
        obtain ⟨b, h1, h2⟩ := ih _ _ _ _ h (fun p hp => hk p (List.mem_cons_of_mem _ hp)) e (by simpa using he)
        exact ⟨b, by rw [← h1]; congr 1; omega, by rw [← h2]; congr 1; omega⟩
    · rw [ho] at hs; exact absurd hs (by decide)
    · rw [ho] at hs; exact absurd hs (by decide)
theorem on_diag {G H K : Sc α} {dx dy : Nat} {m : Nat × Nat} (hp : Path X Y 0 0 G dx dy) (he : G = H ++ K) (hK : allK K) (l1 : cX H ≤ m.1) (l2 : cY H ≤ m.2) (ho : Once X Y m) (hlt : m.1 < dx ∨ m.2 < dy) : m.1 < dx ∧ m.2 < dy ∧ kept G m := by
  obtain ⟨a, ha1, ha2, hu1, hu2⟩ := ho
  have hp2 := hp
  rw [he] at hp2
  obtain ⟨-, hp3⟩ := hp2.split
  rw [Nat.zero_add, Nat.zero_add] at hp3
  obtain ⟨e1, e2⟩ := hp3.ends
  rw [cX_keep hK] at e1
  rw [cY_keep hK] at e2
  rcases hlt with h1 | h1
  · obtain ⟨b, hb1, hb2⟩ := diag_at K _ _ _ _ hp3 hK (m.1 - cX H) (by omega)
    rw [show cX H + (m.1 - cX H) = m.1 by omega, ha1] at hb1
    obtain rfl := Option.some.inj hb1
    have := hu2 _ hb2
    refine ⟨h1, by omega, ?_⟩
    rw [he]
    exact kept_of (e := m.1 - cX H) hK (by omega) (by omega) (by omega)
  · obtain ⟨b, hb1, hb2⟩ := diag_at K _ _ _ _ hp3 hK (m.2 - cY H) (by omega)
    rw [show cY H + (m.2 - cY H) = m.2 by omega, ha2] at hb2
    obtain rfl := Option.some.inj hb2
    have := hu1 _ hb1
    refine ⟨by omega, h1, ?_⟩
    rw [he]
    exact kept_of (e := m.2 - cY H) hK (by omega) (by omega) (by omega)
theorem DInv.on {M : List (Nat × Nat)} {t dx dy cx cy : Nat} {ct : Sc α} {cs : List (Ck α)} (h : DInv X Y M t dx dy cx cy ct cs) (hM : Matches X Y M) {m : Nat × Nat} (hm : M[t]? = some m) (hlt : m.1 < dx ∨ m.2 < dy) :
    0 < t ∧ t + 1 < M.length ∧ m.1 < dx ∧ m.2 < dy := by
  have ht : 0 < t := by
    rcases Nat.eq_zero_or_pos t with h0 | h0
    · obtain ⟨h1, h2, _⟩ := h.start h0
      omega
    · exact h0
  have htl : t < M.length := (List.getElem?_eq_some_iff.1 hm).1
  have hlen := h.len
  have hnl : t + 1 < M.length := by
    rcases Nat.lt_or_ge (t + 1) M.length with h1 | h1
    · exact h1
    · have := hM.last t m hm (by omega)
      rw [this] at hlt
      simp only at hlt
      omega
  obtain ⟨F0, hp, _, _, _, _, hd⟩ := h.run
  obtain ⟨H, K, he, hK, hle⟩ := hd ht
  obtain ⟨l1, l2⟩ := hle t m hm (Nat.le_refl _)
  obtain ⟨k1, k2, -⟩ := on_diag hp he hK l1 l2 (hM.real t m hm ht hnl) hlt
  exact ⟨ht, hnl, k1, k2⟩
theorem DInv.skip {M : List (Nat × Nat)} {t dx dy cx cy : Nat} {ct : Sc α} {cs : List (Ck α)} (h : DInv X Y M t dx dy cx cy ct cs) (hM : Matches X Y M) {m : Nat × Nat} (hm : M[t]? = some m) (hlt : m.1 < dx) : DInv X Y M (t + 1) dx dy cx cy ct cs := by
  obtain ⟨ht, hnl, _, _⟩ := h.on hM hm (.inl hlt)
  obtain ⟨F0, hp, hc, h1, h2, hkp, hd⟩ := h.run
  obtain ⟨H, K, he, hK, hle⟩ := hd ht
  refine { h with run := ⟨F0, hp, hc, h1, h2, fun s n hs hst h0 hl => ?_, fun _ => ?_⟩, start := fun h => by omega, max := fun _ => h.max ht }
  · rcases Nat.lt_or_ge s t with h3 | h3
    · exact hkp s n hs h3 h0 hl
    · obtain rfl : s = t := by omega
      obtain rfl := Option.some.inj (hs.symm.trans hm)
      obtain ⟨l1, l2⟩ := hle s n hs (Nat.le_refl _)
      exact (on_diag hp he hK l1 l2 (hM.real s n hs ht hnl) (.inl hlt)).2.2
  · exact ⟨H, K, he, hK, fun s n hs hts => hle s n hs (by omega)⟩
end Go.Proofs.YtncjclmhdhimdaaDoor
