/- append to a slice that the call itself owns, with the two ways it can go. Nothing of the program is in it. -/
import Derived.Test.YteemenhinhkonaaDoorBase
namespace Go.Proofs.YteemenhinhkonaaDoor
open Go.RowKit
/- append to a row of the call's own: it stays where it lay, or it lies in a new block and nothing that was there has turned -/
theorem run_append_own2 {P : Program} (w : World) (base : Nat) (t ty e : TypeId) (i : TypeInfo) (z : Value) (size bytes : Nat) (ht : P.underlying t = some (.slice e)) (hi : P.info? e = some i) (hz : i.zero = some z)
    (hsize : i.size = size) (hby : i.bytes = bytes) (hzs : z.cells.size = size) (hsz : 0 < size)
    (v : Value) (n : Nat) (xs : List Value) (hown : w.ownsRow base e size v n xs)
    (a : Addr) (m c : Nat) (news : List Value) (hl : news.length = m * size) (hnews : ∀ j u, news[j]? = some u → w.cell? (a.add j) = some u) (h1 : ∀ u ∈ news, u.oneCell' = true)
    (h63 : n + m ≤ maxLen) (hbytes : (n + m) * bytes ≤ 140737488355328) (hbase : base ≤ w.heap.size) :
    ∃ v' w', (Builtin.append_ #[t, t] ty #[v, .slice (some a) m c]).run P w = .ok v' w' ∧ w'.ownsRow base e size v' (n + m) (xs ++ news) ∧
      ((v'.ownBlock = v.ownBlock ∧ w.grownBy w' v.ownBlock) ∨ (v'.ownBlock = some w.heap.size ∧ Below w.heap.size w w')) := by
  by_cases hcase : v = .slice none 0 0 ∨ ∃ g cap, v = .slice (some g) n cap ∧ cap < n + m
  · obtain ⟨v', w', hr, ho, hg, _, hat⟩ := run_append_own_at (P := P) w base t ty e i z size bytes ht hi hz hsize hby hzs hsz v n xs hown a m c news hl hnews h1 h63 hbytes hbase
    refine ⟨v', w', hr, ho, ?_⟩
    rcases hcase with hv | ⟨g, cap, hv, hlt⟩
    · rcases hat with hat | hat
      · exact .inl ⟨hat, hg⟩
      · refine .inr ⟨hat, hg.os, hg.tape, hg.output, hg.size, fun b hb => hg.block b hb ?_⟩
        rw [hv]
        simp [Value.ownBlock]
    · have holds : ∀ j u, xs[j]? = some u → w.cell? (g.add j) = some u := by
        obtain ⟨g', _, hcell⟩ : ∃ g', g = ⟨g', 0, none⟩ ∧ ∀ j u, xs[j]? = some u → w.cell? ((⟨g', 0, none⟩ : Addr).add j) = some u := by
          rcases hown.2 with ⟨hv', _⟩ | ⟨g', cap', cur, hv', _⟩
          · rw [hv] at hv'; cases hv'
          · rw [hv] at hv'
            injection hv' with hv'
            injection hv' with hv'
            exact ⟨g', hv', hown.cells (g := g') (by rw [hv, hv']; rfl)⟩
        subst g
        exact hcell
      subst hsize
      subst hby
      have hr2 := run_append_grow (P := P) w t ty e i z ht hi hz g n cap xs hown.1 holds a m c news hl hnews (by omega) (by simp only [maxLen] at h63; omega) (growslice_fits (by omega) hbytes)
      rw [hv] at hr
      rw [hr2] at hr
      injection hr with hr3 hr4
      refine .inr ⟨by rw [← hr3]; rfl, ?_⟩
      rw [← hr4]
      exact ((Below.refl _ _).drew).alloc (Nat.le_refl _) _
  · obtain ⟨v', w', hr, ho, hg, _, hat⟩ := run_append_own_at (P := P) w base t ty e i z size bytes ht hi hz hsize hby hzs hsz v n xs hown a m c news hl hnews h1 h63 hbytes hbase
    rcases hown.2 with ⟨hv, _⟩ | ⟨g, cap, cur, hv, hbg, hgb, hnc, hcm, hcs, htake⟩
    · exact absurd (.inl hv) hcase
    · have hroom : n + m ≤ cap := by
        apply Decidable.byContradiction
        intro hn
        exact hcase (.inr ⟨_, cap, hv, by omega⟩)
      refine ⟨v', w', hr, ho, .inl ⟨?_, hg⟩⟩
      subst hsize
      have hfit : n * i.size + news.length ≤ cur.size := by rw [hl, hcs, ← Nat.add_mul]; exact Nat.mul_le_mul_right _ hroom
      have hr2 := run_append_room (P := P) w t ty e i ht hi g n cap cur hgb a m c news hl hnews h1 hroom hfit
      rw [hv] at hr
      rw [hr2] at hr
      injection hr with hr3 hr4
      rw [← hr3, hv]
      rfl
theorem wpList_append_own2 {P : Program} {w : World} {ops : Array Oper} {rest : List Oper} {o : Oper} {a : Act} {Q : Exit → Act → World → Prop} (hgd : o.guard = none) (s x : Operand) (t : TypeId)
    (ho : o.op = .call { callee := .builtin .append, args := #[s, x], argTypes := #[t, t] })
    (base : Nat) (e : TypeId) (i : TypeInfo) (z : Value) (size bytes : Nat) (ht : P.underlying t = some (.slice e)) (hi : P.info? e = some i) (hz : i.zero = some z)
    (hsize : i.size = size) (hby : i.bytes = bytes) (hzs : z.cells.size = size) (hsz : 0 < size)
    (v : Value) (n : Nat) (xs : List Value) (hs : a.eval s = v) (hown : w.ownsRow base e size v n xs)
    (ad : Addr) (m c : Nat) (news : List Value) (hx : a.eval x = .slice (some ad) m c) (hl : news.length = m * size) (hnews : ∀ j u, news[j]? = some u → w.cell? (ad.add j) = some u) (h1 : ∀ u ∈ news, u.oneCell' = true)
    (h63 : n + m ≤ maxLen) (hbytes : (n + m) * bytes ≤ 140737488355328) (hbase : base ≤ w.heap.size)
    (h : ∀ v' w', w'.ownsRow base e size v' (n + m) (xs ++ news) → ((v'.ownBlock = v.ownBlock ∧ w.grownBy w' v.ownBlock) ∨ (v'.ownBlock = some w.heap.size ∧ Below w.heap.size w w')) → wpList P ops Q rest (a.put o.dst v') w') :
    wpList P ops Q (o :: rest) a w := by
  refine wpList_plain hgd fun K hK => ?_
  obtain ⟨v', w', hr, h2, h3⟩ := run_append_own2 (P := P) w base t o.type e i z size bytes ht hi hz hsize hby hzs hsz v n xs hown ad m c news hl hnews h1 h63 hbytes hbase
  unfold Oper.wp execOp
  simp only [ho, resolve, invoke, builtin, Sem.run_bind, Sem.run_pure, Result.andThen_ok, List.map_toArray, List.map_cons, List.map_nil, hs, hx, hr]
  exact hK _ _ (h v' w' h2 h3)
theorem step_append_own2 {P : Program} {w : World} {ops : Array Oper} {o : Oper} {a : Act} {K : Act → World → Prop} {Q : Exit → Act → World → Prop} {E : Prop} (hg : o.guard = none) (s x : Operand) (t : TypeId)
    (ho : o.op = .call { callee := .builtin .append, args := #[s, x], argTypes := #[t, t] })
    (base : Nat) (e : TypeId) (i : TypeInfo) (z : Value) (size bytes : Nat) (ht : P.underlying t = some (.slice e)) (hi : P.info? e = some i) (hz : i.zero = some z)
    (hsize : i.size = size) (hby : i.bytes = bytes) (hzs : z.cells.size = size) (hsz : 0 < size)
    (v : Value) (n : Nat) (xs : List Value) (hs : a.eval s = v) (hown : w.ownsRow base e size v n xs)
    (ad : Addr) (m c : Nat) (news : List Value) (hx : a.eval x = .slice (some ad) m c) (hl : news.length = m * size) (hnews : ∀ j u, news[j]? = some u → w.cell? (ad.add j) = some u) (h1 : ∀ u ∈ news, u.oneCell' = true)
    (h63 : n + m ≤ maxLen) (hbytes : (n + m) * bytes ≤ 140737488355328) (hbase : base ≤ w.heap.size)
    (h : ∀ v' w', w'.ownsRow base e size v' (n + m) (xs ++ news) → ((v'.ownBlock = v.ownBlock ∧ w.grownBy w' v.ownBlock) ∨ (v'.ownBlock = some w.heap.size ∧ Below w.heap.size w w')) → K (a.put o.dst v') w') :
    if Region.wanted o (yielded ops a.tmps) = true then Oper.wp P o a w K Q else E := by
  have hw : Region.wanted o (yielded ops a.tmps) = true := by simp [Region.wanted, hg]
  rw [if_pos hw]
  obtain ⟨v', w', hr, h2, h3⟩ := run_append_own2 (P := P) w base t o.type e i z size bytes ht hi hz hsize hby hzs hsz v n xs hown ad m c news hl hnews h1 h63 hbytes hbase
  unfold Oper.wp execOp
  simp only [ho, resolve, invoke, builtin, Sem.run_bind, Sem.run_pure, Result.andThen_ok, List.map_toArray, List.map_cons, List.map_nil, hs, hx, hr]
  exact h v' w' h2 h3
end Go.Proofs.YteemenhinhkonaaDoor
