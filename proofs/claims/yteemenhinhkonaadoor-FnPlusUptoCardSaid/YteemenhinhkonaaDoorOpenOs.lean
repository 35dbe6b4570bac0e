/- What a row reads of options, opened: OS in memory, of small bulk. -/
import Derived.Test.YteemenhinhkonaaDoorRows
import Derived.Test.YteemenhinhkonaaDoorPlusH
import Derived.ProofKit
import Derived.Deep.Strs
import Derived.WideShapes
namespace Go.Proofs.YteemenhinhkonaaDoor
open Go.RowKit Go.ChangeShapes Go.WideShapes

theorem plain_addr {w : World} {a : Addr} {n : Nat} {V : Nat → Value} (h : ∀ i, i < n → w.cell? (a.add i) = some (V i)) (hp : 0 < n) : ∃ b off, a = ⟨b, off, none⟩ ∧ ∀ i, i < n → w.cell? ⟨b, off + i, none⟩ = some (V i) := by
  obtain ⟨b, off, spot⟩ := a
  have hspot : spot = none := by simpa [Addr.add] using World.cell?_spot (h 0 hp)
  subst hspot
  refine ⟨b, off, rfl, fun i hi => ?_⟩
  have := h i hi
  rwa [show (⟨b, off, none⟩ : Addr).add i = ⟨b, off + i, none⟩ from by unfold Addr.add; split <;> simp_all] at this
theorem bulk_all {H : Type} {α : Type} (f : α → DataW H) (g : α → Nat) : ∀ (l : List α), (∀ x ∈ l, g x ≤ Rows.uptoBulk (f x)) → (l.map g).sum ≤ Rows.uptoBulkAll (l.map f) := by
  intro l
  induction l with
  | nil => intro _; simp
  | cons x r ih =>
    intro h
    rw [List.map_cons, List.sum_cons, List.map_cons]
    simp only [Rows.uptoBulkAll]
    have := h x (by simp)
    have := ih fun y hy => h y (by simp [hy])
    omega
theorem bulk_one {H : Type} {α : Type} (f : α → DataW H) : ∀ (l : List α) (x : α), x ∈ l → Rows.uptoBulk (f x) ≤ Rows.uptoBulkAll (l.map f) := by
  intro l
  induction l with
  | nil => intro x h; cases h
  | cons y r ih =>
    intro x h
    rw [List.map_cons]
    simp only [Rows.uptoBulkAll]
    rcases List.mem_cons.1 h with rfl | h
    · omega
    · have := ih x h
      omega
theorem opt_of_trod {H : Type} {enc : TypeId × Value → H} {w : World} {spare : Nat → Bool} {held : Bool} {fuel : Nat} {u : Value} {x : DataW H × List MemPlace} (h : DataW.trod enc Tryd.prog w 0 spare held fuel 41 [u] = some x) (hb : Rows.uptoBulk x.1 ≤ 1048576) :
    ∃ ss : List (List UInt8), SS w u (ss.map mkB) ∧ bulkT ss + 1 ≤ Rows.uptoBulk x.1 := by
  rcases Go.Deep.open_strs Tryd.underlying41 Tryd.underlying9 (by kernel_rfl) h with ⟨hcs, rfl⟩ | ⟨a, len, cap, m, Sx, hcs, _, hlc, _, hm, rfl, hx⟩
  · injection hcs with hcs _
    subst hcs
    exact ⟨[], ⟨none, 0, rfl, Nat.zero_le _, fun i s hs => by simp at hs⟩, by simp [bulkT, Rows.uptoBulk]⟩
  · injection hcs with hcs _
    subst hcs
    have hlm : len ≤ m := by rw [hm]; split <;> omega
    have hsum : bulkT ((List.range len).map fun i => (Sx i).data.toList) + 1 ≤ Rows.uptoBulk (DataW.slice ((List.range len).map fun i => (DataW.lit (.string (Sx i).data.toList) : DataW H)) ((List.range (m - len)).map fun j => .lit (.string (Sx (len + j)).data.toList))) := by
      unfold bulkT
      rw [List.map_map]
      simp only [Rows.uptoBulk]
      have := bulk_all (H := H) (fun i => (DataW.lit (.string (Sx i).data.toList) : DataW H)) (fun i => 1 + (Sx i).data.toList.length) (List.range len) (fun i _ => by simp only [Rows.uptoBulk]; omega)
      have e : ((List.range len).map ((fun t : List UInt8 => 1 + t.length) ∘ fun i => (Sx i).data.toList)) = (List.range len).map fun i => 1 + (Sx i).data.toList.length := rfl
      rw [e]
      omega
    have hll : len ≤ 1048576 := by
      have h2 := Nat.le_trans hsum hb
      clear hsum hb
      have := len_sum (fun t : List UInt8 => t.length) ((List.range len).map fun i => (Sx i).data.toList)
      unfold bulkT at h2
      simp only [List.length_map, List.length_range] at this
      omega
    refine ⟨(List.range len).map fun i => (Sx i).data.toList, ⟨some a, cap, by simp, by simp; omega, fun i s hs => ?_⟩, hsum⟩
    rw [List.map_map, List.getElem?_map] at hs
    obtain ⟨j, hj, he⟩ := Option.map_eq_some_iff.1 hs
    have hil := (List.getElem?_eq_some_iff.1 hj).1
    simp only [List.length_range] at hil
    rw [List.getElem?_range hil] at hj
    injection hj with hj
    subst hj
    obtain ⟨b, off, rfl, hc⟩ := plain_addr (V := fun i => .string (Sx i)) (fun i hi => (hx i (by omega)).1) (show 0 < len by omega)
    refine ⟨b, off, rfl, ?_⟩
    rw [hc i hil]
    have : s = Sx i := he.symm
    rw [this]
theorem os_of_trod {H : Type} {enc : TypeId × Value → H} {w : World} {spare : Nat → Bool} {held : Bool} {fuel : Nat} {v : Value} {x : DataW H × List MemPlace} (h : DataW.trod enc Tryd.prog w 0 spare held fuel 38 [v] = some x) (hb : Rows.uptoBulk x.1 ≤ 1048576) :
    ∃ os, OS w v os ∧ bulkO os + 1 ≤ Rows.uptoBulk x.1 := by
  rcases Go.Deep.open_slice1 Tryd.underlying38 (by kernel_rfl) h with ⟨hcs, rfl⟩ | ⟨a, len, cap, m, n, V, D, Pl, hcs, _, hlc, _, hm, rfl, hx⟩
  · injection hcs with hcs _
    subst hcs
    exact ⟨[], ⟨none, 0, rfl, fun i s hs => by simp at hs⟩, by simp [bulkO, Rows.uptoBulk]⟩
  · injection hcs with hcs _
    subst hcs
    have hlm : len ≤ m := by rw [hm]; split <;> omega
    simp only [Rows.uptoBulk] at hb
    have hD : ∀ i, i < len → Rows.uptoBulk (D i) ≤ 1048576 := fun i hi => by
      have := bulk_one D (List.range len) i (List.mem_range.2 hi)
      omega
    obtain ⟨F, hF⟩ := Classical.axiomOfChoice (r := fun (i : Nat) (ss : List (List UInt8)) => i < len → SS w (V i) (ss.map mkB) ∧ bulkT ss + 1 ≤ Rows.uptoBulk (D i)) (fun i => by
      by_cases hi : i < len
      · obtain ⟨ss, h1, h2⟩ := opt_of_trod (hx i (by omega)).2 (hD i hi)
        exact ⟨ss, fun _ => ⟨h1, h2⟩⟩
      · exact ⟨[], fun h => absurd h hi⟩)
    refine ⟨(List.range len).map F, ⟨some a, cap, by simp, fun i o ho => ?_⟩, ?_⟩
    · rw [List.getElem?_map] at ho
      obtain ⟨j, hj, he⟩ := Option.map_eq_some_iff.1 ho
      have hil := (List.getElem?_eq_some_iff.1 hj).1
      simp only [List.length_range] at hil
      rw [List.getElem?_range hil] at hj
      injection hj with hj
      subst hj
      subst he
      obtain ⟨b, off, rfl, hc⟩ := plain_addr (V := V) (fun i hi => (hx i (by omega)).1) (show 0 < len by omega)
      exact ⟨b, off, V i, rfl, hc i hil, (hF i hil).1⟩
    · unfold bulkO
      rw [List.map_map]
      simp only [Rows.uptoBulk]
      have := bulk_all D (fun i => 1 + bulkT (F i)) (List.range len) (fun i hi => by have := (hF i (List.mem_range.1 hi)).2; omega)
      have e : ((List.range len).map ((fun o => 1 + bulkT o) ∘ F)) = (List.range len).map fun i => 1 + bulkT (F i) := rfl
      rw [e]
      omega
end Go.Proofs.YteemenhinhkonaaDoor
