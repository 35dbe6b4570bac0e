/- What the reference reads, the package's Parse reads too; what it finds wrong, Parse does not read. -/
import Derived.Test.YteemenhinhkonaaDoorJoin
import Derived.Test.YteemenhinhkonaaDoorParse
import Derived.Test.YteemenhinhkonaaDoorReadF
import Derived.Test.YteemenhinhkonaaDoorTok3
namespace Go.Proofs.YteemenhinhkonaaDoor
open Go.RowKit

theorem gRead_of {n N : Nat} {l : List UInt8} {x : Ex} (h : Rd n l x) (hl : l.length ≤ 1998) (hN : n ≤ N) : gRead N l = some x := by
  obtain ⟨z, -, -, hz⟩ := orP_fwd n l x [] 0 h rfl (by simp; omega)
  have := gOr_le hN _ _ _ hz
  unfold gRead
  rw [show tA [] = [] from rfl] at this
  rw [this]
theorem gRead_not {N : Nat} {l : List UInt8} (h : ∀ n y, orP (pOr n) l ≠ some (y, [])) : gRead N l = none := by
  cases hg : gRead N l with
  | none => rfl
  | some x =>
    exfalso
    unfold gRead at hg
    split at hg
    · rename_i y z he
      obtain ⟨r, hr, ht⟩ := orP_bwd N l y [] 0 z he
      have hs := orP_skipped hr
      rcases tA_inv r with ⟨h1, _⟩ | ⟨a, q, _, _, h3⟩ | ⟨a, q, _, _, h3⟩ | ⟨a, q, _, _, h3⟩ | h3
      · rw [hs] at h1
        rw [h1] at hr
        exact h N y hr
      all_goals (rw [ht] at h3; cases h3)
    · cases hg
def ParPost (x : Ex) (w : World) (en : Ending) (w' : World) : Prop := ∃ c0 c1 c2, en = .returned (.tuple #[.agg #[c0, c1, c2], .int .i64 0, .bool true]) ∧ XIs (fun b => w.heap.size ≤ b) w' x c0 c1 c2 ∧ Below w.heap.size w w'
theorem parse_is {n : Nat} {l : List UInt8} {x : Ex} (L : ByteArray) (w : World) (hL : L.data.toList = goWord ++ 32 :: l) (hp : l.all plainB = true) (hr : Rd n l x) (hl : l.length ≤ 1998) (hT : Tabs w) : Calls Tryd.prog 15 #[.string L] w (ParPost x w) := by
  refine (implParse_plain (max n (tA l).length) L l w hL hp (by omega) (Nat.le_max_right _ _) hT).mono ?_
  rintro en w' ⟨hb, ⟨y, c0, c1, c2, hg, rfl, hy⟩ | ⟨hg, -⟩⟩
  · rw [gRead_of hr hl (Nat.le_max_left _ _)] at hg
    injection hg with hg
    subst hg
    exact ⟨c0, c1, c2, rfl, hy, hb⟩
  · rw [gRead_of hr hl (Nat.le_max_left _ _)] at hg
    cases hg
def NoPost (w : World) (m : Nat) (en : Ending) (w' : World) : Prop := ∃ off : Int, en = .returned (.tuple #[.agg #[.int .i64 0, .string { data := #[] }, .slice none 0 0], .int .i64 off, .bool false]) ∧ 0 ≤ off ∧ off ≤ m ∧ Below w.heap.size w w'
theorem parse_no {l : List UInt8} (L : ByteArray) (w : World) (hL : L.data.toList = goWord ++ 32 :: l) (hp : l.all plainB = true) (hr : ∀ n y, orP (pOr n) l ≠ some (y, [])) (hl : l.length ≤ 1998) (hT : Tabs w) : Calls Tryd.prog 15 #[.string L] w (NoPost w (l.length + 1)) := by
  refine (implParse_plain (tA l).length L l w hL hp (by omega) (Nat.le_refl _) hT).mono ?_
  rintro en w' ⟨hb, ⟨y, c0, c1, c2, hg, rfl, hy⟩ | ⟨hg, off, h1, h2, h3⟩⟩
  · rw [gRead_not hr] at hg
    cases hg
  · exact ⟨off, h1, h2, by omega, hb⟩
theorem textOk_plain {s : ByteArray} (h : textOk s = true) : s.data.toList.all plainB = true := h
theorem dropB_zero (s : ByteArray) : dropB s 0 = s.data.toList := rfl
end Go.Proofs.YteemenhinhkonaaDoor
