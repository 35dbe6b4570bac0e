/- Parse of a text with the same tokens. -/
import Derived.Test.YteemenhinhkonaaDoorBridge
namespace Go.Proofs.YteemenhinhkonaaDoor
open Go.RowKit

theorem parse_same {n : Nat} {l l' : List UInt8} {x : Ex} (L : ByteArray) (w : World) (hL : L.data.toList = goWord ++ 32 :: l') (hp : l'.all plainB = true) (hA : tA l' = tA l) (hr : Rd n l x) (hl : l.length ≤ 1998) (hl' : l'.length ≤ 1998) (hT : Tabs w) : Calls Tryd.prog 15 #[.string L] w (ParPost x w) := by
  have e : ∀ N, gRead N l' = gRead N l := fun N => by unfold gRead; rw [hA]
  refine (implParse_plain (max n (tA l').length) L l' w hL hp (by omega) (Nat.le_max_right _ _) hT).mono ?_
  rintro en w' ⟨hb, ⟨y, c0, c1, c2, hg, rfl, hy⟩ | ⟨hg, -⟩⟩
  · rw [e, gRead_of hr hl (Nat.le_max_left _ _)] at hg
    injection hg with hg
    subst hg
    exact ⟨c0, c1, c2, rfl, hy, hb⟩
  · rw [e, gRead_of hr hl (Nat.le_max_left _ _)] at hg
    cases hg
end Go.Proofs.YteemenhinhkonaaDoor
