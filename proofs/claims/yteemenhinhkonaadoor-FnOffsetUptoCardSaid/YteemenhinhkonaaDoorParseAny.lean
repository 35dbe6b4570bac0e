/- Parse at a line //go:build with whatever stands behind it, without a newline. -/
import Derived.Test.YteemenhinhkonaaDoorBridge
namespace Go.Proofs.YteemenhinhkonaaDoor
open Go.RowKit

def IpAny (n : Nat) (w : World) (en : Ending) (w' : World) : Prop := Below w.heap.size w w' ∧
  ((∃ (x : Ex) (c0 c1 c2 : Value), en = .returned (.tuple #[.agg #[c0, c1, c2], .int .i64 0, .bool true]) ∧ XIs (fun b => w.heap.size ≤ b) w' x c0 c1 c2) ∨
   (∃ off : Int, en = .returned (.tuple #[.agg #[.int .i64 0, .string { data := #[] }, .slice none 0 0], .int .i64 off, .bool false]) ∧ 0 ≤ off ∧ off ≤ n + 1))
theorem parse_any (L : ByteArray) (l : List UInt8) (w : World) (hL : L.data.toList = goWord ++ 32 :: l) (h10 : 10 ∉ l) (hs : l.length ≤ 1000000000) (hT : Tabs w) :
    Calls Tryd.prog 15 #[.string L] w (IpAny l.length w) := by
  obtain ⟨r', b, h1, h2⟩ := go_split l
  have hsz : L.size = 11 + l.length := by
    have e1 : L.data.toList.length = L.size := by simp
    rw [← e1, hL]
    simp [goWord]
    omega
  have hn : hasByte L 10 = false := by
    unfold hasByte
    rw [hL, List.any_append, List.any_cons, show l.any (· == (10 : UInt8)) = false by
      rw [List.any_eq_false]
      intro c hc e
      have e : c = 10 := by simpa using e
      exact h10 (e ▸ hc)]
    rfl
  refine (implParse_of (toks tlG (Lib.trimSpaceD r')).length L (mkB (Lib.trimSpaceD r')) w fun w' hb => conParse_any _ L l r' b w' hL hn (by omega) h1 h2 (Nat.le_refl _) (hT.below hb)).mono ?_
  rintro en w' ⟨hb, h⟩
  have hle := trim_length r'
  have hr := congrArg List.length h2
  rw [List.length_append, List.length_cons] at hr
  refine ⟨hb, ?_⟩
  rcases h with ⟨x, c0, c1, c2, -, he, hx⟩ | ⟨-, off, he, ho1, ho2⟩
  · exact .inl ⟨x, c0, c1, c2, he, hx⟩
  · rw [mkB_size] at ho2
    exact .inr ⟨off, he, ho1, by omega⟩
end Go.Proofs.YteemenhinhkonaaDoor
