/- The library's tables as the call finds them, and the lengths of tags by runes. -/
import Derived.Test.YteemenhinhkonaaDoorProg
import Derived.Test.YteemenhinhkonaaDoorShelfA
import Derived.Test.YteemenhinhkonaaDoorTok
import Derived.Test.YteemenhinhkonaaDoorStr
import Derived.Shelf.Unicode.PredsPay
namespace Go.Proofs.YteemenhinhkonaaDoor
open Go.RowKit Go.Lib

def Tabs (w : World) : Prop := TabIs Tryd.prog w "unicode.properties" .u8 propertiesTab ∧ TabIs Tryd.prog w "strings.asciiSpace" .u8 asciiSpaceTab ∧ RVar 5 letterT w ∧ RVar 6 digitT w ∧ Utf8Tabs 7 8 w ∧ WhiteTab 3 w
theorem Tabs.below {w w' : World} (h : Tabs w) (hb : Below w.heap.size w w') : Tabs w' :=
  ⟨TabIs_below (by kernel_rfl : Tryd.prog.globalNamed "unicode.properties" = some 4) h.1 hb, TabIs_below (by kernel_rfl : Tryd.prog.globalNamed "strings.asciiSpace" = some 2) h.2.1 hb,
    RVar_below h.2.2.1 hb, RVar_below h.2.2.2.1 hb, Utf8Tabs_below h.2.2.2.2.1 hb, WhiteTab_below h.2.2.2.2.2 hb⟩
theorem Tabs.heap {w w' : World} (h : Tabs w) (hh : w'.heap = w.heap) : Tabs w' := by
  have h1 : Tabs { w with heap := w'.heap } := h.below ⟨rfl, rfl, rfl, by simp [hh], fun b hb => by simp [hh]⟩
  exact h1
/- the tables lie below block n -/
def TabsN (n : Nat) (w : World) : Prop := ∀ w' : World, (∀ b, b < n → w'.heap[b]? = w.heap[b]?) → Tabs w'
theorem Tabs.upTo {w : World} (h : Tabs w) : TabsN w.heap.size w := by
  intro w' hw
  by_cases hs : w.heap.size ≤ w'.heap.size
  · have h1 : Tabs { w with heap := w'.heap } := h.below ⟨rfl, rfl, rfl, hs, fun b hb => hw b hb⟩
    exact h1
  · exfalso
    have h1 := hw w'.heap.size (by omega)
    rw [Array.getElem?_eq_none (Nat.le_refl _)] at h1
    have := (Array.getElem?_eq_none_iff.1 h1.symm)
    omega
theorem TabsN.here {n : Nat} {w : World} (h : TabsN n w) : Tabs w := h w fun _ _ => rfl
theorem TabsN.next {n : Nat} {w w' : World} (h : TabsN n w) (hk : ∀ b, b < n → w'.heap[b]? = w.heap[b]?) : TabsN n w' := fun w'' hw => h w'' fun b hb => (hw b hb).trans (hk b hb)

/- runes of tags -/
def letR (r : Int) : Bool := if latin1 r then isLetterL r else exclGo letterT r
def digR (r : Int) : Bool := if r ≤ 255 then isDigitL r else exclGo digitT r
def runeOk (r : Int) : Bool := letR r || digR r || r == 95 || r == 46
def tagEnd (s : ByteArray) : Nat → Nat → Nat
  | 0, _ => s.size
  | f + 1, pos => if pos < s.size then (if runeOk (Utf8.decode s pos).1 then tagEnd s f (pos + (Utf8.decode s pos).2) else pos) else s.size
def tlG (l : List UInt8) : Nat := tagEnd (mkB l) (l.length + 1) 0
theorem isLetter_any (r : Int) (w : World) (hlo : -2147483648 ≤ r) (hhi : r ≤ 2147483647) (h : Tabs w) : Calls Tryd.prog 96 #[.int .i32 r] w fun e w' => e = .returned (.bool (letR r)) ∧ Below w.heap.size w w' :=
  Tryd.unicode_IsLetter_any letterT r w hlo hhi h.1 h.2.2.1 letterT_ok
theorem isDigit_any (r : Int) (w : World) (hlo : -2147483648 ≤ r) (hhi : r ≤ 2147483647) (h : Tabs w) : Calls Tryd.prog 97 #[.int .i32 r] w fun e w' => e = .returned (.bool (digR r)) ∧ Below w.heap.size w w' :=
  Tryd.unicode_IsDigit_any digitT r w hlo hhi h.2.2.2.1 digitT_ok
theorem decode_any (s : ByteArray) (w : World) (h : Tabs w) : Calls Tryd.prog 95 #[.string s] w fun e w' => e = .returned (.tuple #[.int .i32 (decodeGo s).1, .int .i64 (decodeGo s).2]) ∧ Below w.heap.size w w' :=
  Tryd.utf8_DecodeRuneInString s w h.2.2.2.2.1
theorem trim_any (s : ByteArray) (w : World) (hs : s.size ≤ 9223372036854775807) (h : Tabs w) : Calls Tryd.prog 72 #[.string s] w fun e w' => e = .returned (.string ⟨(trimSpaceD s.data.toList).toArray⟩) ∧ Below w.heap.size w w' :=
  Tryd.strings_TrimSpace_any s w hs h.2.1 h.2.2.2.2.1 h.2.2.2.2.2

/- ASCII -/
theorem runeOk_ascii (c : UInt8) (h : c.toNat < 128) : runeOk (c.toNat : Int) = tagB c := by
  have key : ∀ n : Fin 128, runeOk ((n.val : Nat) : Int) = decide (tagN n.val) := by decide +kernel
  exact key ⟨c.toNat, h⟩
theorem decode_ascii (s : ByteArray) (k : Nat) (hk : k < s.size) (h : s[k].toNat < 128) : Utf8.decode s k = (s[k].toNat, 1) := by
  simp only [Utf8.decode, get_at s k hk, h, if_true]
theorem tagEnd_ascii (s : ByteArray) (hs : ∀ k (h : k < s.size), s[k].toNat < 128) : ∀ f k, s.size < f + k → k ≤ s.size → tagEnd s f k = k + tlA (s.data.toList.drop k) := by
  intro f
  induction f with
  | zero => intro k h1 h2; omega
  | succ f ih =>
    intro k h1 h2
    unfold tagEnd
    by_cases hk : k < s.size
    · have hd : s.data.toList.drop k = s[k] :: s.data.toList.drop (k + 1) := dropB_cons s k hk
      rw [if_pos hk, decode_ascii s k hk (hs k hk), runeOk_ascii _ (hs k hk), hd]
      by_cases ht : tagB s[k] = true
      · rw [if_pos ht, ih (k + 1) (by omega) (by omega)]
        unfold tlA
        rw [List.takeWhile_cons, if_pos ht, List.length_cons]
        omega
      · rw [if_neg ht, tlA_zero (by simpa using ht)]
        rfl
    · rw [if_neg hk, List.drop_eq_nil_of_le (by simp; omega)]
      simp [tlA]
      omega
theorem tlG_ascii (l : List UInt8) (h : ∀ c ∈ l, c.toNat < 128) : tlG l = tlA l := by
  unfold tlG
  have hs : (mkB l).size = l.length := mkB_size l
  rw [tagEnd_ascii (mkB l) (fun k hk => h _ (by
    show (mkB l).data[k] ∈ l
    have : (mkB l).data[k] ∈ (mkB l).data.toList := by simp
    rwa [mkB_toList] at this)) _ 0 (by omega) (by omega), mkB_toList]
  simp
theorem toks_ascii (l : List UInt8) (h : ∀ c ∈ l, c.toNat < 128) : toks tlG l = tA l := toks_same tlG tlG_ascii l.length l (Nat.le_refl _) h
/- a step of the look for the end -/
theorem tagEnd_stop {s : ByteArray} {f k : Nat} (hk : k < s.size) (hf : s.size < f + k) (h : runeOk (Utf8.decode s k).1 = false) : tagEnd s f k = k := by
  cases f with
  | zero => omega
  | succ f => unfold tagEnd; rw [if_pos hk, if_neg (by simp [h])]
theorem tagEnd_go {s : ByteArray} {f k : Nat} (hk : k < s.size) (h : runeOk (Utf8.decode s k).1 = true) : tagEnd s (f + 1) k = tagEnd s f (k + (Utf8.decode s k).2) := by
  rw [tagEnd, if_pos hk, if_pos h]
theorem tagEnd_end {s : ByteArray} {f k : Nat} (hk : s.size ≤ k) : tagEnd s f k = s.size := by
  cases f with
  | zero => rfl
  | succ f => unfold tagEnd; rw [if_neg (by omega)]
end Go.Proofs.YteemenhinhkonaaDoor
