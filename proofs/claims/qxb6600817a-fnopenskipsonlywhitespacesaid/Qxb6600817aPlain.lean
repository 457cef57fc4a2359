/-
  DERIVED. THE PLAIN FUNCTIONS OF THIS SEAT: no Go in sight.
-/
import Derived.WalkKit
namespace Go.Proofs.Qxb6600817a.Plain

/-- JSON's four whitespace bytes. -/
def ws (c : Int) : Bool := c == 32 || c == 9 || c == 10 || c == 13

/-- The byte at place j; 0 behind the text's end. -/
def bt (s : ByteArray) (j : Nat) : Int := (s.data.toList[j]?.getD 0).toNat

/-- j is the first place from p on that is no whitespace, or where the text gives out. -/
structure Solid (s : ByteArray) (p j : Nat) : Prop where
  le : p ≤ j
  skip : ∀ i, p ≤ i → i < j → i < s.size ∧ ws (bt s i) = true
  stop : j < s.size → ws (bt s j) = false

theorem Solid.uniq {s : ByteArray} {p j k : Nat} (h : Solid s p j) (g : Solid s p k) : j = k := by
  rcases Nat.lt_trichotomy j k with hl | he | hl
  · have a := g.skip j h.le hl
    have b := h.stop a.1
    rw [a.2] at b; cases b
  · exact he
  · have a := h.skip k g.le hl
    have b := g.stop a.1
    rw [a.2] at b; cases b

theorem Solid.bound {s : ByteArray} {p j : Nat} (h : Solid s p j) : j = p ∨ j ≤ s.size := by
  by_cases e : j = p
  · exact Or.inl e
  · have := h.skip (j - 1) (by have := h.le; omega) (by have := h.le; omega)
    exact Or.inr (by omega)

theorem bt_out {s : ByteArray} {j : Nat} (h : s.size ≤ j) : bt s j = 0 := by
  unfold bt
  rw [List.getElem?_eq_none (by simpa using h)]
  rfl

theorem bt_in {s : ByteArray} {j : Nat} (h : j < s.size) : bt s j = (s[j].toNat : Int) := by
  unfold bt
  rw [List.getElem?_eq_getElem (by simpa using h)]
  rfl

theorem bt_range (s : ByteArray) (j : Nat) : 0 ≤ bt s j ∧ bt s j ≤ 255 := by
  unfold bt
  have := (s.data.toList[j]?.getD 0).toNat_lt
  omega

end Go.Proofs.Qxb6600817a.Plain
