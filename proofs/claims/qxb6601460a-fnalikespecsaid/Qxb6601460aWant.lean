/-
  DERIVED. THE PLAIN LAW OF FnAlikeSpec: no Go in sight.
-/
import Derived.Test.Qxb6601460aJoin
namespace Go.Proofs.Qxb6601460a.Walk
open Go.RowKit Plain

theorem int_apart {d : ByteArray} (h : dtInt d = true) : dtText d = false ∧ dtVar d = false := by
  unfold dtInt at h
  simp only [Bool.or_eq_true, beq_iff_eq] at h
  rcases h with (((h | h) | h) | h) | h <;> (unfold dtText dtVar; rw [h]; exact ⟨rfl, rfl⟩)

theorem text_apart {d : ByteArray} (h : dtText d = true) : dtVar d = false := by
  unfold dtText at h
  simp only [Bool.or_eq_true, beq_iff_eq] at h
  rcases h with ((((h | h) | h) | h) | h) | h <;> (unfold dtVar; rw [h]; rfl)

/-- The three tests of a data type come out in one of four ways. -/
theorem ways (d : ByteArray) : (dtInt d = true ∧ dtText d = false ∧ dtVar d = false ∧ fam d = 1) ∨ (dtInt d = false ∧ dtText d = true ∧ dtVar d = false ∧ fam d = 2) ∨
    (dtInt d = false ∧ dtText d = false ∧ dtVar d = true ∧ fam d = 3) ∨ (dtInt d = false ∧ dtText d = false ∧ dtVar d = false ∧ fam d = 0) := by
  unfold fam
  cases h1 : dtInt d
  · cases h2 : dtText d
    · cases h3 : dtVar d <;> simp
    · have := text_apart h2
      simp [this]
  · have := int_apart h1
    simp [this]

/-- What the law wants, test by test, and what alike answers there. -/
def Want (fe ke n1 n2 te al : Bool) : Prop :=
  (fe = true ∧ ke = true ∧ al = true) ∨ (fe = true ∧ ke = false ∧ n1 = false ∧ al = false) ∨ (fe = true ∧ ke = false ∧ n1 = true ∧ n2 = true ∧ al = te) ∨
  (fe = false ∧ n1 = false ∧ al = false) ∨ (fe = false ∧ n1 = true ∧ n2 = false ∧ al = false) ∨ (fe = false ∧ n1 = true ∧ n2 = true ∧ al = te)

theorem want_ways (d1 t1 y1 d2 t2 y2 : ByteArray) :
    Want (fam d1 == fam d2) ((okey d1 t1 y1).toList == (okey d2 t2 y2).toList) (fam d1 != 2) (fam d2 != 2) (t1.toList == t2.toList) (alikeB d1 t1 y1 d2 t2 y2) := by
  unfold okey alikeB Want
  rcases ways d1 with ⟨a1, a2, a3, a4⟩ | ⟨a1, a2, a3, a4⟩ | ⟨a1, a2, a3, a4⟩ | ⟨a1, a2, a3, a4⟩ <;>
    rcases ways d2 with ⟨b1, b2, b3, b4⟩ | ⟨b1, b2, b3, b4⟩ | ⟨b1, b2, b3, b4⟩ | ⟨b1, b2, b3, b4⟩ <;>
      cases ht : (t1.toList == t2.toList) <;> cases hy : (y1.toList == y2.toList) <;> simp_all

end Go.Proofs.Qxb6601460a.Walk
