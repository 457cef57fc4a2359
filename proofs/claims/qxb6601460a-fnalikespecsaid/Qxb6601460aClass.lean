/-
  DERIVED. A REGION THAT DRAWS ITS ORDER AND WHOSE CALLEES LAY NEW BLOCKS: one walk, in the family of all worlds that are as W was below W's size. The boxes of the two columns.
-/
import Derived.Test.Qxb6601460aJoin
import Derived.WalkKit
import Derived.Deep.QuietTactic
import Derived.BigQuiet
namespace Go.Proofs.Qxb6601460a.Walk
open Go.RowKit Plain

/-- A world in which all that lay in W lies as it did. -/
structure Cl (W : World) where
  w : World
  below : Below W.heap.size W w

theorem wp_region_below {P : Program} {id : Nat} {Q : Exit → Act → World → Prop} {a : Act} {w : World} {l : List Oper} (hm : P.follows .mixedOrders = true) (hB : Region.lexB .any l.toArray = true) (W : World) (h0 : Below W.heap.size W w)
    (h : wpQuiet P l.toArray (fun w' => ∃ g : Cl W, w' = g.w) (fun a' => ∀ w', (∃ g : Cl W, w' = g.w) → Q .normal a' w') l a) : (Code.region id l.toArray true).wp P Q a w :=
  wp_region_quiet (C := fun w' => ∃ g : Cl W, w' = g.w) hm hB ⟨⟨_, h0.drew⟩, rfl⟩ (by simpa using h)

/-- Block b of w holds the column's ten cells. -/
structure Holds (w : World) (b : Nat) (n1 d1 t1 : ByteArray) (g1 r1 u1 v1 : Bool) (x1 y1 : ByteArray) (k1 : Int) : Prop where
  c0 : w.cell? ⟨b, 0, none⟩ = some (.string n1)
  c1 : w.cell? ⟨b, 1, none⟩ = some (.string d1)
  c2 : w.cell? ⟨b, 2, none⟩ = some (.string t1)
  c3 : w.cell? ⟨b, 3, none⟩ = some (.bool g1)
  c4 : w.cell? ⟨b, 4, none⟩ = some (.bool r1)
  c5 : w.cell? ⟨b, 5, none⟩ = some (.bool u1)
  c6 : w.cell? ⟨b, 6, none⟩ = some (.bool v1)
  c7 : w.cell? ⟨b, 7, none⟩ = some (.string x1)
  c8 : w.cell? ⟨b, 8, none⟩ = some (.string y1)
  c9 : w.cell? ⟨b, 9, none⟩ = some (.int .i64 k1)

theorem Holds.below {w w' : World} {b : Nat} {n1 d1 t1 : ByteArray} {g1 r1 u1 v1 : Bool} {x1 y1 : ByteArray} {k1 : Int} (h : Holds w b n1 d1 t1 g1 r1 u1 v1 x1 y1 k1) {B : Nat} (hb : Below B w w') (hlt : b < B) : Holds w' b n1 d1 t1 g1 r1 u1 v1 x1 y1 k1 :=
  ⟨(hb.cell (p := ⟨b, 0, none⟩) hlt).trans h.c0, (hb.cell (p := ⟨b, 1, none⟩) hlt).trans h.c1, (hb.cell (p := ⟨b, 2, none⟩) hlt).trans h.c2, (hb.cell (p := ⟨b, 3, none⟩) hlt).trans h.c3, (hb.cell (p := ⟨b, 4, none⟩) hlt).trans h.c4, (hb.cell (p := ⟨b, 5, none⟩) hlt).trans h.c5, (hb.cell (p := ⟨b, 6, none⟩) hlt).trans h.c6, (hb.cell (p := ⟨b, 7, none⟩) hlt).trans h.c7, (hb.cell (p := ⟨b, 8, none⟩) hlt).trans h.c8, (hb.cell (p := ⟨b, 9, none⟩) hlt).trans h.c9⟩

theorem Holds.new (w : World) (n1 d1 t1 : ByteArray) (g1 r1 u1 v1 : Bool) (x1 y1 : ByteArray) (k1 : Int) (T : TypeId) : Holds (w.alloc (.cells #[.string n1, .string d1, .string t1, .bool g1, .bool r1, .bool u1, .bool v1, .string x1, .string y1, .int .i64 k1] T)) w.heap.size n1 d1 t1 g1 r1 u1 v1 x1 y1 k1 :=
  ⟨by simp, by simp, by simp, by simp, by simp, by simp, by simp, by simp, by simp, by simp⟩

theorem below_alloc (w : World) (o : Obj) : Below w.heap.size w (w.alloc o) := (Below.refl _ _).alloc (Nat.le_refl _) o

theorem boxes (n1 d1 t1 : ByteArray) (g1 r1 u1 v1 : Bool) (x1 y1 : ByteArray) (k1 : Int) (n2 d2 t2 : ByteArray) (g2 r2 u2 v2 : Bool) (x2 y2 : ByteArray) (k2 : Int) (w W : World) (hW : W = ((((((w.alloc (.cells #[.string n1, .string d1, .string t1, .bool g1, .bool r1, .bool u1, .bool v1, .string x1, .string y1, .int .i64 k1] 23)).alloc (.cells #[.string n2, .string d2, .string t2, .bool g2, .bool r2, .bool u2, .bool v2, .string x2, .string y2, .int .i64 k2] 23)).alloc (.cells #[.string n1, .string d1, .string t1, .bool g1, .bool r1, .bool u1, .bool v1, .string x1, .string y1, .int .i64 k1] 23)).alloc (.cells #[.string n2, .string d2, .string t2, .bool g2, .bool r2, .bool u2, .bool v2, .string x2, .string y2, .int .i64 k2] 23)).alloc (.cells #[.string n1, .string d1, .string t1, .bool g1, .bool r1, .bool u1, .bool v1, .string x1, .string y1, .int .i64 k1] 23)).alloc (.cells #[.string n2, .string d2, .string t2, .bool g2, .bool r2, .bool u2, .bool v2, .string x2, .string y2, .int .i64 k2] 23))) :
    Holds W w.heap.size n1 d1 t1 g1 r1 u1 v1 x1 y1 k1 ∧ Holds W (w.heap.size + 1) n2 d2 t2 g2 r2 u2 v2 x2 y2 k2 ∧ Below w.heap.size w W ∧ w.heap.size + 1 < W.heap.size := by
  subst hW
  have a := Holds.new w n1 d1 t1 g1 r1 u1 v1 x1 y1 k1 23
  have b := Holds.new (w.alloc (.cells #[.string n1, .string d1, .string t1, .bool g1, .bool r1, .bool u1, .bool v1, .string x1, .string y1, .int .i64 k1] 23)) n2 d2 t2 g2 r2 u2 v2 x2 y2 k2 23
  have s : (w.alloc (.cells #[.string n1, .string d1, .string t1, .bool g1, .bool r1, .bool u1, .bool v1, .string x1, .string y1, .int .i64 k1] 23)).heap.size = w.heap.size + 1 := by simp
  rw [s] at b
  refine ⟨?_, ?_, ?_, by simp⟩
  · refine Holds.below a (B := w.heap.size + 1) ?_ (by omega)
    repeat (first | exact Below.refl _ _ | refine Below.alloc ?_ (by simp <;> omega) _)
  · refine Holds.below b (B := w.heap.size + 2) ?_ (by omega)
    repeat (first | exact Below.refl _ _ | refine Below.alloc ?_ (by simp <;> omega) _)
  · repeat (first | exact Below.refl _ _ | refine Below.alloc ?_ (by simp <;> omega) _)

theorem bytes_cl {W : World} (g : Cl W) (n1 d1 t1 : ByteArray) (g1 r1 u1 v1 : Bool) (x1 y1 : ByteArray) (k1 : Int) (h : n1.size + d1.size + t1.size + x1.size + y1.size ≤ 1048576) :
    Calls Try.prog 9 #[.agg #[.string n1, .string d1, .string t1, .bool g1, .bool r1, .bool u1, .bool v1, .string x1, .string y1, .int .i64 k1]] g.w fun e w' => e = .returned (.int .i64 ((n1.size : Int) + d1.size + t1.size + x1.size + y1.size)) ∧ ∃ g' : Cl W, w' = g'.w := by
  refine (bytes_any n1 d1 t1 g1 r1 u1 v1 x1 y1 k1 g.w h).mono ?_
  rintro e w' ⟨rfl, rfl⟩
  exact ⟨rfl, ⟨_, g.below.alloc g.below.size _⟩, rfl⟩

theorem zzAlike_cl {W : World} (g : Cl W) (n1 d1 t1 : ByteArray) (g1 r1 u1 v1 : Bool) (x1 y1 : ByteArray) (k1 : Int) (n2 d2 t2 : ByteArray) (g2 r2 u2 v2 : Bool) (x2 y2 : ByteArray) (k2 : Int) :
    Calls Try.prog 12 #[.agg #[.string n1, .string d1, .string t1, .bool g1, .bool r1, .bool u1, .bool v1, .string x1, .string y1, .int .i64 k1], .agg #[.string n2, .string d2, .string t2, .bool g2, .bool r2, .bool u2, .bool v2, .string x2, .string y2, .int .i64 k2]] g.w fun e w' => e = .returned (.bool (alikeB d1 t1 y1 d2 t2 y2)) ∧ ∃ g' : Cl W, w' = g'.w := by
  refine (zzAlike_any n1 d1 t1 g1 r1 u1 v1 x1 y1 k1 n2 d2 t2 g2 r2 u2 v2 x2 y2 k2 g.w).mono ?_
  rintro e w' ⟨rfl, hb⟩
  exact ⟨rfl, ⟨_, g.below.trans (hb.mono g.below.size)⟩, rfl⟩

theorem zzAlike_is {W : World} (g : Cl W) (n1 d1 t1 : ByteArray) (g1 r1 u1 v1 : Bool) (x1 y1 : ByteArray) (k1 : Int) (n2 d2 t2 : ByteArray) (g2 r2 u2 v2 : Bool) (x2 y2 : ByteArray) (k2 : Int) {b : Bool} (h : alikeB d1 t1 y1 d2 t2 y2 = b) :
    Calls Try.prog 12 #[.agg #[.string n1, .string d1, .string t1, .bool g1, .bool r1, .bool u1, .bool v1, .string x1, .string y1, .int .i64 k1], .agg #[.string n2, .string d2, .string t2, .bool g2, .bool r2, .bool u2, .bool v2, .string x2, .string y2, .int .i64 k2]] g.w fun e w' => e = .returned (.bool b) ∧ ∃ g' : Cl W, w' = g'.w := by
  subst h
  exact zzAlike_cl g n1 d1 t1 g1 r1 u1 v1 x1 y1 k1 n2 d2 t2 g2 r2 u2 v2 x2 y2 k2

theorem eq_comm_b (a b : ByteArray) : (a.toList == b.toList) = (b.toList == a.toList) := by
  rw [Bool.eq_iff_iff, beq_iff_eq, beq_iff_eq]
  exact eq_comm

theorem alikeB_comm (d1 t1 y1 d2 t2 y2 : ByteArray) : alikeB d1 t1 y1 d2 t2 y2 = alikeB d2 t2 y2 d1 t1 y1 := by
  unfold alikeB
  rw [eq_comm_b y1 y2, eq_comm_b t1 t2]
  cases dtInt d1 <;> cases dtInt d2 <;> cases dtText d1 <;> cases dtText d2 <;> cases dtVar d1 <;> cases dtVar d2 <;> rfl

theorem alikeB_self (d t y : ByteArray) : alikeB d t y d t y = true := by
  unfold alikeB
  rw [show (y.toList == y.toList) = true from beq_self_eq_true _, show (t.toList == t.toList) = true from beq_self_eq_true _]
  cases dtInt d <;> cases dtText d <;> cases dtVar d <;> rfl

theorem boxes2 (n1 d1 t1 : ByteArray) (g1 r1 u1 v1 : Bool) (x1 y1 : ByteArray) (k1 : Int) (n2 d2 t2 : ByteArray) (g2 r2 u2 v2 : Bool) (x2 y2 : ByteArray) (k2 : Int) (w W : World) (hW : W = (w.alloc (.cells #[.string n1, .string d1, .string t1, .bool g1, .bool r1, .bool u1, .bool v1, .string x1, .string y1, .int .i64 k1] 30)).alloc (.cells #[.string n2, .string d2, .string t2, .bool g2, .bool r2, .bool u2, .bool v2, .string x2, .string y2, .int .i64 k2] 30)) :
    Holds W w.heap.size n1 d1 t1 g1 r1 u1 v1 x1 y1 k1 ∧ Holds W (w.heap.size + 1) n2 d2 t2 g2 r2 u2 v2 x2 y2 k2 ∧ Below w.heap.size w W ∧ w.heap.size + 1 < W.heap.size := by
  subst hW
  have a := Holds.new w n1 d1 t1 g1 r1 u1 v1 x1 y1 k1 30
  have b := Holds.new (w.alloc (.cells #[.string n1, .string d1, .string t1, .bool g1, .bool r1, .bool u1, .bool v1, .string x1, .string y1, .int .i64 k1] 30)) n2 d2 t2 g2 r2 u2 v2 x2 y2 k2 30
  have s : (w.alloc (.cells #[.string n1, .string d1, .string t1, .bool g1, .bool r1, .bool u1, .bool v1, .string x1, .string y1, .int .i64 k1] 30)).heap.size = w.heap.size + 1 := by simp
  rw [s] at b
  refine ⟨?_, b, ?_, by simp⟩
  · refine Holds.below a (B := w.heap.size + 1) ?_ (by omega)
    repeat (first | exact Below.refl _ _ | refine Below.alloc ?_ (by simp <;> omega) _)
  · repeat (first | exact Below.refl _ _ | refine Below.alloc ?_ (by simp <;> omega) _)

theorem okey_cl {W : World} (g : Cl W) (n1 d1 t1 : ByteArray) (g1 r1 u1 v1 : Bool) (x1 y1 : ByteArray) (k1 : Int) :
    Calls Try.prog 11 #[.agg #[.string n1, .string d1, .string t1, .bool g1, .bool r1, .bool u1, .bool v1, .string x1, .string y1, .int .i64 k1]] g.w fun e w' => e = .returned (.string (okey d1 t1 y1)) ∧ ∃ g' : Cl W, w' = g'.w := by
  refine (okey_any n1 d1 t1 g1 r1 u1 v1 x1 y1 k1 g.w).mono ?_
  rintro e w' ⟨rfl, rfl⟩
  exact ⟨rfl, ⟨_, g.below.alloc g.below.size _⟩, rfl⟩

end Go.Proofs.Qxb6601460a.Walk
