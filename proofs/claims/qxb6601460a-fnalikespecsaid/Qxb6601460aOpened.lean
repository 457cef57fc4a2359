/-
  DERIVED. A COLUMN THAT CAME IN BY VALUE: its ten cells written out.
-/
import Derived.Test.Qxb6601460aRows
import Derived.WalkKit
import Derived.ProofKit
import Derived.Deep.Fields
namespace Go.Proofs.Qxb6601460a.Opened
open Go.ChangeShapes Go.WideShapes Go.ChangeAt Go.RowKit

theorem array10 {α : Type} {cs : Array α} (h : cs.size = 10) : ∃ c0 c1 c2 c3 c4 c5 c6 c7 c8 c9, cs = #[c0, c1, c2, c3, c4, c5, c6, c7, c8, c9] := by
  obtain ⟨l⟩ := cs
  match l, h with
  | [c0, c1, c2, c3, c4, c5, c6, c7, c8, c9], _ => exact ⟨c0, c1, c2, c3, c4, c5, c6, c7, c8, c9, rfl⟩

theorem cells23 : Try.prog.cellsOf 23 = 10 := by kernel_rfl
theorem cells9 : Try.prog.cellsOf 9 = 1 := by kernel_rfl
theorem cells4 : Try.prog.cellsOf 4 = 1 := by kernel_rfl
theorem cells2 : Try.prog.cellsOf 2 = 1 := by kernel_rfl

theorem at_some {α : Type} {xs : List α} {i : Nat} (h : i < xs.length) : ∃ y, xs[i]? = some y := ⟨_, List.getElem?_eq_getElem h⟩

set_option maxRecDepth 100000 in
theorem open_col {H : Type} {enc : TypeId × Value → H} {W : World} {rc : Reach} {b0 : Nat} {v : Value} {dd : DataW H} {p : List MemPlace} (hv : Value.okWide Try.prog W rc b0 23 v)
    (h : DataW.Trod enc Try.prog W 0 (fun _ => true) true 23 v dd p) :
    ∃ (n1 d1 t1 : ByteArray) (g1 r1 u1 v1 : Bool) (x1 y1 : ByteArray) (k1 : Int), v = .agg #[.string n1, .string d1, .string t1, .bool g1, .bool r1, .bool u1, .bool v1, .string x1, .string y1, .int .i64 k1] ∧ n1.size ≤ maxLen ∧ d1.size ≤ maxLen ∧ t1.size ≤ maxLen ∧ x1.size ≤ maxLen ∧ y1.size ≤ maxLen := by
  obtain ⟨cs, rfl, hsz⟩ := okWide_struct Try.underlying23 hv
  obtain ⟨c0, c1, c2, c3, c4, c5, c6, c7, c8, c9, rfl⟩ := array10 (hsz.trans cells23)
  obtain ⟨fuel, hfu⟩ := h
  obtain ⟨xs, n, _, _, _, hlen, hf⟩ := DataW.trod_struct Try.underlying23 hfu
  have hl : xs.length = 10 := hlen
  clear hlen
  obtain ⟨w0, e0⟩ := at_some (xs := xs) (i := 0) (by omega)
  have f0 : DataW.trod enc Try.prog W 0 (fun _ => true) true n 9 (List.take (Try.prog.cellsOf 9) (List.drop 0 [c0, c1, c2, c3, c4, c5, c6, c7, c8, c9])) = xs[0]? := hf 0 _ rfl
  rw [e0] at f0
  rw [cells9] at f0
  obtain ⟨a0, q0, _, z0⟩ := DataW.trod_string Try.underlying9 f0
  obtain rfl : c0 = .string a0 := by simpa [Value.cells] using q0
  obtain ⟨w1, e1⟩ := at_some (xs := xs) (i := 1) (by omega)
  have f1 : DataW.trod enc Try.prog W 0 (fun _ => true) true n 9 (List.take (Try.prog.cellsOf 9) (List.drop 1 [.string a0, c1, c2, c3, c4, c5, c6, c7, c8, c9])) = xs[1]? := hf 1 _ rfl
  rw [e1] at f1
  rw [cells9] at f1
  obtain ⟨a1, q1, _, z1⟩ := DataW.trod_string Try.underlying9 f1
  obtain rfl : c1 = .string a1 := by simpa [Value.cells] using q1
  obtain ⟨w2, e2⟩ := at_some (xs := xs) (i := 2) (by omega)
  have f2 : DataW.trod enc Try.prog W 0 (fun _ => true) true n 9 (List.take (Try.prog.cellsOf 9) (List.drop 2 [.string a0, .string a1, c2, c3, c4, c5, c6, c7, c8, c9])) = xs[2]? := hf 2 _ rfl
  rw [e2] at f2
  rw [cells9] at f2
  obtain ⟨a2, q2, _, z2⟩ := DataW.trod_string Try.underlying9 f2
  obtain rfl : c2 = .string a2 := by simpa [Value.cells] using q2
  obtain ⟨w3, e3⟩ := at_some (xs := xs) (i := 3) (by omega)
  have f3 : DataW.trod enc Try.prog W 0 (fun _ => true) true n 4 (List.take (Try.prog.cellsOf 4) (List.drop 3 [.string a0, .string a1, .string a2, c3, c4, c5, c6, c7, c8, c9])) = xs[3]? := hf 3 _ rfl
  rw [e3] at f3
  rw [cells4] at f3
  obtain ⟨a3, q3, _⟩ := DataW.trod_bool Try.underlying4 f3
  obtain rfl : c3 = .bool a3 := by simpa [Value.cells] using q3
  obtain ⟨w4, e4⟩ := at_some (xs := xs) (i := 4) (by omega)
  have f4 : DataW.trod enc Try.prog W 0 (fun _ => true) true n 4 (List.take (Try.prog.cellsOf 4) (List.drop 4 [.string a0, .string a1, .string a2, .bool a3, c4, c5, c6, c7, c8, c9])) = xs[4]? := hf 4 _ rfl
  rw [e4] at f4
  rw [cells4] at f4
  obtain ⟨a4, q4, _⟩ := DataW.trod_bool Try.underlying4 f4
  obtain rfl : c4 = .bool a4 := by simpa [Value.cells] using q4
  obtain ⟨w5, e5⟩ := at_some (xs := xs) (i := 5) (by omega)
  have f5 : DataW.trod enc Try.prog W 0 (fun _ => true) true n 4 (List.take (Try.prog.cellsOf 4) (List.drop 5 [.string a0, .string a1, .string a2, .bool a3, .bool a4, c5, c6, c7, c8, c9])) = xs[5]? := hf 5 _ rfl
  rw [e5] at f5
  rw [cells4] at f5
  obtain ⟨a5, q5, _⟩ := DataW.trod_bool Try.underlying4 f5
  obtain rfl : c5 = .bool a5 := by simpa [Value.cells] using q5
  obtain ⟨w6, e6⟩ := at_some (xs := xs) (i := 6) (by omega)
  have f6 : DataW.trod enc Try.prog W 0 (fun _ => true) true n 4 (List.take (Try.prog.cellsOf 4) (List.drop 6 [.string a0, .string a1, .string a2, .bool a3, .bool a4, .bool a5, c6, c7, c8, c9])) = xs[6]? := hf 6 _ rfl
  rw [e6] at f6
  rw [cells4] at f6
  obtain ⟨a6, q6, _⟩ := DataW.trod_bool Try.underlying4 f6
  obtain rfl : c6 = .bool a6 := by simpa [Value.cells] using q6
  obtain ⟨w7, e7⟩ := at_some (xs := xs) (i := 7) (by omega)
  have f7 : DataW.trod enc Try.prog W 0 (fun _ => true) true n 9 (List.take (Try.prog.cellsOf 9) (List.drop 7 [.string a0, .string a1, .string a2, .bool a3, .bool a4, .bool a5, .bool a6, c7, c8, c9])) = xs[7]? := hf 7 _ rfl
  rw [e7] at f7
  rw [cells9] at f7
  obtain ⟨a7, q7, _, z7⟩ := DataW.trod_string Try.underlying9 f7
  obtain rfl : c7 = .string a7 := by simpa [Value.cells] using q7
  obtain ⟨w8, e8⟩ := at_some (xs := xs) (i := 8) (by omega)
  have f8 : DataW.trod enc Try.prog W 0 (fun _ => true) true n 9 (List.take (Try.prog.cellsOf 9) (List.drop 8 [.string a0, .string a1, .string a2, .bool a3, .bool a4, .bool a5, .bool a6, .string a7, c8, c9])) = xs[8]? := hf 8 _ rfl
  rw [e8] at f8
  rw [cells9] at f8
  obtain ⟨a8, q8, _, z8⟩ := DataW.trod_string Try.underlying9 f8
  obtain rfl : c8 = .string a8 := by simpa [Value.cells] using q8
  obtain ⟨w9, e9⟩ := at_some (xs := xs) (i := 9) (by omega)
  have f9 : DataW.trod enc Try.prog W 0 (fun _ => true) true n 2 (List.take (Try.prog.cellsOf 2) (List.drop 9 [.string a0, .string a1, .string a2, .bool a3, .bool a4, .bool a5, .bool a6, .string a7, .string a8, c9])) = xs[9]? := hf 9 _ rfl
  rw [e9] at f9
  rw [cells2] at f9
  obtain ⟨a9, q9, _, _⟩ := DataW.trod_int Try.underlying2 f9
  obtain rfl : c9 = .int .i64 a9 := by simpa [Value.cells] using q9
  exact ⟨a0, a1, a2, a3, a4, a5, a6, a7, a8, a9, rfl, z0, z1, z2, z7, z8⟩

end Go.Proofs.Qxb6601460a.Opened
