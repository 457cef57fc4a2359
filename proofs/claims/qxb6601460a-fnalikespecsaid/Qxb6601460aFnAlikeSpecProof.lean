/-
  THE PROOF OF 'Rows.FnAlikeSpecSaid': after the guide's own frame for a law that writes nothing that was there ('Below'), with structs by value among the parameters.
-/
import Derived.Test.Qxb6601460aRows
import Derived.Test.Qxb6601460aHead
import Derived.Test.Qxb6601460aOpened
import Derived.Test.Qxb6601460aLaw3
import Derived.WalkKit
import Derived.ProofKit
import Derived.OpenShut
import Derived.ChangeOld
import Derived.Below
namespace Go.Proofs.Qxb6601460a.fnAlikeSpec
open Go.ChangeShapes Go.WideShapes Go.ChangeAt Go.RowKit
set_option linter.unusedVariables false

theorem own : ownKnob Try.prog.godebug = none := by kernel_rfl
theorem laidOut : laidOutB Try.prog = true := by kernel_rfl

/-! ### THE WALK: the Go text returns true and writes nothing that was there -/
set_option maxHeartbeats 400000 in
theorem walk (n1 d1 t1 : ByteArray) (g1 r1 u1 v1 : Bool) (x1 y1 : ByteArray) (k1 : Int) (n2 d2 t2 : ByteArray) (g2 r2 u2 v2 : Bool) (x2 y2 : ByteArray) (k2 : Int) (w : World) (zn1 : n1.size ≤ maxLen) (zd1 : d1.size ≤ maxLen) (zt1 : t1.size ≤ maxLen) (zx1 : x1.size ≤ maxLen) (zy1 : y1.size ≤ maxLen) (zn2 : n2.size ≤ maxLen) (zd2 : d2.size ≤ maxLen) (zt2 : t2.size ≤ maxLen) (zx2 : x2.size ≤ maxLen) (zy2 : y2.size ≤ maxLen) :
    Calls Try.prog 3 #[.agg #[.string n1, .string d1, .string t1, .bool g1, .bool r1, .bool u1, .bool v1, .string x1, .string y1, .int .i64 k1], .agg #[.string n2, .string d2, .string t2, .bool g2, .bool r2, .bool u2, .bool v2, .string x2, .string y2, .int .i64 k2]] w fun e w' => e = .returned (.bool true) ∧ Below w.heap.size w w' := by
  by_cases h : n1.size + d1.size + t1.size + x1.size + y1.size + n2.size + d2.size + t2.size + x2.size + y2.size ≤ 1048576
  · exact Walk.law3_in n1 d1 t1 g1 r1 u1 v1 x1 y1 k1 n2 d2 t2 g2 r2 u2 v2 x2 y2 k2 w h
  · go_enter Try.func3, Try.ntmps3
    go_wp2_with fail
    refine (Walk.bytes7_no n1 d1 t1 g1 r1 u1 v1 x1 y1 k1 n2 d2 t2 g2 r2 u2 v2 x2 y2 k2 _ zn1 zd1 zt1 zx1 zy1 zn2 zd2 zt2 zx2 zy2 h).mono ?_
    rintro e w1 ⟨rfl, rfl⟩
    go_wp2
    go_ret
    exact ⟨rfl, by repeat (first | exact Below.refl _ _ | refine Below.alloc ?_ (by simp <;> omega) _)⟩

/-! ### THE ROW's STEP -/
set_option maxRecDepth 100000 in
theorem lifted (os : Os) (started : os.Started) (H : Type) (enc : TypeId × Value → H) :
    ReturnsInHanded {} Try.checked os 3 .any (Rows.fnAlikeSpecSpec.pre6 enc Try.prog Try.f3 Rows.fnAlikeSpecRow.domain false) (Rows.fnAlikeSpecSpec.post enc Try.prog Try.f3 false true false false) := by
  refine returnsInHanded_of_change (C := Try.checked) own started (by kernel_rfl) Try.func3
    (ChangeSpec.witness6 (enc := enc) (C := Try.checked) false ⟨#[], #[.agg #[.string ByteArray.empty, .string ByteArray.empty, .string ByteArray.empty, .bool false, .bool false, .bool false, .bool false, .string ByteArray.empty, .string ByteArray.empty, .int .i64 0], .agg #[.string ByteArray.empty, .string ByteArray.empty, .string ByteArray.empty, .bool false, .bool false, .bool false, .bool false, .string ByteArray.empty, .string ByteArray.empty, .int .i64 0]], []⟩ 8 (by kernel_rfl) (by kernel_rfl) (by kernel_rfl) (by kernel_rfl)) ?_
  intro W base args ds gs before hval0 hW hcnd _
  have hval : ∀ (j : Nat) t v, Try.f3.params[j]? = some t → args[j]? = some v → Value.okWide Try.prog W .any base t v := hval0
  have hW' := hW
  obtain ⟨p, q, hA0, hV, rfl, hfz, hnd⟩ := hW
  have hA : DataW.TrodAll enc Try.prog W 0 (fun _ => true) true Try.f3.params.toList args.toList ds p := hA0
  rw [Try.params3] at hA hval
  obtain ⟨v0, vs0, d0, ds0, p0, q0, hargs, rfl, rfl, h0, r0⟩ := trodAll_cons hA
  obtain ⟨v1, vs1, d1, ds1, p1, q1, rfl, rfl, rfl, h1, r1⟩ := trodAll_cons r0
  obtain ⟨rfl, rfl, rfl⟩ := trodAll_nil r1
  obtain rfl : args = #[v0, v1] := by cases args; simp_all
  obtain ⟨rfl, rfl⟩ := trodVars_none hV
  have lt0 : ∀ x ∈ p0, x.block < W.heap.size := by obtain ⟨m, hm⟩ := h0; exact DataW.trod_lt m _ _ _ hm
  have lt1 : ∀ x ∈ p1, x.block < W.heap.size := by obtain ⟨m, hm⟩ := h1; exact DataW.trod_lt m _ _ _ hm
  obtain ⟨a0, a1, a2, a3, a4, a5, a6, a7, a8, a9, rfl, y0, y1, y2, y3, y4⟩ := Opened.open_col (hval 0 23 v0 rfl rfl) h0
  obtain ⟨b0, b1, b2, b3, b4, b5, b6, b7, b8, b9, rfl, z0, z1, z2, z3, z4⟩ := Opened.open_col (hval 1 23 v1 rfl rfl) h1
  clear hA0 hval0
  refine (walk a0 a1 a2 a3 a4 a5 a6 a7 a8 a9 b0 b1 b2 b3 b4 b5 b6 b7 b8 b9 W y0 y1 y2 y3 y4 z0 z1 z2 z3 z4).mono fun e W' ⟨he, bel⟩ => ?_
  subst he
  exact ⟨_, rfl, _, _, _, [], _, [], hW', trodAll_mk1 (shut_bool Try.underlying4 _), (trodAll_cons_mk (Below.trod laidOut (by kernel_rfl) (of_decide_eq_true (by kernel_rfl)) h0 bel lt0) (trodAll_cons_mk (Below.trod laidOut (by kernel_rfl) (of_decide_eq_true (by kernel_rfl)) h1 bel lt1) trodAll_mk0)), rfl, bel.frame _, fun h => by cases h⟩

set_option maxRecDepth 100000 in
theorem closed : joinedFacts Try.prog 3 Try.f3 Rows.fnAlikeSpecSpec Rows.fnAlikeSpecRow = true := by
  unfold joinedFacts
  rw [Head.may, Head.final, Head.make_is]
  kernel_rfl

theorem over : Rows.fnAlikeSpecRow.holds Try.pinned (OpenSpec.ofChange Rows.fnAlikeSpecSpec) :=
  OpenClaim.holds_of_wide 3 Try.f3 rfl rfl rfl rfl rfl rfl rfl ⟨rfl, rfl, rfl, rfl, rfl⟩ rfl rfl rfl rfl rfl (by kernel_rfl) Try.func3 closed
    (of_decide_eq_true (by kernel_rfl)) (by unfold Func.isWrapper; first | (rw [if_pos (by decide +kernel)]; kernel_rfl) | (rw [if_neg (by decide +kernel)]; exact ⟨rfl, rfl⟩))
    (fun os started H enc _ => lifted os started H enc)

/-- THE STATEMENT -/
theorem proved : Rows.FnAlikeSpecSaid :=
  over
end Go.Proofs.Qxb6601460a.fnAlikeSpec
