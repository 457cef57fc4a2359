/-
  THE PROOF OF 'Rows.FnJsonKindOfGoKindsBesideInterfaceSaid', out of the shell that the kit's tool wrote for it.
-/
import Derived.Test.Qxb6600817aRows
import Derived.Test.Qxb6600817aHead
import Derived.Test.Qxb6600817aKind
import Derived.WalkKit
import Derived.ProofKit
import Derived.OpenShut
import Derived.ShutString
namespace Go.Proofs.Qxb6600817a.fnJsonKindOfGoKindsBesideInterface
open Go.ChangeShapes Go.WideShapes Go.ChangeAt Go.RowKit
open Go.ChangeMaps (open_string shut_string)
set_option linter.unusedVariables false      -- a walk need not use every 'w<i>' (that an integer argument fits its kind)

theorem own : ownKnob Try.prog.godebug = none := by kernel_rfl

/-! ### STEP 1: THE WALK: the Go text returns true. 'Grown w w'': the world has at most new blocks (Derived/RowKit3.lean). Part the cases AHEAD of 'go_enter' where a test parts the walk; take each callee by a contract of your own. -/
theorem walk (a0 : Int) (w0 : (Lit.int .i64 a0).wf = true) (w : World) :
    Calls Try.prog 3 #[.int .i64 a0] w fun e w' => e = .returned (.bool true) ∧ Grown w w' := by
  have hstay : Calls Try.prog 3 #[.int .i64 a0] w fun e w' => e = .returned (.bool true) ∧ w' = w := by
    by_cases h0 : a0 < 0
    · go_enter Try.func3, Try.ntmps3
      go_wp2
      go_ret
      exact ⟨rfl, rfl⟩
    by_cases h1 : 26 < a0
    · go_enter Try.func3, Try.ntmps3
      go_wp2
      go_ret
      exact ⟨rfl, rfl⟩
    by_cases h2 : a0 = 20
    · subst h2
      go_enter Try.func3, Try.ntmps3
      go_wp2
      go_ret
      exact ⟨rfl, rfl⟩
    have hall : a0 = 0 ∨ a0 = 1 ∨ a0 = 2 ∨ a0 = 3 ∨ a0 = 4 ∨ a0 = 5 ∨ a0 = 6 ∨ a0 = 7 ∨ a0 = 8 ∨ a0 = 9 ∨ a0 = 10 ∨ a0 = 11 ∨ a0 = 12 ∨ a0 = 13 ∨ a0 = 14 ∨ a0 = 15 ∨ a0 = 16 ∨ a0 = 17 ∨ a0 = 18 ∨ a0 = 19 ∨ a0 = 21 ∨ a0 = 22 ∨ a0 = 23 ∨ a0 = 24 ∨ a0 = 25 ∨ a0 = 26 := by omega
    rcases hall with rfl | rfl | rfl | rfl | rfl | rfl | rfl | rfl | rfl | rfl | rfl | rfl | rfl | rfl | rfl | rfl | rfl | rfl | rfl | rfl | rfl | rfl | rfl | rfl | rfl | rfl
    · exact Walk.law3_0 w
    · exact Walk.law3_1 w
    · exact Walk.law3_2 w
    · exact Walk.law3_3 w
    · exact Walk.law3_4 w
    · exact Walk.law3_5 w
    · exact Walk.law3_6 w
    · exact Walk.law3_7 w
    · exact Walk.law3_8 w
    · exact Walk.law3_9 w
    · exact Walk.law3_10 w
    · exact Walk.law3_11 w
    · exact Walk.law3_12 w
    · exact Walk.law3_13 w
    · exact Walk.law3_14 w
    · exact Walk.law3_15 w
    · exact Walk.law3_16 w
    · exact Walk.law3_17 w
    · exact Walk.law3_18 w
    · exact Walk.law3_19 w
    · exact Walk.law3_21 w
    · exact Walk.law3_22 w
    · exact Walk.law3_23 w
    · exact Walk.law3_24 w
    · exact Walk.law3_25 w
    · exact Walk.law3_26 w
  refine hstay.mono ?_
  rintro e w' ⟨rfl, rfl⟩
  exact ⟨rfl, Grown.refl _⟩

/-! ### THE ROW's STEP: WRITTEN OUT: LEAVE IT -/
set_option maxRecDepth 100000 in
theorem lifted (os : Os) (started : os.Started) (H : Type) (enc : TypeId × Value → H) :
    ReturnsInHanded {} Try.checked os 3 .any (Rows.fnJsonKindOfGoKindsBesideInterfaceSpec.pre6 enc Try.prog Try.f3 Rows.fnJsonKindOfGoKindsBesideInterfaceRow.domain false) (Rows.fnJsonKindOfGoKindsBesideInterfaceSpec.post enc Try.prog Try.f3 false true false false) := by
  refine returnsInHanded_of_change (C := Try.checked) own started (by kernel_rfl) Try.func3
    (ChangeSpec.witness6 (enc := enc) (C := Try.checked) false ⟨#[], #[.int .i64 0], []⟩ 8 (by kernel_rfl) (by kernel_rfl) (by kernel_rfl) (by kernel_rfl)) ?_
  intro W base args ds gs before hval0 hW hcnd _
  have hval : ∀ (j : Nat) t v, Try.f3.params[j]? = some t → args[j]? = some v → Value.okWide Try.prog W .any base t v := hval0
  have hW' := hW
  obtain ⟨p, q, hA0, hV, rfl, hfz, hnd⟩ := hW
  have hA : DataW.TrodAll enc Try.prog W 0 (fun _ => true) true Try.f3.params.toList args.toList ds p := hA0
  rw [Try.params3] at hA hval
  obtain ⟨v0, vs0, d0, ds0, p0, q0, hargs, rfl, rfl, h0, r0⟩ := trodAll_cons hA
  obtain ⟨rfl, rfl, rfl⟩ := trodAll_nil r0
  obtain rfl : args = #[v0] := by cases args; simp_all
  obtain ⟨rfl, rfl⟩ := trodVars_none hV
  obtain ⟨a0, rfl, rfl, rfl, w0⟩ := open_int Try.underlying3 (hval 0 3 v0 rfl rfl) h0
  clear hA0 hval0
  simp only [List.append_nil] at hW'
  refine (walk a0 w0 W).mono fun e W' ⟨he, hg⟩ => ?_
  subst he
  exact ⟨_, rfl, post_of_same (pa := []) (pv := []) hW' (fun _ _ _ => (trodAll_cons_mk (shut_bool Try.underlying4 _) trodAll_mk0)) (fun sp _ => (trodAll_cons_mk (shut_int Try.underlying3 w0) trodAll_mk0)) (fun _ _ => rfl) rfl
    (hg.frame _) hg.2.1 (ok_one (by kernel_rfl) rfl (okWide_bool_mk Try.underlying4 _))⟩

set_option maxRecDepth 100000 in
theorem closed : joinedFacts Try.prog 3 Try.f3 Rows.fnJsonKindOfGoKindsBesideInterfaceSpec Rows.fnJsonKindOfGoKindsBesideInterfaceRow = true := by
  unfold joinedFacts
  rw [Head.may, Head.final, Head.make_is]
  kernel_rfl

theorem over : Rows.fnJsonKindOfGoKindsBesideInterfaceRow.holds Try.pinned (OpenSpec.ofChange Rows.fnJsonKindOfGoKindsBesideInterfaceSpec) :=
  OpenClaim.holds_of_wide 3 Try.f3 rfl rfl rfl rfl rfl rfl rfl ⟨rfl, rfl, rfl, rfl, rfl⟩ rfl rfl rfl rfl rfl (by kernel_rfl) Try.func3 closed
    (of_decide_eq_true (by kernel_rfl)) (by unfold Func.isWrapper; first | (rw [if_pos (by decide +kernel)]; kernel_rfl) | (rw [if_neg (by decide +kernel)]; exact ⟨rfl, rfl⟩))
    (fun os started H enc _ => lifted os started H enc)

/-- ████ THE STATEMENT ████ -/
theorem proved : Rows.FnJsonKindOfGoKindsBesideInterfaceSaid :=
  over
end Go.Proofs.Qxb6600817a.fnJsonKindOfGoKindsBesideInterface
