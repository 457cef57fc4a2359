import Derived.Test.Qxb6600817aRows
import Derived.Test.Qxb6600817aPlain
import Derived.WalkKit
namespace Go.Proofs.Qxb6600817a.Walk
open Go.RowKit Plain

theorem isWS_any (c : Int) (w : World) : Calls Try.prog 25 #[.int .u8 c] w fun e w' => e = .returned (.bool (ws c)) ∧ w' = w := by
  by_cases h1 : c = 32
  · subst h1
    go_enter Try.func25, Try.ntmps25
    go_wp2
    go_ret
    exact ⟨rfl, rfl⟩
  by_cases h2 : c = 9
  · subst h2
    go_enter Try.func25, Try.ntmps25
    go_wp2
    go_ret
    exact ⟨rfl, rfl⟩
  by_cases h3 : c = 10
  · subst h3
    go_enter Try.func25, Try.ntmps25
    go_wp2
    go_ret
    exact ⟨rfl, rfl⟩
  by_cases h4 : c = 13
  · subst h4
    go_enter Try.func25, Try.ntmps25
    go_wp2
    go_ret
    exact ⟨rfl, rfl⟩
  have g1 : (c == 32) = false := by simp [h1]
  have g2 : (c == 9) = false := by simp [h2]
  have g3 : (c == 10) = false := by simp [h3]
  have g4 : (c == 13) = false := by simp [h4]
  have g : ws c = false := by simp [ws, h1, h2, h3, h4]
  rw [g]
  go_enter Try.func25, Try.ntmps25
  go_wp2
  go_ret
  exact ⟨rfl, rfl⟩

end Go.Proofs.Qxb6600817a.Walk
