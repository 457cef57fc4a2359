/-
  DERIVED. THE WALKS OF zzAllWS, zzFirstSolid, the bounds on lengths.
-/
import Derived.Test.Qxb6600817aNext
namespace Go.Proofs.Qxb6600817a.Walk
open Go.RowKit Plain

def allB (s : ByteArray) : Bool := decide (∀ i : Fin s.size, ws (bt s i) = true)

theorem allB_yes {s : ByteArray} (h : ∀ i, i < s.size → ws (bt s i) = true) : allB s = true := by
  unfold allB
  exact decide_eq_true fun i => h i i.isLt

theorem allB_no {s : ByteArray} {k : Nat} (hk : k < s.size) (h : ws (bt s k) = false) : allB s = false := by
  unfold allB
  exact decide_eq_false fun g => by have := g ⟨k, hk⟩; simp only [h] at this; cases this

theorem allB_at {s : ByteArray} (h : allB s = true) (i : Nat) (hi : i < s.size) : ws (bt s i) = true := by
  unfold allB at h
  exact of_decide_eq_true h ⟨i, hi⟩

theorem ret_bool {a b : Bool} (h : a = b) : Ending.returned (.bool a) = .returned (.bool b) := by rw [h]

set_option maxHeartbeats 400000 in
theorem allWS_any (s : ByteArray) (w : World) (hs : s.size ≤ 4194304) :
    Calls Try.prog 20 #[.string s] w fun e w' => e = .returned (.bool (allB s)) ∧ w' = w := by
  go_enter Try.func20, Try.ntmps20
  go_wp2
  go_loop [3] (fun i => ∃ k : Nat, k ≤ s.size ∧ i = .int .i64 k ∧ Blank s 0 k) (fun i => s.size - (intOf i).toNat)
  case atStart => exact ⟨0, Nat.zero_le _, rfl, fun i h1 h2 => by omega⟩
  case round =>
    obtain ⟨k, hk, rfl, hbl⟩ := hrel
    by_cases hlt : k < s.size
    · cases hw : ws (s[k].toNat : Int)
      all_goals
        go_wp2_with (go_at_call 25; refine (isWS_any _ _).mono ?_; rintro e w' ⟨rfl, rfl⟩)
      · go_ret
        exact ⟨ret_bool (allB_no hlt (by rw [bt_in hlt]; exact hw)).symm, rfl⟩
      · exact ⟨⟨k + 1, by omega, by go_num, hbl.step hlt hw⟩, by simp [intOf]; omega⟩
    · go_wp2
      go_ret
      exact ⟨ret_bool (allB_yes fun i hi => (hbl i (Nat.zero_le _) (by omega)).2).symm, rfl⟩

theorem solid_here {s : ByteArray} {k : Nat} (h : ∀ hk : k < s.size, ws (s[k].toNat : Int) = false) : Solid s k k :=
  ⟨Nat.le_refl _, fun i h1 h2 => by omega, fun hk => by rw [bt_in hk]; exact h hk⟩

theorem solid_more {s : ByteArray} {k j : Nat} (hk : k < s.size) (h : ws (s[k].toNat : Int) = true) (g : Solid s (k + 1) j) : Solid s k j :=
  ⟨by have := g.le; omega, fun i h1 h2 => by
    by_cases e : i = k
    · subst e; exact ⟨hk, by rw [bt_in hk]; exact h⟩
    · exact g.skip i (by omega) h2, g.stop⟩

set_option maxHeartbeats 400000 in
theorem firstSolid_any (s : ByteArray) (p : Nat) (w : World) (hs : s.size ≤ 4194304) (hp : p ≤ s.size) :
    Calls Try.prog 29 #[.string s, .int .i64 p] w fun e w' => (∃ j : Nat, Solid s p j ∧ j ≤ s.size ∧ e = .returned (.int .i64 j)) ∧ w' = w := by
  go_enter Try.func29, Try.ntmps29
  go_wp2
  go_loop [5, 6] (fun r i => ∃ k j : Nat, p ≤ k ∧ k ≤ s.size ∧ i = .int .i64 (k - 1) ∧ j ≤ s.size ∧ r = .int .i64 j ∧ Solid s k j) (fun _ i => (intOf i + 1).toNat)
  case atStart => exact ⟨s.size, s.size, hp, Nat.le_refl _, rfl, Nat.le_refl _, rfl, solid_here fun h => by omega⟩
  case round =>
    obtain ⟨k, j, hk1, hk2, rfl, hj, rfl, hso⟩ := hrel
    by_cases hlt : p < k
    · obtain ⟨m, rfl⟩ : ∃ m, k = m + 1 := ⟨k - 1, by omega⟩
      have hm : m < s.size := by omega
      have em : ((m + 1 : Nat) : Int) - 1 = m := by omega
      rw [em]
      clear em
      cases hw : ws (s[m].toNat : Int)
      all_goals
        go_wp2_with (go_at_call 25; refine (isWS_any _ _).mono ?_; rintro e w' ⟨rfl, rfl⟩)
      · refine ⟨⟨m, m, by omega, by omega, rfl, by omega, rfl, solid_here fun _ => hw⟩, by simp [intOf]⟩
      · refine ⟨⟨m, j, by omega, by omega, rfl, by omega, rfl, solid_more hm hw hso⟩, by simp [intOf]⟩
    · obtain rfl : p = k := by omega
      go_wp2
      go_ret
      exact ⟨⟨j, hso, hj, rfl⟩, rfl⟩

end Go.Proofs.Qxb6600817a.Walk
