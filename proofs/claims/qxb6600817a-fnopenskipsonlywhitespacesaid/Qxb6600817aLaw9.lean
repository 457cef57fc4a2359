/-
  DERIVED. THE WALK OF FnOpenSkipsOnlyWhitespace.
-/
import Derived.Test.Qxb6600817aBounds
namespace Go.Proofs.Qxb6600817a.Walk
open Go.RowKit Plain

set_option maxHeartbeats 1000000 in
theorem law9_in (s : ByteArray) (p : Nat) (c : Int) (w : World) (hs : s.size ≤ 1048576) (hp : p < s.size) :
    Calls Try.prog 9 #[.string s, .int .i64 p, .int .u8 c] w fun e w' => e = .returned (.bool true) ∧ Grown w w' := by
  have hl := lenB_yes hs
  go_enter Try.func9, Try.ntmps9
  go_wp2_with fail
  refine (bytes24 s p c _ (by unfold maxLen; omega)).mono ?_
  rintro e w1 ⟨rfl, rfl⟩
  go_wp2_with fail
  refine (zzOpen_any s p c _ (by omega) (by omega)).mono ?_
  rintro e w1 ⟨r, q, ⟨j, hj, ho⟩, rfl, hg⟩
  have hjs : j ≤ s.size := by have := hj.bound; omega
  have hjl : p + 1 ≤ j := hj.le
  clear hl
  rcases ho with ⟨hb, rfl, rfl⟩ | ⟨hb, rfl, hq⟩
  · have Hb : Hid (bt s j = c) := hb
    clear hb
    have d1 : decide (s.size < j) = false := by simp; omega
    have d2 : decide ((j : Int) + 1 ≤ p) = false := by simp; omega
    go_wp2
    go_loop [10] (fun i => ∃ k : Nat, p + 1 ≤ k ∧ k ≤ j ∧ i = .int .i64 k) (fun i => j - (intOf i).toNat)
    case atStart => exact ⟨p + 1, Nat.le_refl _, hjl, by go_num⟩
    case round =>
      obtain ⟨k, hk1, hk2, rfl⟩ := hrel
      by_cases hlt : k < j
      · have hks : k < s.size := by omega
        have hw : ws (s[k].toNat : Int) = true := by rw [← bt_in hks]; exact (hj.skip k hk1 hlt).2
        go_wp2_with (go_at_call 25; refine (isWS_any _ _).mono ?_; rintro e w' ⟨rfl, rfl⟩)
        go_round
        case rel => exact ⟨k + 1, by omega, by omega, by go_num⟩
        case measure => simp [intOf]; omega
      · obtain rfl : k = j := by omega
        by_cases hks : k < s.size
        · have hc : ((s[k].toNat : Int) == c) = true := by rw [← bt_in hks, Hb.out]; simp
          go_wp2
          go_ret
          exact ⟨rfl, hg⟩
        · have hc : (c == 0) = true := by rw [← Hb.out, bt_out (by omega)]; rfl
          go_wp2
          go_ret
          exact ⟨rfl, hg⟩
  · have hq' := hq.symm
    subst hq'
    have Hb : Hid (bt s j ≠ c) := hb
    clear hb
    have d1 : decide ((s.size : Int) + 1 < j) = false := by simp; omega
    have d2 : decide (j ≤ p) = false := by simp; omega
    go_wp2
    go_loop [10] (fun i => ∃ k : Nat, p + 1 ≤ k ∧ k ≤ j ∧ i = .int .i64 k) (fun i => j - (intOf i).toNat)
    case atStart => exact ⟨p + 1, Nat.le_refl _, hjl, by go_num⟩
    case round =>
      obtain ⟨k, hk1, hk2, rfl⟩ := hrel
      by_cases hlt : k < j
      · have hks : k < s.size := by omega
        have hw : ws (s[k].toNat : Int) = true := by rw [← bt_in hks]; exact (hj.skip k hk1 hlt).2
        go_wp2_with (go_at_call 25; refine (isWS_any _ _).mono ?_; rintro e w' ⟨rfl, rfl⟩)
        go_round
        case rel => exact ⟨k + 1, by omega, by omega, by go_num⟩
        case measure => simp [intOf]; omega
      · obtain rfl : k = j := by omega
        by_cases hks : k < s.size
        · have hw : ws (s[k].toNat : Int) = false := by rw [← bt_in hks]; exact hj.stop hks
          have hc : ((s[k].toNat : Int) != c) = true := by rw [← bt_in hks]; simpa using Hb.out
          go_wp2_with (go_at_call 25; refine (isWS_any _ _).mono ?_; rintro e w' ⟨rfl, rfl⟩)
          go_ret
          exact ⟨rfl, hg⟩
        · have hc : (c != 0) = true := by have := Hb.out; rw [bt_out (by omega)] at this; simpa using fun h => this h.symm
          go_wp2
          go_ret
          exact ⟨rfl, hg⟩

end Go.Proofs.Qxb6600817a.Walk
