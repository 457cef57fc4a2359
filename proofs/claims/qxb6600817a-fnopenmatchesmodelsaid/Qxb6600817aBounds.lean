/-
  DERIVED. THE WALKS OF THE BOUNDS ON LENGTHS AND OF THE TWO MODELS.
-/
import Derived.Test.Qxb6600817aModel
import Derived.Test.Qxb6600817aOpen
namespace Go.Proofs.Qxb6600817a.Walk
open Go.RowKit Plain

def lenB (n : Nat) : Bool := decide (n ≤ 1048576)
theorem lenB_yes {n : Nat} (h : n ≤ 1048576) : lenB n = true := decide_eq_true h
theorem lenB_no {n : Nat} (h : ¬ n ≤ 1048576) : lenB n = false := decide_eq_false h

set_option maxHeartbeats 400000 in
theorem bytes15 (s : ByteArray) (p : Int) (w : World) (hs : s.size ≤ maxLen) :
    Calls Try.prog 15 #[.string s, .int .i64 p] w fun e w' => e = .returned (.bool (lenB s.size)) ∧ w' = w := by
  unfold maxLen at hs
  by_cases h : s.size ≤ 1048576
  · rw [lenB_yes h]
    go_enter Try.func15, Try.ntmps15
    go_wp2
    go_ret
    exact ⟨rfl, rfl⟩
  · rw [lenB_no h]
    go_enter Try.func15, Try.ntmps15
    go_wp2
    go_ret
    exact ⟨rfl, rfl⟩

set_option maxHeartbeats 400000 in
theorem bytes21 (s : ByteArray) (p c : Int) (w : World) (hs : s.size ≤ maxLen) :
    Calls Try.prog 21 #[.string s, .int .i64 p, .int .u8 c] w fun e w' => e = .returned (.bool (lenB s.size)) ∧ w' = w := by
  unfold maxLen at hs
  by_cases h : s.size ≤ 1048576
  · rw [lenB_yes h]
    go_enter Try.func21, Try.ntmps21
    go_wp2
    go_ret
    exact ⟨rfl, rfl⟩
  · rw [lenB_no h]
    go_enter Try.func21, Try.ntmps21
    go_wp2
    go_ret
    exact ⟨rfl, rfl⟩

set_option maxHeartbeats 400000 in
theorem bytes24 (s : ByteArray) (p c : Int) (w : World) (hs : s.size ≤ maxLen) :
    Calls Try.prog 24 #[.string s, .int .i64 p, .int .u8 c] w fun e w' => e = .returned (.bool (lenB s.size)) ∧ w' = w := by
  unfold maxLen at hs
  by_cases h : s.size ≤ 1048576
  · rw [lenB_yes h]
    go_enter Try.func24, Try.ntmps24
    go_wp2
    go_ret
    exact ⟨rfl, rfl⟩
  · rw [lenB_no h]
    go_enter Try.func24, Try.ntmps24
    go_wp2
    go_ret
    exact ⟨rfl, rfl⟩

set_option maxHeartbeats 400000 in
theorem bytes19 (s t : ByteArray) (p : Int) (w : World) (hs : s.size ≤ maxLen) (ht : t.size ≤ maxLen) :
    Calls Try.prog 19 #[.string s, .int .i64 p, .string t] w fun e w' => e = .returned (.bool (lenB (s.size + t.size))) ∧ w' = w := by
  unfold maxLen at hs ht
  by_cases h : s.size + t.size ≤ 1048576
  · rw [lenB_yes h]
    go_enter Try.func19, Try.ntmps19
    go_wp2
    go_ret
    exact ⟨rfl, rfl⟩
  · rw [lenB_no h]
    by_cases h1 : s.size ≤ 1048576
    · by_cases h2 : t.size ≤ 1048576
      · go_enter Try.func19, Try.ntmps19
        go_wp2
        go_ret
        exact ⟨rfl, rfl⟩
      · go_enter Try.func19, Try.ntmps19
        go_wp2
        go_ret
        exact ⟨rfl, rfl⟩
    · go_enter Try.func19, Try.ntmps19
      go_wp2
      go_ret
      exact ⟨rfl, rfl⟩

set_option maxHeartbeats 400000 in
theorem bytes26 (s t : ByteArray) (p c : Int) (w : World) (hs : s.size ≤ maxLen) (ht : t.size ≤ maxLen) :
    Calls Try.prog 26 #[.string s, .int .i64 p, .int .u8 c, .string t] w fun e w' => e = .returned (.bool (lenB (s.size + t.size))) ∧ w' = w := by
  unfold maxLen at hs ht
  by_cases h : s.size + t.size ≤ 1048576
  · rw [lenB_yes h]
    go_enter Try.func26, Try.ntmps26
    go_wp2
    go_ret
    exact ⟨rfl, rfl⟩
  · rw [lenB_no h]
    by_cases h1 : s.size ≤ 1048576
    · by_cases h2 : t.size ≤ 1048576
      · go_enter Try.func26, Try.ntmps26
        go_wp2
        go_ret
        exact ⟨rfl, rfl⟩
      · go_enter Try.func26, Try.ntmps26
        go_wp2
        go_ret
        exact ⟨rfl, rfl⟩
    · go_enter Try.func26, Try.ntmps26
      go_wp2
      go_ret
      exact ⟨rfl, rfl⟩

set_option maxHeartbeats 400000 in
theorem modelNext_any (s : ByteArray) (p : Nat) (w : World) (hs : s.size ≤ 4194304) :
    Calls Try.prog 17 #[.string s, .int .i64 p] w fun e w' => (∃ j : Nat, Solid s p j ∧ e = .returned (.tuple #[.int .u8 (bt s j), .int .i64 j])) ∧ w' = w := by
  by_cases h : s.size ≤ p
  · go_enter Try.func17, Try.ntmps17
    go_wp2
    go_ret2
    exact ⟨⟨p, solid_here fun hk => by omega, by rw [bt_out h]; rfl⟩, rfl⟩
  · go_enter Try.func17, Try.ntmps17
    go_wp2_with fail
    refine (firstSolid_any s p _ hs (by omega)).mono ?_
    rintro e w1 ⟨⟨j, hj, hjs, rfl⟩, rfl⟩
    by_cases hje : j = s.size
    · subst hje
      go_wp2
      go_ret2
      exact ⟨⟨_, hj, by rw [bt_out (Nat.le_refl _)]; rfl⟩, rfl⟩
    · have hlt : j < s.size := by omega
      go_wp2
      go_ret2
      exact ⟨⟨_, hj, by rw [bt_in hlt]; rfl⟩, rfl⟩

theorem firstSolid_succ (s : ByteArray) (p : Nat) (w : World) (hs : s.size ≤ 4194304) (hp : p + 1 ≤ s.size) :
    Calls Try.prog 29 #[.string s, .int .i64 ((p : Int) + 1)] w fun e w' => (∃ j : Nat, Solid s (p + 1) j ∧ j ≤ s.size ∧ e = .returned (.int .i64 j)) ∧ w' = w := by
  rw [show ((p : Int) + 1) = ((p + 1 : Nat) : Int) by omega]
  exact firstSolid_any s (p + 1) w hs hp

/-- The pair that open and its model answer. -/
def OpenedAns (s : ByteArray) (p : Nat) (c : Int) (e : Ending) : Prop := ∃ (r : Bool) (q : Nat), Opened s p c r q ∧ e = .returned (.tuple #[.bool r, .int .i64 q])

theorem OpenedAns.mk {s : ByteArray} {p : Nat} {c : Int} {e : Ending} {r : Bool} {q : Nat} {n : Int} (h : Opened s p c r q) (hn : n = q) (he : e = .returned (.tuple #[.bool r, .int .i64 n])) : OpenedAns s p c e :=
  ⟨r, q, h, by rw [he, hn]⟩

set_option maxHeartbeats 400000 in
theorem modelOpen_any (s : ByteArray) (p : Nat) (c : Int) (w : World) (hs : s.size ≤ 4194304) (hp : p ≤ 2147483600) :
    Calls Try.prog 23 #[.string s, .int .i64 p, .int .u8 c] w fun e w' => OpenedAns s p c e ∧ w' = w := by
  by_cases h : s.size ≤ p + 1
  · have ho : Solid s (p + 1) (p + 1) := solid_here fun hk => by omega
    have hb := bt_out h
    by_cases hc : c = 0
    · subst hc
      have ha : Opened s p 0 false (p + 1 + 1) := ⟨p + 1, ho, Or.inl ⟨hb, rfl, rfl⟩⟩
      clear hb
      go_enter Try.func23, Try.ntmps23
      go_wp2
      go_ret2
      exact ⟨.mk ha (by omega) rfl, rfl⟩
    · have hc' : (c == 0) = false := by simp [hc]
      have ha : Opened s p c true (p + 1) := ⟨p + 1, ho, Or.inr ⟨fun e => hc (e.symm.trans hb), rfl, rfl⟩⟩
      clear hb
      go_enter Try.func23, Try.ntmps23
      go_wp2
      go_ret2
      exact ⟨.mk ha (by omega) rfl, rfl⟩
  · go_enter Try.func23, Try.ntmps23
    go_wp2_with fail
    refine (firstSolid_succ s p _ hs (by omega)).mono ?_
    rintro e w1 ⟨⟨j, hj, hjs, rfl⟩, rfl⟩
    by_cases hje : j = s.size
    · subst hje
      have hb := bt_out (Nat.le_refl s.size)
      by_cases hc : c = 0
      · subst hc
        have ha : Opened s p 0 false (s.size + 1) := ⟨_, hj, Or.inl ⟨hb, rfl, rfl⟩⟩
        clear hb
        go_wp2
        go_ret2
        exact ⟨.mk ha (by omega) rfl, rfl⟩
      · have hc' : (c == 0) = false := by simp [hc]
        have ha : Opened s p c true s.size := ⟨_, hj, Or.inr ⟨fun e => hc (e.symm.trans hb), rfl, rfl⟩⟩
        clear hb
        go_wp2
        go_ret2
        exact ⟨.mk ha (by omega) rfl, rfl⟩
    · have hlt : j < s.size := by omega
      have hb := bt_in hlt
      by_cases hc : (s[j].toNat : Int) = c
      · have hc' : ((s[j].toNat : Int) == c) = true := by simp [hc]
        have ha : Opened s p c false (j + 1) := ⟨_, hj, Or.inl ⟨hb.trans hc, rfl, rfl⟩⟩
        clear hb hc
        go_wp2
        go_ret2
        exact ⟨.mk ha (by omega) rfl, rfl⟩
      · have hc' : ((s[j].toNat : Int) == c) = false := by simp [hc]
        have ha : Opened s p c true j := ⟨_, hj, Or.inr ⟨fun e => hc (hb.symm.trans e), rfl, rfl⟩⟩
        clear hb hc
        go_wp2
        go_ret2
        exact ⟨.mk ha (by omega) rfl, rfl⟩
end Go.Proofs.Qxb6600817a.Walk
