/-
  DERIVED. alike AS ONE CONTRACT, ITS SHIM, THE BOUNDS ON LENGTHS, THE ORDER KEY.
-/
import Derived.Test.Qxb6601460aAlike
import Derived.WalkKit
namespace Go.Proofs.Qxb6601460a.Walk
open Go.RowKit Plain

theorem alike_any (n1 d1 t1 : ByteArray) (g1 r1 u1 v1 : Bool) (x1 y1 : ByteArray) (k1 : Int) (n2 d2 t2 : ByteArray) (g2 r2 u2 v2 : Bool) (x2 y2 : ByteArray) (k2 : Int) (w : World) :
    Calls Try.prog 17 #[.agg #[.string n1, .string d1, .string t1, .bool g1, .bool r1, .bool u1, .bool v1, .string x1, .string y1, .int .i64 k1], .agg #[.string n2, .string d2, .string t2, .bool g2, .bool r2, .bool u2, .bool v2, .string x2, .string y2, .int .i64 k2]] w fun e w' => e = .returned (.bool (alikeB d1 t1 y1 d2 t2 y2)) ∧ Below w.heap.size w w' := by
  cases i1 : dtInt d1
  · cases x1h : dtText d1
    · cases x2h : dtText d2
      · cases v1h : dtVar d1
        · have J : alikeB d1 t1 y1 d2 t2 y2 = (t1.toList == t2.toList) := by simp [alikeB, i1, x1h, x2h, v1h]
          rw [J]
          exact alike_12 n1 d1 t1 g1 r1 u1 v1 x1 y1 k1 n2 d2 t2 g2 r2 u2 v2 x2 y2 k2 w i1 x1h x2h v1h
        · cases v2h : dtVar d2
          · have J : alikeB d1 t1 y1 d2 t2 y2 = (t1.toList == t2.toList) := by simp [alikeB, i1, x1h, x2h, v1h, v2h]
            rw [J]
            exact alike_11 n1 d1 t1 g1 r1 u1 v1 x1 y1 k1 n2 d2 t2 g2 r2 u2 v2 x2 y2 k2 w i1 x1h x2h v1h v2h
          · have J : alikeB d1 t1 y1 d2 t2 y2 = true := by simp [alikeB, i1, x1h, x2h, v1h, v2h]
            rw [J]
            exact alike_10 n1 d1 t1 g1 r1 u1 v1 x1 y1 k1 n2 d2 t2 g2 r2 u2 v2 x2 y2 k2 w i1 x1h x2h v1h v2h
      · have J : alikeB d1 t1 y1 d2 t2 y2 = false := by simp [alikeB, i1, x1h, x2h]
        rw [J]
        exact alike_9 n1 d1 t1 g1 r1 u1 v1 x1 y1 k1 n2 d2 t2 g2 r2 u2 v2 x2 y2 k2 w i1 x1h x2h
    · cases x2h : dtText d2
      · have J : alikeB d1 t1 y1 d2 t2 y2 = false := by simp [alikeB, i1, x1h, x2h]
        rw [J]
        exact alike_8 n1 d1 t1 g1 r1 u1 v1 x1 y1 k1 n2 d2 t2 g2 r2 u2 v2 x2 y2 k2 w i1 x1h x2h
      · have J : alikeB d1 t1 y1 d2 t2 y2 = (y1.toList == y2.toList) := by simp [alikeB, i1, x1h, x2h]
        rw [J]
        exact alike_7 n1 d1 t1 g1 r1 u1 v1 x1 y1 k1 n2 d2 t2 g2 r2 u2 v2 x2 y2 k2 w i1 x1h x2h
  · cases i2 : dtInt d2
    · cases x1h : dtText d1
      · cases x2h : dtText d2
        · cases v1h : dtVar d1
          · have J : alikeB d1 t1 y1 d2 t2 y2 = (t1.toList == t2.toList) := by simp [alikeB, i1, i2, x1h, x2h, v1h]
            rw [J]
            exact alike_6 n1 d1 t1 g1 r1 u1 v1 x1 y1 k1 n2 d2 t2 g2 r2 u2 v2 x2 y2 k2 w i1 i2 x1h x2h v1h
          · cases v2h : dtVar d2
            · have J : alikeB d1 t1 y1 d2 t2 y2 = (t1.toList == t2.toList) := by simp [alikeB, i1, i2, x1h, x2h, v1h, v2h]
              rw [J]
              exact alike_5 n1 d1 t1 g1 r1 u1 v1 x1 y1 k1 n2 d2 t2 g2 r2 u2 v2 x2 y2 k2 w i1 i2 x1h x2h v1h v2h
            · have J : alikeB d1 t1 y1 d2 t2 y2 = true := by simp [alikeB, i1, i2, x1h, x2h, v1h, v2h]
              rw [J]
              exact alike_4 n1 d1 t1 g1 r1 u1 v1 x1 y1 k1 n2 d2 t2 g2 r2 u2 v2 x2 y2 k2 w i1 i2 x1h x2h v1h v2h
        · have J : alikeB d1 t1 y1 d2 t2 y2 = false := by simp [alikeB, i1, i2, x1h, x2h]
          rw [J]
          exact alike_3 n1 d1 t1 g1 r1 u1 v1 x1 y1 k1 n2 d2 t2 g2 r2 u2 v2 x2 y2 k2 w i1 i2 x1h x2h
      · cases x2h : dtText d2
        · have J : alikeB d1 t1 y1 d2 t2 y2 = false := by simp [alikeB, i1, i2, x1h, x2h]
          rw [J]
          exact alike_2 n1 d1 t1 g1 r1 u1 v1 x1 y1 k1 n2 d2 t2 g2 r2 u2 v2 x2 y2 k2 w i1 i2 x1h x2h
        · have J : alikeB d1 t1 y1 d2 t2 y2 = (y1.toList == y2.toList) := by simp [alikeB, i1, i2, x1h, x2h]
          rw [J]
          exact alike_1 n1 d1 t1 g1 r1 u1 v1 x1 y1 k1 n2 d2 t2 g2 r2 u2 v2 x2 y2 k2 w i1 i2 x1h x2h
    · have J : alikeB d1 t1 y1 d2 t2 y2 = true := by simp [alikeB, i1, i2]
      rw [J]
      exact alike_0 n1 d1 t1 g1 r1 u1 v1 x1 y1 k1 n2 d2 t2 g2 r2 u2 v2 x2 y2 k2 w i1 i2

set_option maxHeartbeats 400000 in
theorem zzAlike_any (n1 d1 t1 : ByteArray) (g1 r1 u1 v1 : Bool) (x1 y1 : ByteArray) (k1 : Int) (n2 d2 t2 : ByteArray) (g2 r2 u2 v2 : Bool) (x2 y2 : ByteArray) (k2 : Int) (w : World) :
    Calls Try.prog 12 #[.agg #[.string n1, .string d1, .string t1, .bool g1, .bool r1, .bool u1, .bool v1, .string x1, .string y1, .int .i64 k1], .agg #[.string n2, .string d2, .string t2, .bool g2, .bool r2, .bool u2, .bool v2, .string x2, .string y2, .int .i64 k2]] w fun e w' => e = .returned (.bool (alikeB d1 t1 y1 d2 t2 y2)) ∧ Below w.heap.size w w' := by
  go_enter Try.func12, Try.ntmps12
  go_wp2_with fail
  refine (alike_any n1 d1 t1 g1 r1 u1 v1 x1 y1 k1 n2 d2 t2 g2 r2 u2 v2 x2 y2 k2 _).mono ?_
  rintro e w1 ⟨rfl, hb⟩
  go_wp2
  go_ret
  exact ⟨rfl, (((Below.refl w.heap.size w).alloc (Nat.le_refl _) _).alloc (by simp) _).trans (hb.mono (by simp; omega))⟩

def lenB (n : Nat) : Bool := decide (n ≤ 1048576)
theorem lenB_yes {n : Nat} (h : n ≤ 1048576) : lenB n = true := decide_eq_true h
theorem lenB_no {n : Nat} (h : ¬ n ≤ 1048576) : lenB n = false := decide_eq_false h

set_option maxHeartbeats 1000000 in
theorem bytes13_yes (n1 d1 t1 : ByteArray) (g1 r1 u1 v1 : Bool) (x1 y1 : ByteArray) (k1 : Int) (n2 d2 t2 : ByteArray) (g2 r2 u2 v2 : Bool) (x2 y2 : ByteArray) (k2 : Int) (w : World) (h : n1.size + d1.size + t1.size + x1.size + y1.size + n2.size + d2.size + t2.size + x2.size + y2.size ≤ 1048576) :
    Calls Try.prog 13 #[.agg #[.string n1, .string d1, .string t1, .bool g1, .bool r1, .bool u1, .bool v1, .string x1, .string y1, .int .i64 k1], .agg #[.string n2, .string d2, .string t2, .bool g2, .bool r2, .bool u2, .bool v2, .string x2, .string y2, .int .i64 k2]] w fun e w' => e = .returned (.bool true) ∧ w' = (w.alloc (.cells #[.string n1, .string d1, .string t1, .bool g1, .bool r1, .bool u1, .bool v1, .string x1, .string y1, .int .i64 k1] 23)).alloc (.cells #[.string n2, .string d2, .string t2, .bool g2, .bool r2, .bool u2, .bool v2, .string x2, .string y2, .int .i64 k2] 23) := by
  go_enter Try.func13, Try.ntmps13
  go_wp2
  go_ret
  exact ⟨rfl, rfl⟩

set_option maxHeartbeats 1000000 in
theorem bytes13_no (n1 d1 t1 : ByteArray) (g1 r1 u1 v1 : Bool) (x1 y1 : ByteArray) (k1 : Int) (n2 d2 t2 : ByteArray) (g2 r2 u2 v2 : Bool) (x2 y2 : ByteArray) (k2 : Int) (w : World) (zn1 : n1.size ≤ maxLen) (zd1 : d1.size ≤ maxLen) (zt1 : t1.size ≤ maxLen) (zx1 : x1.size ≤ maxLen) (zy1 : y1.size ≤ maxLen) (zn2 : n2.size ≤ maxLen) (zd2 : d2.size ≤ maxLen) (zt2 : t2.size ≤ maxLen) (zx2 : x2.size ≤ maxLen) (zy2 : y2.size ≤ maxLen) (h : ¬ n1.size + d1.size + t1.size + x1.size + y1.size + n2.size + d2.size + t2.size + x2.size + y2.size ≤ 1048576) :
    Calls Try.prog 13 #[.agg #[.string n1, .string d1, .string t1, .bool g1, .bool r1, .bool u1, .bool v1, .string x1, .string y1, .int .i64 k1], .agg #[.string n2, .string d2, .string t2, .bool g2, .bool r2, .bool u2, .bool v2, .string x2, .string y2, .int .i64 k2]] w fun e w' => e = .returned (.bool false) ∧ w' = (w.alloc (.cells #[.string n1, .string d1, .string t1, .bool g1, .bool r1, .bool u1, .bool v1, .string x1, .string y1, .int .i64 k1] 23)).alloc (.cells #[.string n2, .string d2, .string t2, .bool g2, .bool r2, .bool u2, .bool v2, .string x2, .string y2, .int .i64 k2] 23) := by
  unfold maxLen at zn1 zd1 zt1 zx1 zy1 zn2 zd2 zt2 zx2 zy2
  go_enter Try.func13, Try.ntmps13
  go_wp2
  all_goals
    first
      | (exfalso; omega)
      | (go_ret; exact ⟨rfl, rfl⟩)

set_option maxHeartbeats 1000000 in
theorem bytes7_yes (n1 d1 t1 : ByteArray) (g1 r1 u1 v1 : Bool) (x1 y1 : ByteArray) (k1 : Int) (n2 d2 t2 : ByteArray) (g2 r2 u2 v2 : Bool) (x2 y2 : ByteArray) (k2 : Int) (w : World) (h : n1.size + d1.size + t1.size + x1.size + y1.size + n2.size + d2.size + t2.size + x2.size + y2.size ≤ 1048576) :
    Calls Try.prog 7 #[.agg #[.string n1, .string d1, .string t1, .bool g1, .bool r1, .bool u1, .bool v1, .string x1, .string y1, .int .i64 k1], .agg #[.string n2, .string d2, .string t2, .bool g2, .bool r2, .bool u2, .bool v2, .string x2, .string y2, .int .i64 k2]] w fun e w' => e = .returned (.bool true) ∧ w' = (w.alloc (.cells #[.string n1, .string d1, .string t1, .bool g1, .bool r1, .bool u1, .bool v1, .string x1, .string y1, .int .i64 k1] 23)).alloc (.cells #[.string n2, .string d2, .string t2, .bool g2, .bool r2, .bool u2, .bool v2, .string x2, .string y2, .int .i64 k2] 23) := by
  go_enter Try.func7, Try.ntmps7
  go_wp2
  go_ret
  exact ⟨rfl, rfl⟩

set_option maxHeartbeats 1000000 in
theorem bytes7_no (n1 d1 t1 : ByteArray) (g1 r1 u1 v1 : Bool) (x1 y1 : ByteArray) (k1 : Int) (n2 d2 t2 : ByteArray) (g2 r2 u2 v2 : Bool) (x2 y2 : ByteArray) (k2 : Int) (w : World) (zn1 : n1.size ≤ maxLen) (zd1 : d1.size ≤ maxLen) (zt1 : t1.size ≤ maxLen) (zx1 : x1.size ≤ maxLen) (zy1 : y1.size ≤ maxLen) (zn2 : n2.size ≤ maxLen) (zd2 : d2.size ≤ maxLen) (zt2 : t2.size ≤ maxLen) (zx2 : x2.size ≤ maxLen) (zy2 : y2.size ≤ maxLen) (h : ¬ n1.size + d1.size + t1.size + x1.size + y1.size + n2.size + d2.size + t2.size + x2.size + y2.size ≤ 1048576) :
    Calls Try.prog 7 #[.agg #[.string n1, .string d1, .string t1, .bool g1, .bool r1, .bool u1, .bool v1, .string x1, .string y1, .int .i64 k1], .agg #[.string n2, .string d2, .string t2, .bool g2, .bool r2, .bool u2, .bool v2, .string x2, .string y2, .int .i64 k2]] w fun e w' => e = .returned (.bool false) ∧ w' = (w.alloc (.cells #[.string n1, .string d1, .string t1, .bool g1, .bool r1, .bool u1, .bool v1, .string x1, .string y1, .int .i64 k1] 23)).alloc (.cells #[.string n2, .string d2, .string t2, .bool g2, .bool r2, .bool u2, .bool v2, .string x2, .string y2, .int .i64 k2] 23) := by
  unfold maxLen at zn1 zd1 zt1 zx1 zy1 zn2 zd2 zt2 zx2 zy2
  go_enter Try.func7, Try.ntmps7
  go_wp2
  all_goals
    first
      | (exfalso; omega)
      | (go_ret; exact ⟨rfl, rfl⟩)

set_option maxHeartbeats 400000 in
theorem over_no (n1 d1 t1 : ByteArray) (g1 r1 u1 v1 : Bool) (x1 y1 : ByteArray) (k1 : Int) (w : World) (h : n1.size + d1.size + t1.size + x1.size + y1.size ≤ 1048576) :
    Calls Try.prog 8 #[.agg #[.string n1, .string d1, .string t1, .bool g1, .bool r1, .bool u1, .bool v1, .string x1, .string y1, .int .i64 k1]] w fun e w' => e = .returned (.bool false) ∧ w' = w.alloc (.cells #[.string n1, .string d1, .string t1, .bool g1, .bool r1, .bool u1, .bool v1, .string x1, .string y1, .int .i64 k1] 23) := by
  have en : decide ((1048576 : Int) < (n1.size : Int)) = false := by simp; omega
  have ed : decide ((1048576 : Int) < (d1.size : Int)) = false := by simp; omega
  have et : decide ((1048576 : Int) < (t1.size : Int)) = false := by simp; omega
  have ex : decide ((1048576 : Int) < (x1.size : Int)) = false := by simp; omega
  have ey : decide ((1048576 : Int) < (y1.size : Int)) = false := by simp; omega
  go_enter Try.func8, Try.ntmps8
  go_wp2
  go_ret
  exact ⟨rfl, rfl⟩

set_option maxHeartbeats 400000 in
theorem bytes_any (n1 d1 t1 : ByteArray) (g1 r1 u1 v1 : Bool) (x1 y1 : ByteArray) (k1 : Int) (w : World) (h : n1.size + d1.size + t1.size + x1.size + y1.size ≤ 1048576) :
    Calls Try.prog 9 #[.agg #[.string n1, .string d1, .string t1, .bool g1, .bool r1, .bool u1, .bool v1, .string x1, .string y1, .int .i64 k1]] w fun e w' => e = .returned (.int .i64 ((n1.size : Int) + d1.size + t1.size + x1.size + y1.size)) ∧ w' = w.alloc (.cells #[.string n1, .string d1, .string t1, .bool g1, .bool r1, .bool u1, .bool v1, .string x1, .string y1, .int .i64 k1] 23) := by
  go_enter Try.func9, Try.ntmps9
  go_wp2
  go_ret
  exact ⟨rfl, rfl⟩

/-- What decides order within a family. -/
def okey (d t y : ByteArray) : ByteArray := if fam d = 2 then y else if fam d = 0 then t else ⟨#[]⟩

theorem fam_cases (d : ByteArray) : fam d = 0 ∨ fam d = 1 ∨ fam d = 2 ∨ fam d = 3 := by
  unfold fam
  cases dtInt d <;> cases dtText d <;> cases dtVar d <;> simp

set_option maxHeartbeats 400000 in
theorem okey_any (n1 d1 t1 : ByteArray) (g1 r1 u1 v1 : Bool) (x1 y1 : ByteArray) (k1 : Int) (w : World) :
    Calls Try.prog 11 #[.agg #[.string n1, .string d1, .string t1, .bool g1, .bool r1, .bool u1, .bool v1, .string x1, .string y1, .int .i64 k1]] w fun e w' => e = .returned (.string (okey d1 t1 y1)) ∧ w' = w.alloc (.cells #[.string n1, .string d1, .string t1, .bool g1, .bool r1, .bool u1, .bool v1, .string x1, .string y1, .int .i64 k1] 23) := by
  rcases fam_cases d1 with h | h | h | h
  all_goals
    have J := h
    go_enter Try.func11, Try.ntmps11
    go_wp2_with (go_at_call 10; refine (family_any _ _).mono ?_; rintro e w' ⟨rfl, rfl⟩)
    go_ret
    exact ⟨by simp [okey, J], rfl⟩

end Go.Proofs.Qxb6601460a.Walk
