/-
  DERIVED. THE WALKS OF alike AND ZZalike.
-/
import Derived.Test.Qxb6601460aKinds
import Derived.WalkKit
namespace Go.Proofs.Qxb6601460a.Walk
open Go.RowKit Plain

set_option maxHeartbeats 400000 in
theorem alike_0 (n1 d1 t1 : ByteArray) (g1 r1 u1 v1 : Bool) (x1 y1 : ByteArray) (k1 : Int) (n2 d2 t2 : ByteArray) (g2 r2 u2 v2 : Bool) (x2 y2 : ByteArray) (k2 : Int) (w : World) (h0 : dtInt d1 = true) (h1 : dtInt d2 = true) :
    Calls Try.prog 17 #[.agg #[.string n1, .string d1, .string t1, .bool g1, .bool r1, .bool u1, .bool v1, .string x1, .string y1, .int .i64 k1], .agg #[.string n2, .string d2, .string t2, .bool g2, .bool r2, .bool u2, .bool v2, .string x2, .string y2, .int .i64 k2]] w fun e w' => e = .returned (.bool true) ∧ Below w.heap.size w w' := by
  go_enter Try.func17, Try.ntmps17
  go_wp2_with (first | (go_at_call 19; refine (integer_any _ _ _ _ _ _ _ _ _ _ _).mono ?_; rintro e w' ⟨rfl, rfl⟩) | (go_at_call 20; refine (text_any _ _ _ _ _ _ _ _ _ _ _).mono ?_; rintro e w' ⟨rfl, rfl⟩) | (go_at_call 21; refine (varBytes_any _ _ _ _ _ _ _ _ _ _ _).mono ?_; rintro e w' ⟨rfl, rfl⟩))
  go_ret
  exact ⟨rfl, by repeat (first | exact Below.refl _ _ | refine Below.alloc ?_ (by simp <;> omega) _)⟩

set_option maxHeartbeats 400000 in
theorem alike_1 (n1 d1 t1 : ByteArray) (g1 r1 u1 v1 : Bool) (x1 y1 : ByteArray) (k1 : Int) (n2 d2 t2 : ByteArray) (g2 r2 u2 v2 : Bool) (x2 y2 : ByteArray) (k2 : Int) (w : World) (h0 : dtInt d1 = true) (h1 : dtInt d2 = false) (h2 : dtText d1 = true) (h3 : dtText d2 = true) :
    Calls Try.prog 17 #[.agg #[.string n1, .string d1, .string t1, .bool g1, .bool r1, .bool u1, .bool v1, .string x1, .string y1, .int .i64 k1], .agg #[.string n2, .string d2, .string t2, .bool g2, .bool r2, .bool u2, .bool v2, .string x2, .string y2, .int .i64 k2]] w fun e w' => e = .returned (.bool (y1.toList == y2.toList)) ∧ Below w.heap.size w w' := by
  go_enter Try.func17, Try.ntmps17
  go_wp2_with (first | (go_at_call 19; refine (integer_any _ _ _ _ _ _ _ _ _ _ _).mono ?_; rintro e w' ⟨rfl, rfl⟩) | (go_at_call 20; refine (text_any _ _ _ _ _ _ _ _ _ _ _).mono ?_; rintro e w' ⟨rfl, rfl⟩) | (go_at_call 21; refine (varBytes_any _ _ _ _ _ _ _ _ _ _ _).mono ?_; rintro e w' ⟨rfl, rfl⟩))
  go_ret
  exact ⟨rfl, by repeat (first | exact Below.refl _ _ | refine Below.alloc ?_ (by simp <;> omega) _)⟩

set_option maxHeartbeats 400000 in
theorem alike_2 (n1 d1 t1 : ByteArray) (g1 r1 u1 v1 : Bool) (x1 y1 : ByteArray) (k1 : Int) (n2 d2 t2 : ByteArray) (g2 r2 u2 v2 : Bool) (x2 y2 : ByteArray) (k2 : Int) (w : World) (h0 : dtInt d1 = true) (h1 : dtInt d2 = false) (h2 : dtText d1 = true) (h3 : dtText d2 = false) :
    Calls Try.prog 17 #[.agg #[.string n1, .string d1, .string t1, .bool g1, .bool r1, .bool u1, .bool v1, .string x1, .string y1, .int .i64 k1], .agg #[.string n2, .string d2, .string t2, .bool g2, .bool r2, .bool u2, .bool v2, .string x2, .string y2, .int .i64 k2]] w fun e w' => e = .returned (.bool false) ∧ Below w.heap.size w w' := by
  go_enter Try.func17, Try.ntmps17
  go_wp2_with (first | (go_at_call 19; refine (integer_any _ _ _ _ _ _ _ _ _ _ _).mono ?_; rintro e w' ⟨rfl, rfl⟩) | (go_at_call 20; refine (text_any _ _ _ _ _ _ _ _ _ _ _).mono ?_; rintro e w' ⟨rfl, rfl⟩) | (go_at_call 21; refine (varBytes_any _ _ _ _ _ _ _ _ _ _ _).mono ?_; rintro e w' ⟨rfl, rfl⟩))
  go_ret
  exact ⟨rfl, by repeat (first | exact Below.refl _ _ | refine Below.alloc ?_ (by simp <;> omega) _)⟩

set_option maxHeartbeats 400000 in
theorem alike_3 (n1 d1 t1 : ByteArray) (g1 r1 u1 v1 : Bool) (x1 y1 : ByteArray) (k1 : Int) (n2 d2 t2 : ByteArray) (g2 r2 u2 v2 : Bool) (x2 y2 : ByteArray) (k2 : Int) (w : World) (h0 : dtInt d1 = true) (h1 : dtInt d2 = false) (h2 : dtText d1 = false) (h3 : dtText d2 = true) :
    Calls Try.prog 17 #[.agg #[.string n1, .string d1, .string t1, .bool g1, .bool r1, .bool u1, .bool v1, .string x1, .string y1, .int .i64 k1], .agg #[.string n2, .string d2, .string t2, .bool g2, .bool r2, .bool u2, .bool v2, .string x2, .string y2, .int .i64 k2]] w fun e w' => e = .returned (.bool false) ∧ Below w.heap.size w w' := by
  go_enter Try.func17, Try.ntmps17
  go_wp2_with (first | (go_at_call 19; refine (integer_any _ _ _ _ _ _ _ _ _ _ _).mono ?_; rintro e w' ⟨rfl, rfl⟩) | (go_at_call 20; refine (text_any _ _ _ _ _ _ _ _ _ _ _).mono ?_; rintro e w' ⟨rfl, rfl⟩) | (go_at_call 21; refine (varBytes_any _ _ _ _ _ _ _ _ _ _ _).mono ?_; rintro e w' ⟨rfl, rfl⟩))
  go_ret
  exact ⟨rfl, by repeat (first | exact Below.refl _ _ | refine Below.alloc ?_ (by simp <;> omega) _)⟩

set_option maxHeartbeats 400000 in
theorem alike_4 (n1 d1 t1 : ByteArray) (g1 r1 u1 v1 : Bool) (x1 y1 : ByteArray) (k1 : Int) (n2 d2 t2 : ByteArray) (g2 r2 u2 v2 : Bool) (x2 y2 : ByteArray) (k2 : Int) (w : World) (h0 : dtInt d1 = true) (h1 : dtInt d2 = false) (h2 : dtText d1 = false) (h3 : dtText d2 = false) (h4 : dtVar d1 = true) (h5 : dtVar d2 = true) :
    Calls Try.prog 17 #[.agg #[.string n1, .string d1, .string t1, .bool g1, .bool r1, .bool u1, .bool v1, .string x1, .string y1, .int .i64 k1], .agg #[.string n2, .string d2, .string t2, .bool g2, .bool r2, .bool u2, .bool v2, .string x2, .string y2, .int .i64 k2]] w fun e w' => e = .returned (.bool true) ∧ Below w.heap.size w w' := by
  go_enter Try.func17, Try.ntmps17
  go_wp2_with (first | (go_at_call 19; refine (integer_any _ _ _ _ _ _ _ _ _ _ _).mono ?_; rintro e w' ⟨rfl, rfl⟩) | (go_at_call 20; refine (text_any _ _ _ _ _ _ _ _ _ _ _).mono ?_; rintro e w' ⟨rfl, rfl⟩) | (go_at_call 21; refine (varBytes_any _ _ _ _ _ _ _ _ _ _ _).mono ?_; rintro e w' ⟨rfl, rfl⟩))
  go_ret
  exact ⟨rfl, by repeat (first | exact Below.refl _ _ | refine Below.alloc ?_ (by simp <;> omega) _)⟩

set_option maxHeartbeats 400000 in
theorem alike_5 (n1 d1 t1 : ByteArray) (g1 r1 u1 v1 : Bool) (x1 y1 : ByteArray) (k1 : Int) (n2 d2 t2 : ByteArray) (g2 r2 u2 v2 : Bool) (x2 y2 : ByteArray) (k2 : Int) (w : World) (h0 : dtInt d1 = true) (h1 : dtInt d2 = false) (h2 : dtText d1 = false) (h3 : dtText d2 = false) (h4 : dtVar d1 = true) (h5 : dtVar d2 = false) :
    Calls Try.prog 17 #[.agg #[.string n1, .string d1, .string t1, .bool g1, .bool r1, .bool u1, .bool v1, .string x1, .string y1, .int .i64 k1], .agg #[.string n2, .string d2, .string t2, .bool g2, .bool r2, .bool u2, .bool v2, .string x2, .string y2, .int .i64 k2]] w fun e w' => e = .returned (.bool (t1.toList == t2.toList)) ∧ Below w.heap.size w w' := by
  go_enter Try.func17, Try.ntmps17
  go_wp2_with (first | (go_at_call 19; refine (integer_any _ _ _ _ _ _ _ _ _ _ _).mono ?_; rintro e w' ⟨rfl, rfl⟩) | (go_at_call 20; refine (text_any _ _ _ _ _ _ _ _ _ _ _).mono ?_; rintro e w' ⟨rfl, rfl⟩) | (go_at_call 21; refine (varBytes_any _ _ _ _ _ _ _ _ _ _ _).mono ?_; rintro e w' ⟨rfl, rfl⟩))
  go_ret
  exact ⟨rfl, by repeat (first | exact Below.refl _ _ | refine Below.alloc ?_ (by simp <;> omega) _)⟩

set_option maxHeartbeats 400000 in
theorem alike_6 (n1 d1 t1 : ByteArray) (g1 r1 u1 v1 : Bool) (x1 y1 : ByteArray) (k1 : Int) (n2 d2 t2 : ByteArray) (g2 r2 u2 v2 : Bool) (x2 y2 : ByteArray) (k2 : Int) (w : World) (h0 : dtInt d1 = true) (h1 : dtInt d2 = false) (h2 : dtText d1 = false) (h3 : dtText d2 = false) (h4 : dtVar d1 = false) :
    Calls Try.prog 17 #[.agg #[.string n1, .string d1, .string t1, .bool g1, .bool r1, .bool u1, .bool v1, .string x1, .string y1, .int .i64 k1], .agg #[.string n2, .string d2, .string t2, .bool g2, .bool r2, .bool u2, .bool v2, .string x2, .string y2, .int .i64 k2]] w fun e w' => e = .returned (.bool (t1.toList == t2.toList)) ∧ Below w.heap.size w w' := by
  go_enter Try.func17, Try.ntmps17
  go_wp2_with (first | (go_at_call 19; refine (integer_any _ _ _ _ _ _ _ _ _ _ _).mono ?_; rintro e w' ⟨rfl, rfl⟩) | (go_at_call 20; refine (text_any _ _ _ _ _ _ _ _ _ _ _).mono ?_; rintro e w' ⟨rfl, rfl⟩) | (go_at_call 21; refine (varBytes_any _ _ _ _ _ _ _ _ _ _ _).mono ?_; rintro e w' ⟨rfl, rfl⟩))
  go_ret
  exact ⟨rfl, by repeat (first | exact Below.refl _ _ | refine Below.alloc ?_ (by simp <;> omega) _)⟩

set_option maxHeartbeats 400000 in
theorem alike_7 (n1 d1 t1 : ByteArray) (g1 r1 u1 v1 : Bool) (x1 y1 : ByteArray) (k1 : Int) (n2 d2 t2 : ByteArray) (g2 r2 u2 v2 : Bool) (x2 y2 : ByteArray) (k2 : Int) (w : World) (h0 : dtInt d1 = false) (h1 : dtText d1 = true) (h2 : dtText d2 = true) :
    Calls Try.prog 17 #[.agg #[.string n1, .string d1, .string t1, .bool g1, .bool r1, .bool u1, .bool v1, .string x1, .string y1, .int .i64 k1], .agg #[.string n2, .string d2, .string t2, .bool g2, .bool r2, .bool u2, .bool v2, .string x2, .string y2, .int .i64 k2]] w fun e w' => e = .returned (.bool (y1.toList == y2.toList)) ∧ Below w.heap.size w w' := by
  go_enter Try.func17, Try.ntmps17
  go_wp2_with (first | (go_at_call 19; refine (integer_any _ _ _ _ _ _ _ _ _ _ _).mono ?_; rintro e w' ⟨rfl, rfl⟩) | (go_at_call 20; refine (text_any _ _ _ _ _ _ _ _ _ _ _).mono ?_; rintro e w' ⟨rfl, rfl⟩) | (go_at_call 21; refine (varBytes_any _ _ _ _ _ _ _ _ _ _ _).mono ?_; rintro e w' ⟨rfl, rfl⟩))
  go_ret
  exact ⟨rfl, by repeat (first | exact Below.refl _ _ | refine Below.alloc ?_ (by simp <;> omega) _)⟩

set_option maxHeartbeats 400000 in
theorem alike_8 (n1 d1 t1 : ByteArray) (g1 r1 u1 v1 : Bool) (x1 y1 : ByteArray) (k1 : Int) (n2 d2 t2 : ByteArray) (g2 r2 u2 v2 : Bool) (x2 y2 : ByteArray) (k2 : Int) (w : World) (h0 : dtInt d1 = false) (h1 : dtText d1 = true) (h2 : dtText d2 = false) :
    Calls Try.prog 17 #[.agg #[.string n1, .string d1, .string t1, .bool g1, .bool r1, .bool u1, .bool v1, .string x1, .string y1, .int .i64 k1], .agg #[.string n2, .string d2, .string t2, .bool g2, .bool r2, .bool u2, .bool v2, .string x2, .string y2, .int .i64 k2]] w fun e w' => e = .returned (.bool false) ∧ Below w.heap.size w w' := by
  go_enter Try.func17, Try.ntmps17
  go_wp2_with (first | (go_at_call 19; refine (integer_any _ _ _ _ _ _ _ _ _ _ _).mono ?_; rintro e w' ⟨rfl, rfl⟩) | (go_at_call 20; refine (text_any _ _ _ _ _ _ _ _ _ _ _).mono ?_; rintro e w' ⟨rfl, rfl⟩) | (go_at_call 21; refine (varBytes_any _ _ _ _ _ _ _ _ _ _ _).mono ?_; rintro e w' ⟨rfl, rfl⟩))
  go_ret
  exact ⟨rfl, by repeat (first | exact Below.refl _ _ | refine Below.alloc ?_ (by simp <;> omega) _)⟩

set_option maxHeartbeats 400000 in
theorem alike_9 (n1 d1 t1 : ByteArray) (g1 r1 u1 v1 : Bool) (x1 y1 : ByteArray) (k1 : Int) (n2 d2 t2 : ByteArray) (g2 r2 u2 v2 : Bool) (x2 y2 : ByteArray) (k2 : Int) (w : World) (h0 : dtInt d1 = false) (h1 : dtText d1 = false) (h2 : dtText d2 = true) :
    Calls Try.prog 17 #[.agg #[.string n1, .string d1, .string t1, .bool g1, .bool r1, .bool u1, .bool v1, .string x1, .string y1, .int .i64 k1], .agg #[.string n2, .string d2, .string t2, .bool g2, .bool r2, .bool u2, .bool v2, .string x2, .string y2, .int .i64 k2]] w fun e w' => e = .returned (.bool false) ∧ Below w.heap.size w w' := by
  go_enter Try.func17, Try.ntmps17
  go_wp2_with (first | (go_at_call 19; refine (integer_any _ _ _ _ _ _ _ _ _ _ _).mono ?_; rintro e w' ⟨rfl, rfl⟩) | (go_at_call 20; refine (text_any _ _ _ _ _ _ _ _ _ _ _).mono ?_; rintro e w' ⟨rfl, rfl⟩) | (go_at_call 21; refine (varBytes_any _ _ _ _ _ _ _ _ _ _ _).mono ?_; rintro e w' ⟨rfl, rfl⟩))
  go_ret
  exact ⟨rfl, by repeat (first | exact Below.refl _ _ | refine Below.alloc ?_ (by simp <;> omega) _)⟩

set_option maxHeartbeats 400000 in
theorem alike_10 (n1 d1 t1 : ByteArray) (g1 r1 u1 v1 : Bool) (x1 y1 : ByteArray) (k1 : Int) (n2 d2 t2 : ByteArray) (g2 r2 u2 v2 : Bool) (x2 y2 : ByteArray) (k2 : Int) (w : World) (h0 : dtInt d1 = false) (h1 : dtText d1 = false) (h2 : dtText d2 = false) (h3 : dtVar d1 = true) (h4 : dtVar d2 = true) :
    Calls Try.prog 17 #[.agg #[.string n1, .string d1, .string t1, .bool g1, .bool r1, .bool u1, .bool v1, .string x1, .string y1, .int .i64 k1], .agg #[.string n2, .string d2, .string t2, .bool g2, .bool r2, .bool u2, .bool v2, .string x2, .string y2, .int .i64 k2]] w fun e w' => e = .returned (.bool true) ∧ Below w.heap.size w w' := by
  go_enter Try.func17, Try.ntmps17
  go_wp2_with (first | (go_at_call 19; refine (integer_any _ _ _ _ _ _ _ _ _ _ _).mono ?_; rintro e w' ⟨rfl, rfl⟩) | (go_at_call 20; refine (text_any _ _ _ _ _ _ _ _ _ _ _).mono ?_; rintro e w' ⟨rfl, rfl⟩) | (go_at_call 21; refine (varBytes_any _ _ _ _ _ _ _ _ _ _ _).mono ?_; rintro e w' ⟨rfl, rfl⟩))
  go_ret
  exact ⟨rfl, by repeat (first | exact Below.refl _ _ | refine Below.alloc ?_ (by simp <;> omega) _)⟩

set_option maxHeartbeats 400000 in
theorem alike_11 (n1 d1 t1 : ByteArray) (g1 r1 u1 v1 : Bool) (x1 y1 : ByteArray) (k1 : Int) (n2 d2 t2 : ByteArray) (g2 r2 u2 v2 : Bool) (x2 y2 : ByteArray) (k2 : Int) (w : World) (h0 : dtInt d1 = false) (h1 : dtText d1 = false) (h2 : dtText d2 = false) (h3 : dtVar d1 = true) (h4 : dtVar d2 = false) :
    Calls Try.prog 17 #[.agg #[.string n1, .string d1, .string t1, .bool g1, .bool r1, .bool u1, .bool v1, .string x1, .string y1, .int .i64 k1], .agg #[.string n2, .string d2, .string t2, .bool g2, .bool r2, .bool u2, .bool v2, .string x2, .string y2, .int .i64 k2]] w fun e w' => e = .returned (.bool (t1.toList == t2.toList)) ∧ Below w.heap.size w w' := by
  go_enter Try.func17, Try.ntmps17
  go_wp2_with (first | (go_at_call 19; refine (integer_any _ _ _ _ _ _ _ _ _ _ _).mono ?_; rintro e w' ⟨rfl, rfl⟩) | (go_at_call 20; refine (text_any _ _ _ _ _ _ _ _ _ _ _).mono ?_; rintro e w' ⟨rfl, rfl⟩) | (go_at_call 21; refine (varBytes_any _ _ _ _ _ _ _ _ _ _ _).mono ?_; rintro e w' ⟨rfl, rfl⟩))
  go_ret
  exact ⟨rfl, by repeat (first | exact Below.refl _ _ | refine Below.alloc ?_ (by simp <;> omega) _)⟩

set_option maxHeartbeats 400000 in
theorem alike_12 (n1 d1 t1 : ByteArray) (g1 r1 u1 v1 : Bool) (x1 y1 : ByteArray) (k1 : Int) (n2 d2 t2 : ByteArray) (g2 r2 u2 v2 : Bool) (x2 y2 : ByteArray) (k2 : Int) (w : World) (h0 : dtInt d1 = false) (h1 : dtText d1 = false) (h2 : dtText d2 = false) (h3 : dtVar d1 = false) :
    Calls Try.prog 17 #[.agg #[.string n1, .string d1, .string t1, .bool g1, .bool r1, .bool u1, .bool v1, .string x1, .string y1, .int .i64 k1], .agg #[.string n2, .string d2, .string t2, .bool g2, .bool r2, .bool u2, .bool v2, .string x2, .string y2, .int .i64 k2]] w fun e w' => e = .returned (.bool (t1.toList == t2.toList)) ∧ Below w.heap.size w w' := by
  go_enter Try.func17, Try.ntmps17
  go_wp2_with (first | (go_at_call 19; refine (integer_any _ _ _ _ _ _ _ _ _ _ _).mono ?_; rintro e w' ⟨rfl, rfl⟩) | (go_at_call 20; refine (text_any _ _ _ _ _ _ _ _ _ _ _).mono ?_; rintro e w' ⟨rfl, rfl⟩) | (go_at_call 21; refine (varBytes_any _ _ _ _ _ _ _ _ _ _ _).mono ?_; rintro e w' ⟨rfl, rfl⟩))
  go_ret
  exact ⟨rfl, by repeat (first | exact Below.refl _ _ | refine Below.alloc ?_ (by simp <;> omega) _)⟩

end Go.Proofs.Qxb6601460a.Walk
