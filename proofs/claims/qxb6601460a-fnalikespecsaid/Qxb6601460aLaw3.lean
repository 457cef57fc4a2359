/-
  DERIVED. THE WALK OF FnAlikeSpec.
-/
import Derived.Test.Qxb6601460aClass
import Derived.Test.Qxb6601460aWant
namespace Go.Proofs.Qxb6601460a.Walk
open Go.RowKit Plain BigFrame

set_option maxHeartbeats 4000000 in
theorem law3_in (n1 d1 t1 : ByteArray) (g1 r1 u1 v1 : Bool) (x1 y1 : ByteArray) (k1 : Int) (n2 d2 t2 : ByteArray) (g2 r2 u2 v2 : Bool) (x2 y2 : ByteArray) (k2 : Int) (w : World) (h : n1.size + d1.size + t1.size + x1.size + y1.size + n2.size + d2.size + t2.size + x2.size + y2.size ≤ 1048576) :
    Calls Try.prog 3 #[.agg #[.string n1, .string d1, .string t1, .bool g1, .bool r1, .bool u1, .bool v1, .string x1, .string y1, .int .i64 k1], .agg #[.string n2, .string d2, .string t2, .bool g2, .bool r2, .bool u2, .bool v2, .string x2, .string y2, .int .i64 k2]] w fun e w' => e = .returned (.bool true) ∧ Below w.heap.size w w' := by
  obtain ⟨W, hW⟩ : ∃ W, W = ((((((w.alloc (.cells #[.string n1, .string d1, .string t1, .bool g1, .bool r1, .bool u1, .bool v1, .string x1, .string y1, .int .i64 k1] 23)).alloc (.cells #[.string n2, .string d2, .string t2, .bool g2, .bool r2, .bool u2, .bool v2, .string x2, .string y2, .int .i64 k2] 23)).alloc (.cells #[.string n1, .string d1, .string t1, .bool g1, .bool r1, .bool u1, .bool v1, .string x1, .string y1, .int .i64 k1] 23)).alloc (.cells #[.string n2, .string d2, .string t2, .bool g2, .bool r2, .bool u2, .bool v2, .string x2, .string y2, .int .i64 k2] 23)).alloc (.cells #[.string n1, .string d1, .string t1, .bool g1, .bool r1, .bool u1, .bool v1, .string x1, .string y1, .int .i64 k1] 23)).alloc (.cells #[.string n2, .string d2, .string t2, .bool g2, .bool r2, .bool u2, .bool v2, .string x2, .string y2, .int .i64 k2] 23)) := ⟨_, rfl⟩
  obtain ⟨H1, H2, hbW, hsz⟩ := boxes n1 d1 t1 g1 r1 u1 v1 x1 y1 k1 n2 d2 t2 g2 r2 u2 v2 x2 y2 k2 w W hW
  have HW : Hid (W = ((((((w.alloc (.cells #[.string n1, .string d1, .string t1, .bool g1, .bool r1, .bool u1, .bool v1, .string x1, .string y1, .int .i64 k1] 23)).alloc (.cells #[.string n2, .string d2, .string t2, .bool g2, .bool r2, .bool u2, .bool v2, .string x2, .string y2, .int .i64 k2] 23)).alloc (.cells #[.string n1, .string d1, .string t1, .bool g1, .bool r1, .bool u1, .bool v1, .string x1, .string y1, .int .i64 k1] 23)).alloc (.cells #[.string n2, .string d2, .string t2, .bool g2, .bool r2, .bool u2, .bool v2, .string x2, .string y2, .int .i64 k2] 23)).alloc (.cells #[.string n1, .string d1, .string t1, .bool g1, .bool r1, .bool u1, .bool v1, .string x1, .string y1, .int .i64 k1] 23)).alloc (.cells #[.string n2, .string d2, .string t2, .bool g2, .bool r2, .bool u2, .bool v2, .string x2, .string y2, .int .i64 k2] 23))) := hW
  clear hW
  go_enter Try.func3, Try.ntmps3
  go_wp2_with fail
  refine (bytes7_yes n1 d1 t1 g1 r1 u1 v1 x1 y1 k1 n2 d2 t2 g2 r2 u2 v2 x2 y2 k2 _ h).mono ?_
  rintro e w1 ⟨rfl, rfl⟩
  go_wp2_with fail
  refine (over_no n1 d1 t1 g1 r1 u1 v1 x1 y1 k1 _ (by omega)).mono ?_
  rintro e w1 ⟨rfl, rfl⟩
  go_wp2_with fail
  refine (over_no n2 d2 t2 g2 r2 u2 v2 x2 y2 k2 _ (by omega)).mono ?_
  rintro e w1 ⟨rfl, rfl⟩
  go_wp2_with fail
  rw [← HW.out]
  clear HW
  have hlta : w.heap.size < W.heap.size := by omega
  have hltb : w.heap.size + 1 < W.heap.size := hsz
  have hne : Nonempty (Cl W) := ⟨⟨W, Below.refl _ _⟩⟩
  have a0 := fun g : Cl W => (Holds.below H1 g.below hlta).c0
  have a1 := fun g : Cl W => (Holds.below H1 g.below hlta).c1
  have a2 := fun g : Cl W => (Holds.below H1 g.below hlta).c2
  have a3 := fun g : Cl W => (Holds.below H1 g.below hlta).c3
  have a4 := fun g : Cl W => (Holds.below H1 g.below hlta).c4
  have a5 := fun g : Cl W => (Holds.below H1 g.below hlta).c5
  have a6 := fun g : Cl W => (Holds.below H1 g.below hlta).c6
  have a7 := fun g : Cl W => (Holds.below H1 g.below hlta).c7
  have a8 := fun g : Cl W => (Holds.below H1 g.below hlta).c8
  have a9 := fun g : Cl W => (Holds.below H1 g.below hlta).c9
  have b0 := fun g : Cl W => (Holds.below H2 g.below hltb).c0
  have b1 := fun g : Cl W => (Holds.below H2 g.below hltb).c1
  have b2 := fun g : Cl W => (Holds.below H2 g.below hltb).c2
  have b3 := fun g : Cl W => (Holds.below H2 g.below hltb).c3
  have b4 := fun g : Cl W => (Holds.below H2 g.below hltb).c4
  have b5 := fun g : Cl W => (Holds.below H2 g.below hltb).c5
  have b6 := fun g : Cl W => (Holds.below H2 g.below hltb).c6
  have b7 := fun g : Cl W => (Holds.below H2 g.below hltb).c7
  have b8 := fun g : Cl W => (Holds.below H2 g.below hltb).c8
  have b9 := fun g : Cl W => (Holds.below H2 g.below hltb).c9
  refine wp_region_below (by kernel_rfl) (by kernel_rfl) W (Below.refl _ _) ?_
  repeat (go_big_quiet_step ((go_at_call 9; exact bytes_cl _ _ _ _ _ _ _ _ _ _ _ (by omega))))
  refine wpQuiet_nil ?_
  rintro wa ⟨⟨_, hwa⟩, rfl⟩
  clear a0 b0 a1 b1 a2 b2 a3 b3 a4 b4 a5 b5 a6 b6 a7 b7 a8 b8 a9 b9
  have G1 := H1.below hwa hlta
  have G2 := H2.below hwa hltb
  have hza : w.heap.size + 1 < wa.heap.size := by have := hwa.size; omega
  have a0 := G1.c0
  have a1 := G1.c1
  have a2 := G1.c2
  have a3 := G1.c3
  have a4 := G1.c4
  have a5 := G1.c5
  have a6 := G1.c6
  have a7 := G1.c7
  have a8 := G1.c8
  have a9 := G1.c9
  have b0 := G2.c0
  have b1 := G2.c1
  have b2 := G2.c2
  have b3 := G2.c3
  have b4 := G2.c4
  have b5 := G2.c5
  have b6 := G2.c6
  have b7 := G2.c7
  have b8 := G2.c8
  have b9 := G2.c9
  go_wp2_with (go_at_call 10; refine (family_any _ _).mono ?_; rintro e w' ⟨rfl, hw⟩; have hw2 := hw.symm; clear hw; subst hw2)
  clear a0 b0 a1 b1 a2 b2 a3 b3 a4 b4 a5 b5 a6 b6 a7 b7 a8 b8 a9 b9
  have hltp : w.heap.size < wa.heap.size := by omega
  have hltq : w.heap.size + 1 < wa.heap.size := hza
  have hneV : Nonempty (Cl wa) := ⟨⟨wa, Below.refl _ _⟩⟩
  have p0 := fun g : Cl wa => (Holds.below G1 g.below hltp).c0
  have p1 := fun g : Cl wa => (Holds.below G1 g.below hltp).c1
  have p2 := fun g : Cl wa => (Holds.below G1 g.below hltp).c2
  have p3 := fun g : Cl wa => (Holds.below G1 g.below hltp).c3
  have p4 := fun g : Cl wa => (Holds.below G1 g.below hltp).c4
  have p5 := fun g : Cl wa => (Holds.below G1 g.below hltp).c5
  have p6 := fun g : Cl wa => (Holds.below G1 g.below hltp).c6
  have p7 := fun g : Cl wa => (Holds.below G1 g.below hltp).c7
  have p8 := fun g : Cl wa => (Holds.below G1 g.below hltp).c8
  have p9 := fun g : Cl wa => (Holds.below G1 g.below hltp).c9
  have q0 := fun g : Cl wa => (Holds.below G2 g.below hltq).c0
  have q1 := fun g : Cl wa => (Holds.below G2 g.below hltq).c1
  have q2 := fun g : Cl wa => (Holds.below G2 g.below hltq).c2
  have q3 := fun g : Cl wa => (Holds.below G2 g.below hltq).c3
  have q4 := fun g : Cl wa => (Holds.below G2 g.below hltq).c4
  have q5 := fun g : Cl wa => (Holds.below G2 g.below hltq).c5
  have q6 := fun g : Cl wa => (Holds.below G2 g.below hltq).c6
  have q7 := fun g : Cl wa => (Holds.below G2 g.below hltq).c7
  have q8 := fun g : Cl wa => (Holds.below G2 g.below hltq).c8
  have q9 := fun g : Cl wa => (Holds.below G2 g.below hltq).c9
  have hwant := want_ways d1 t1 y1 d2 t2 y2
  unfold Want at hwant
  rcases hwant with ⟨e1, e2, e3⟩ | ⟨e1, e2, e3, e4⟩ | ⟨e1, e2, e3, e4, e5⟩ | ⟨e1, e2, e3⟩ | ⟨e1, e2, e3, e4⟩ | ⟨e1, e2, e3, e4⟩
  all_goals
    refine wp_region_below (by kernel_rfl) (by kernel_rfl) wa (Below.refl _ _) ?_
    repeat (go_big_quiet_step ((go_at_call 11; exact okey_cl _ _ _ _ _ _ _ _ _ _ _)))
    refine wpQuiet_nil ?_
    rintro wb ⟨⟨_, hwb⟩, rfl⟩
    clear p0 q0 p1 q1 p2 q2 p3 q3 p4 q4 p5 q5 p6 q6 p7 q7 p8 q8 p9 q9
    have I1 := G1.below hwb hltp
    have I2 := G2.below hwb hltq
    have hzb : w.heap.size + 1 < wb.heap.size := by have := hwb.size; omega
    have a0 := I1.c0
    have a1 := I1.c1
    have a2 := I1.c2
    have a3 := I1.c3
    have a4 := I1.c4
    have a5 := I1.c5
    have a6 := I1.c6
    have a7 := I1.c7
    have a8 := I1.c8
    have a9 := I1.c9
    have b0 := I2.c0
    have b1 := I2.c1
    have b2 := I2.c2
    have b3 := I2.c3
    have b4 := I2.c4
    have b5 := I2.c5
    have b6 := I2.c6
    have b7 := I2.c7
    have b8 := I2.c8
    have b9 := I2.c9
    go_wp2_with fail
    refine (zzAlike_any n1 d1 t1 g1 r1 u1 v1 x1 y1 k1 n2 d2 t2 g2 r2 u2 v2 x2 y2 k2 _).mono ?_
    rintro e wc ⟨rfl, hbc⟩
    go_wp2
    go_ret
    exact ⟨rfl, hbW.trans ((hwa.mono (by omega)).trans ((hwb.mono (by omega)).trans (hbc.mono (by omega))))⟩

end Go.Proofs.Qxb6601460a.Walk
