/-
  DERIVED. THE WALKS OF integer, text, varBytes, cmpB1Family.
-/
import Derived.Test.Qxb6601460aRows
import Derived.Test.Qxb6601460aPlain
import Derived.WalkKit
namespace Go.Proofs.Qxb6601460a.Walk
open Go.RowKit Plain

theorem ret_b {a b : Bool} (h : a = b) : Ending.returned (.bool a) = .returned (.bool b) := by rw [h]
theorem ret_i {k : IntKind} {a b : Int} (h : a = b) : Ending.returned (.int k a) = .returned (.int k b) := by rw [h]

set_option maxHeartbeats 400000 in
theorem integer_any (n1 d1 t1 : ByteArray) (g1 r1 u1 v1 : Bool) (x1 y1 : ByteArray) (k1 : Int) (w : World) :
    Calls Try.prog 19 #[.agg #[.string n1, .string d1, .string t1, .bool g1, .bool r1, .bool u1, .bool v1, .string x1, .string y1, .int .i64 k1]] w fun e w' => e = .returned (.bool (dtInt d1)) ∧ w' = w.alloc (.cells #[.string n1, .string d1, .string t1, .bool g1, .bool r1, .bool u1, .bool v1, .string x1, .string y1, .int .i64 k1] 30) := by
  cases h0 : (d1.toList == [116, 105, 110, 121, 105, 110, 116])
  · cases h1 : (d1.toList == [115, 109, 97, 108, 108, 105, 110, 116])
    · cases h2 : (d1.toList == [109, 101, 100, 105, 117, 109, 105, 110, 116])
      · cases h3 : (d1.toList == [105, 110, 116])
        · cases h4 : (d1.toList == [98, 105, 103, 105, 110, 116])
          · have J : dtInt d1 = false := by simp only [dtInt, h0, h1, h2, h3, h4]; rfl
            rw [J]
            clear J
            go_enter Try.func19, Try.ntmps19
            go_wp2
            go_ret
            exact ⟨rfl, rfl⟩
          · have J : dtInt d1 = true := by simp only [dtInt, h0, h1, h2, h3, h4]; rfl
            rw [J]
            clear J
            go_enter Try.func19, Try.ntmps19
            go_wp2
            go_ret
            exact ⟨rfl, rfl⟩
        · have J : dtInt d1 = true := by simp only [dtInt, h0, h1, h2, h3]; rfl
          rw [J]
          clear J
          go_enter Try.func19, Try.ntmps19
          go_wp2
          go_ret
          exact ⟨rfl, rfl⟩
      · have J : dtInt d1 = true := by simp only [dtInt, h0, h1, h2]; rfl
        rw [J]
        clear J
        go_enter Try.func19, Try.ntmps19
        go_wp2
        go_ret
        exact ⟨rfl, rfl⟩
    · have J : dtInt d1 = true := by simp only [dtInt, h0, h1]; rfl
      rw [J]
      clear J
      go_enter Try.func19, Try.ntmps19
      go_wp2
      go_ret
      exact ⟨rfl, rfl⟩
  · have J : dtInt d1 = true := by simp only [dtInt, h0]; rfl
    rw [J]
    clear J
    go_enter Try.func19, Try.ntmps19
    go_wp2
    go_ret
    exact ⟨rfl, rfl⟩

set_option maxHeartbeats 400000 in
theorem text_any (n1 d1 t1 : ByteArray) (g1 r1 u1 v1 : Bool) (x1 y1 : ByteArray) (k1 : Int) (w : World) :
    Calls Try.prog 20 #[.agg #[.string n1, .string d1, .string t1, .bool g1, .bool r1, .bool u1, .bool v1, .string x1, .string y1, .int .i64 k1]] w fun e w' => e = .returned (.bool (dtText d1)) ∧ w' = w.alloc (.cells #[.string n1, .string d1, .string t1, .bool g1, .bool r1, .bool u1, .bool v1, .string x1, .string y1, .int .i64 k1] 30) := by
  cases h0 : (d1.toList == [99, 104, 97, 114])
  · cases h1 : (d1.toList == [118, 97, 114, 99, 104, 97, 114])
    · cases h2 : (d1.toList == [116, 105, 110, 121, 116, 101, 120, 116])
      · cases h3 : (d1.toList == [116, 101, 120, 116])
        · cases h4 : (d1.toList == [109, 101, 100, 105, 117, 109, 116, 101, 120, 116])
          · cases h5 : (d1.toList == [108, 111, 110, 103, 116, 101, 120, 116])
            · have J : dtText d1 = false := by simp only [dtText, h0, h1, h2, h3, h4, h5]; rfl
              rw [J]
              clear J
              go_enter Try.func20, Try.ntmps20
              go_wp2
              go_ret
              exact ⟨rfl, rfl⟩
            · have J : dtText d1 = true := by simp only [dtText, h0, h1, h2, h3, h4, h5]; rfl
              rw [J]
              clear J
              go_enter Try.func20, Try.ntmps20
              go_wp2
              go_ret
              exact ⟨rfl, rfl⟩
          · have J : dtText d1 = true := by simp only [dtText, h0, h1, h2, h3, h4]; rfl
            rw [J]
            clear J
            go_enter Try.func20, Try.ntmps20
            go_wp2
            go_ret
            exact ⟨rfl, rfl⟩
        · have J : dtText d1 = true := by simp only [dtText, h0, h1, h2, h3]; rfl
          rw [J]
          clear J
          go_enter Try.func20, Try.ntmps20
          go_wp2
          go_ret
          exact ⟨rfl, rfl⟩
      · have J : dtText d1 = true := by simp only [dtText, h0, h1, h2]; rfl
        rw [J]
        clear J
        go_enter Try.func20, Try.ntmps20
        go_wp2
        go_ret
        exact ⟨rfl, rfl⟩
    · have J : dtText d1 = true := by simp only [dtText, h0, h1]; rfl
      rw [J]
      clear J
      go_enter Try.func20, Try.ntmps20
      go_wp2
      go_ret
      exact ⟨rfl, rfl⟩
  · have J : dtText d1 = true := by simp only [dtText, h0]; rfl
    rw [J]
    clear J
    go_enter Try.func20, Try.ntmps20
    go_wp2
    go_ret
    exact ⟨rfl, rfl⟩

set_option maxHeartbeats 400000 in
theorem varBytes_any (n1 d1 t1 : ByteArray) (g1 r1 u1 v1 : Bool) (x1 y1 : ByteArray) (k1 : Int) (w : World) :
    Calls Try.prog 21 #[.agg #[.string n1, .string d1, .string t1, .bool g1, .bool r1, .bool u1, .bool v1, .string x1, .string y1, .int .i64 k1]] w fun e w' => e = .returned (.bool (dtVar d1)) ∧ w' = w.alloc (.cells #[.string n1, .string d1, .string t1, .bool g1, .bool r1, .bool u1, .bool v1, .string x1, .string y1, .int .i64 k1] 30) := by
  cases h0 : (d1.toList == [118, 97, 114, 98, 105, 110, 97, 114, 121])
  · cases h1 : (d1.toList == [116, 105, 110, 121, 98, 108, 111, 98])
    · cases h2 : (d1.toList == [98, 108, 111, 98])
      · cases h3 : (d1.toList == [109, 101, 100, 105, 117, 109, 98, 108, 111, 98])
        · cases h4 : (d1.toList == [108, 111, 110, 103, 98, 108, 111, 98])
          · have J : dtVar d1 = false := by simp only [dtVar, h0, h1, h2, h3, h4]; rfl
            rw [J]
            clear J
            go_enter Try.func21, Try.ntmps21
            go_wp2
            go_ret
            exact ⟨rfl, rfl⟩
          · have J : dtVar d1 = true := by simp only [dtVar, h0, h1, h2, h3, h4]; rfl
            rw [J]
            clear J
            go_enter Try.func21, Try.ntmps21
            go_wp2
            go_ret
            exact ⟨rfl, rfl⟩
        · have J : dtVar d1 = true := by simp only [dtVar, h0, h1, h2, h3]; rfl
          rw [J]
          clear J
          go_enter Try.func21, Try.ntmps21
          go_wp2
          go_ret
          exact ⟨rfl, rfl⟩
      · have J : dtVar d1 = true := by simp only [dtVar, h0, h1, h2]; rfl
        rw [J]
        clear J
        go_enter Try.func21, Try.ntmps21
        go_wp2
        go_ret
        exact ⟨rfl, rfl⟩
    · have J : dtVar d1 = true := by simp only [dtVar, h0, h1]; rfl
      rw [J]
      clear J
      go_enter Try.func21, Try.ntmps21
      go_wp2
      go_ret
      exact ⟨rfl, rfl⟩
  · have J : dtVar d1 = true := by simp only [dtVar, h0]; rfl
    rw [J]
    clear J
    go_enter Try.func21, Try.ntmps21
    go_wp2
    go_ret
    exact ⟨rfl, rfl⟩

set_option maxHeartbeats 1000000 in
theorem family_any (d : ByteArray) (w : World) :
    Calls Try.prog 10 #[.string d] w fun e w' => e = .returned (.int .i64 (fam d)) ∧ w' = w := by
  cases h0 : (d.toList == [116, 105, 110, 121, 105, 110, 116])
  · cases h1 : (d.toList == [115, 109, 97, 108, 108, 105, 110, 116])
    · cases h2 : (d.toList == [109, 101, 100, 105, 117, 109, 105, 110, 116])
      · cases h3 : (d.toList == [105, 110, 116])
        · cases h4 : (d.toList == [98, 105, 103, 105, 110, 116])
          · cases h5 : (d.toList == [99, 104, 97, 114])
            · cases h6 : (d.toList == [118, 97, 114, 99, 104, 97, 114])
              · cases h7 : (d.toList == [116, 105, 110, 121, 116, 101, 120, 116])
                · cases h8 : (d.toList == [116, 101, 120, 116])
                  · cases h9 : (d.toList == [109, 101, 100, 105, 117, 109, 116, 101, 120, 116])
                    · cases h10 : (d.toList == [108, 111, 110, 103, 116, 101, 120, 116])
                      · cases h11 : (d.toList == [118, 97, 114, 98, 105, 110, 97, 114, 121])
                        · cases h12 : (d.toList == [116, 105, 110, 121, 98, 108, 111, 98])
                          · cases h13 : (d.toList == [98, 108, 111, 98])
                            · cases h14 : (d.toList == [109, 101, 100, 105, 117, 109, 98, 108, 111, 98])
                              · cases h15 : (d.toList == [108, 111, 110, 103, 98, 108, 111, 98])
                                · have J : fam d = 0 := by simp only [fam, dtInt, dtText, dtVar, h0, h1, h2, h3, h4, h5, h6, h7, h8, h9, h10, h11, h12, h13, h14, h15]; rfl
                                  rw [J]
                                  clear J
                                  go_enter Try.func10, Try.ntmps10
                                  go_wp2
                                  go_ret
                                  exact ⟨rfl, rfl⟩
                                · have J : fam d = 3 := by simp only [fam, dtInt, dtText, dtVar, h0, h1, h2, h3, h4, h5, h6, h7, h8, h9, h10, h11, h12, h13, h14, h15]; rfl
                                  rw [J]
                                  clear J
                                  go_enter Try.func10, Try.ntmps10
                                  go_wp2
                                  go_ret
                                  exact ⟨rfl, rfl⟩
                              · have J : fam d = 3 := by simp only [fam, dtInt, dtText, dtVar, h0, h1, h2, h3, h4, h5, h6, h7, h8, h9, h10, h11, h12, h13, h14]; rfl
                                rw [J]
                                clear J
                                go_enter Try.func10, Try.ntmps10
                                go_wp2
                                go_ret
                                exact ⟨rfl, rfl⟩
                            · have J : fam d = 3 := by simp only [fam, dtInt, dtText, dtVar, h0, h1, h2, h3, h4, h5, h6, h7, h8, h9, h10, h11, h12, h13]; rfl
                              rw [J]
                              clear J
                              go_enter Try.func10, Try.ntmps10
                              go_wp2
                              go_ret
                              exact ⟨rfl, rfl⟩
                          · have J : fam d = 3 := by simp only [fam, dtInt, dtText, dtVar, h0, h1, h2, h3, h4, h5, h6, h7, h8, h9, h10, h11, h12]; rfl
                            rw [J]
                            clear J
                            go_enter Try.func10, Try.ntmps10
                            go_wp2
                            go_ret
                            exact ⟨rfl, rfl⟩
                        · have J : fam d = 3 := by simp only [fam, dtInt, dtText, dtVar, h0, h1, h2, h3, h4, h5, h6, h7, h8, h9, h10, h11]; rfl
                          rw [J]
                          clear J
                          go_enter Try.func10, Try.ntmps10
                          go_wp2
                          go_ret
                          exact ⟨rfl, rfl⟩
                      · have J : fam d = 2 := by simp only [fam, dtInt, dtText, h0, h1, h2, h3, h4, h5, h6, h7, h8, h9, h10]; rfl
                        rw [J]
                        clear J
                        go_enter Try.func10, Try.ntmps10
                        go_wp2
                        go_ret
                        exact ⟨rfl, rfl⟩
                    · have J : fam d = 2 := by simp only [fam, dtInt, dtText, h0, h1, h2, h3, h4, h5, h6, h7, h8, h9]; rfl
                      rw [J]
                      clear J
                      go_enter Try.func10, Try.ntmps10
                      go_wp2
                      go_ret
                      exact ⟨rfl, rfl⟩
                  · have J : fam d = 2 := by simp only [fam, dtInt, dtText, h0, h1, h2, h3, h4, h5, h6, h7, h8]; rfl
                    rw [J]
                    clear J
                    go_enter Try.func10, Try.ntmps10
                    go_wp2
                    go_ret
                    exact ⟨rfl, rfl⟩
                · have J : fam d = 2 := by simp only [fam, dtInt, dtText, h0, h1, h2, h3, h4, h5, h6, h7]; rfl
                  rw [J]
                  clear J
                  go_enter Try.func10, Try.ntmps10
                  go_wp2
                  go_ret
                  exact ⟨rfl, rfl⟩
              · have J : fam d = 2 := by simp only [fam, dtInt, dtText, h0, h1, h2, h3, h4, h5, h6]; rfl
                rw [J]
                clear J
                go_enter Try.func10, Try.ntmps10
                go_wp2
                go_ret
                exact ⟨rfl, rfl⟩
            · have J : fam d = 2 := by simp only [fam, dtInt, dtText, h0, h1, h2, h3, h4, h5]; rfl
              rw [J]
              clear J
              go_enter Try.func10, Try.ntmps10
              go_wp2
              go_ret
              exact ⟨rfl, rfl⟩
          · have J : fam d = 1 := by simp only [fam, dtInt, h0, h1, h2, h3, h4]; rfl
            rw [J]
            clear J
            go_enter Try.func10, Try.ntmps10
            go_wp2
            go_ret
            exact ⟨rfl, rfl⟩
        · have J : fam d = 1 := by simp only [fam, dtInt, h0, h1, h2, h3]; rfl
          rw [J]
          clear J
          go_enter Try.func10, Try.ntmps10
          go_wp2
          go_ret
          exact ⟨rfl, rfl⟩
      · have J : fam d = 1 := by simp only [fam, dtInt, h0, h1, h2]; rfl
        rw [J]
        clear J
        go_enter Try.func10, Try.ntmps10
        go_wp2
        go_ret
        exact ⟨rfl, rfl⟩
    · have J : fam d = 1 := by simp only [fam, dtInt, h0, h1]; rfl
      rw [J]
      clear J
      go_enter Try.func10, Try.ntmps10
      go_wp2
      go_ret
      exact ⟨rfl, rfl⟩
  · have J : fam d = 1 := by simp only [fam, dtInt, h0]; rfl
    rw [J]
    clear J
    go_enter Try.func10, Try.ntmps10
    go_wp2
    go_ret
    exact ⟨rfl, rfl⟩

end Go.Proofs.Qxb6601460a.Walk
