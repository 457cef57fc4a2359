/-
  DERIVED. THE WALKS OF FnJsonKindOfGoKindsBesideInterface: strings.HasPrefix, jsonKind, the two tables, the law kind by kind.
-/
import Derived.Test.Qxb6600817aRows
import Derived.WalkKit
namespace Go.Proofs.Qxb6600817a.Walk
open Go.RowKit

/-- s begins with t. -/
def hp (s t : ByteArray) : Bool := t.data.toList.isPrefixOf s.data.toList

theorem size_len (s : ByteArray) : s.data.toList.length = s.size := by simp

theorem hp_yes {s t : ByteArray} : ((s.extract 0 t.size).toList == t.toList) = hp s t := by
  unfold hp
  rw [ByteArray.toList_eq, ByteArray.toList_eq, Bool.eq_iff_iff, beq_iff_eq, List.isPrefixOf_iff_prefix, List.prefix_iff_eq_take]
  simp only [ByteArray.data_extract, Array.toList_extract, List.extract_eq_take_drop, List.drop_zero, Nat.sub_zero, size_len]
  exact eq_comm

theorem hp_no {s t : ByteArray} (h : ¬ t.size ≤ s.size) : hp s t = false := by
  cases e : hp s t
  · rfl
  · unfold hp at e
    have := (List.isPrefixOf_iff_prefix.1 e).length_le
    rw [size_len, size_len] at this
    exact absurd this h

theorem ret_b {a b : Bool} (h : a = b) : Ending.returned (.bool a) = .returned (.bool b) := by rw [h]

theorem prefixLite_any (s t : ByteArray) (w : World) (_hs : s.size ≤ 1024) (_ht : t.size ≤ 1024) :
    Calls Try.prog 32 #[.string s, .string t] w fun e w' => e = .returned (.bool (hp s t)) ∧ w' = w := by
  by_cases h : t.size ≤ s.size
  · have H : Hid (((s.extract 0 t.size).toList == t.toList) = hp s t) := hp_yes
    go_enter Try.func32, Try.ntmps32
    go_wp2
    go_ret
    exact ⟨ret_b H.out, rfl⟩
  · rw [hp_no h]
    go_enter Try.func32, Try.ntmps32
    go_wp2
    go_ret
    exact ⟨rfl, rfl⟩

theorem prefix_any (s t : ByteArray) (w : World) (hs : s.size ≤ 1024) (ht : t.size ≤ 1024) :
    Calls Try.prog 31 #[.string s, .string t] w fun e w' => e = .returned (.bool (hp s t)) ∧ w' = w := by
  go_enter Try.func31, Try.ntmps31
  go_wp2_with (go_at_call 32; refine (prefixLite_any _ _ _ hs ht).mono ?_; rintro e w' ⟨rfl, rfl⟩)
  go_ret
  exact ⟨rfl, rfl⟩

/-- What jsonKind names, of a list of bytes. -/
def jk (l : List UInt8) : List UInt8 :=
  if l == [115, 116, 114, 105, 110, 103] then [115, 116, 114, 105, 110, 103]
  else if l == [98, 111, 111, 108] then [98, 111, 111, 108, 101, 97, 110]
  else if List.isPrefixOf [105, 110, 116] l || List.isPrefixOf [117, 105, 110, 116] l || List.isPrefixOf [102, 108, 111, 97, 116] l then [110, 117, 109, 98, 101, 114]
  else if l == [115, 108, 105, 99, 101] || l == [97, 114, 114, 97, 121] then [97, 114, 114, 97, 121]
  else [111, 98, 106, 101, 99, 116]

set_option maxHeartbeats 1000000 in
theorem jsonKind_any (s : ByteArray) (w : World) (hs : s.size ≤ 1024) :
    Calls Try.prog 27 #[.string s] w fun e w' => e = .returned (.string ⟨(jk s.data.toList).toArray⟩) ∧ w' = w := by
  have q1 : (ByteArray.mk #[105, 110, 116]).size ≤ 1024 := by decide
  have q2 : (ByteArray.mk #[117, 105, 110, 116]).size ≤ 1024 := by decide
  have q3 : (ByteArray.mk #[102, 108, 111, 97, 116]).size ≤ 1024 := by decide
  cases h1 : (s.toList == [115, 116, 114, 105, 110, 103])
  · cases h2 : (s.toList == [98, 111, 111, 108])
    · cases h3 : hp s ⟨#[105, 110, 116]⟩
      · cases h4 : hp s ⟨#[117, 105, 110, 116]⟩
        · cases h5 : hp s ⟨#[102, 108, 111, 97, 116]⟩
          · cases h6 : (s.toList == [115, 108, 105, 99, 101])
            · cases h7 : (s.toList == [97, 114, 114, 97, 121])
              · have J : jk s.data.toList = [111, 98, 106, 101, 99, 116] := by
                  have g1 := h1; have g2 := h2; have g3 := h3; have g4 := h4; have g5 := h5; have g6 := h6; have g7 := h7
                  rw [ByteArray.toList_eq] at g1
                  rw [ByteArray.toList_eq] at g2
                  unfold hp at g3
                  unfold hp at g4
                  unfold hp at g5
                  rw [ByteArray.toList_eq] at g6
                  rw [ByteArray.toList_eq] at g7
                  simp only [jk, g1, g2, g3, g4, g5, g6, g7]
                  rfl
                rw [J]
                clear J
                go_enter Try.func27, Try.ntmps27
                go_wp2_with (first | (go_at_call 31; refine (prefix_any s _ _ hs q1).mono ?_; rintro e w' ⟨rfl, rfl⟩) | (go_at_call 31; refine (prefix_any s _ _ hs q2).mono ?_; rintro e w' ⟨rfl, rfl⟩) | (go_at_call 31; refine (prefix_any s _ _ hs q3).mono ?_; rintro e w' ⟨rfl, rfl⟩))
                go_ret
                exact ⟨rfl, rfl⟩
              · have J : jk s.data.toList = [97, 114, 114, 97, 121] := by
                  have g1 := h1; have g2 := h2; have g3 := h3; have g4 := h4; have g5 := h5; have g6 := h6; have g7 := h7
                  rw [ByteArray.toList_eq] at g1
                  rw [ByteArray.toList_eq] at g2
                  unfold hp at g3
                  unfold hp at g4
                  unfold hp at g5
                  rw [ByteArray.toList_eq] at g6
                  rw [ByteArray.toList_eq] at g7
                  simp only [jk, g1, g2, g3, g4, g5, g6, g7]
                  rfl
                rw [J]
                clear J
                go_enter Try.func27, Try.ntmps27
                go_wp2_with (first | (go_at_call 31; refine (prefix_any s _ _ hs q1).mono ?_; rintro e w' ⟨rfl, rfl⟩) | (go_at_call 31; refine (prefix_any s _ _ hs q2).mono ?_; rintro e w' ⟨rfl, rfl⟩) | (go_at_call 31; refine (prefix_any s _ _ hs q3).mono ?_; rintro e w' ⟨rfl, rfl⟩))
                go_ret
                exact ⟨rfl, rfl⟩
            · have J : jk s.data.toList = [97, 114, 114, 97, 121] := by
                have g1 := h1; have g2 := h2; have g3 := h3; have g4 := h4; have g5 := h5; have g6 := h6
                rw [ByteArray.toList_eq] at g1
                rw [ByteArray.toList_eq] at g2
                unfold hp at g3
                unfold hp at g4
                unfold hp at g5
                rw [ByteArray.toList_eq] at g6
                simp only [jk, g1, g2, g3, g4, g5, g6]
                rfl
              rw [J]
              clear J
              go_enter Try.func27, Try.ntmps27
              go_wp2_with (first | (go_at_call 31; refine (prefix_any s _ _ hs q1).mono ?_; rintro e w' ⟨rfl, rfl⟩) | (go_at_call 31; refine (prefix_any s _ _ hs q2).mono ?_; rintro e w' ⟨rfl, rfl⟩) | (go_at_call 31; refine (prefix_any s _ _ hs q3).mono ?_; rintro e w' ⟨rfl, rfl⟩))
              go_ret
              exact ⟨rfl, rfl⟩
          · have J : jk s.data.toList = [110, 117, 109, 98, 101, 114] := by
              have g1 := h1; have g2 := h2; have g3 := h3; have g4 := h4; have g5 := h5
              rw [ByteArray.toList_eq] at g1
              rw [ByteArray.toList_eq] at g2
              unfold hp at g3
              unfold hp at g4
              unfold hp at g5
              simp only [jk, g1, g2, g3, g4, g5]
              rfl
            rw [J]
            clear J
            go_enter Try.func27, Try.ntmps27
            go_wp2_with (first | (go_at_call 31; refine (prefix_any s _ _ hs q1).mono ?_; rintro e w' ⟨rfl, rfl⟩) | (go_at_call 31; refine (prefix_any s _ _ hs q2).mono ?_; rintro e w' ⟨rfl, rfl⟩) | (go_at_call 31; refine (prefix_any s _ _ hs q3).mono ?_; rintro e w' ⟨rfl, rfl⟩))
            go_ret
            exact ⟨rfl, rfl⟩
        · have J : jk s.data.toList = [110, 117, 109, 98, 101, 114] := by
            have g1 := h1; have g2 := h2; have g3 := h3; have g4 := h4
            rw [ByteArray.toList_eq] at g1
            rw [ByteArray.toList_eq] at g2
            unfold hp at g3
            unfold hp at g4
            simp only [jk, g1, g2, g3, g4]
            rfl
          rw [J]
          clear J
          go_enter Try.func27, Try.ntmps27
          go_wp2_with (first | (go_at_call 31; refine (prefix_any s _ _ hs q1).mono ?_; rintro e w' ⟨rfl, rfl⟩) | (go_at_call 31; refine (prefix_any s _ _ hs q2).mono ?_; rintro e w' ⟨rfl, rfl⟩) | (go_at_call 31; refine (prefix_any s _ _ hs q3).mono ?_; rintro e w' ⟨rfl, rfl⟩))
          go_ret
          exact ⟨rfl, rfl⟩
      · have J : jk s.data.toList = [110, 117, 109, 98, 101, 114] := by
          have g1 := h1; have g2 := h2; have g3 := h3
          rw [ByteArray.toList_eq] at g1
          rw [ByteArray.toList_eq] at g2
          unfold hp at g3
          simp only [jk, g1, g2, g3]
          rfl
        rw [J]
        clear J
        go_enter Try.func27, Try.ntmps27
        go_wp2_with (first | (go_at_call 31; refine (prefix_any s _ _ hs q1).mono ?_; rintro e w' ⟨rfl, rfl⟩) | (go_at_call 31; refine (prefix_any s _ _ hs q2).mono ?_; rintro e w' ⟨rfl, rfl⟩) | (go_at_call 31; refine (prefix_any s _ _ hs q3).mono ?_; rintro e w' ⟨rfl, rfl⟩))
        go_ret
        exact ⟨rfl, rfl⟩
    · have J : jk s.data.toList = [98, 111, 111, 108, 101, 97, 110] := by
        have g1 := h1; have g2 := h2
        rw [ByteArray.toList_eq] at g1
        rw [ByteArray.toList_eq] at g2
        simp only [jk, g1, g2]
        rfl
      rw [J]
      clear J
      go_enter Try.func27, Try.ntmps27
      go_wp2_with (first | (go_at_call 31; refine (prefix_any s _ _ hs q1).mono ?_; rintro e w' ⟨rfl, rfl⟩) | (go_at_call 31; refine (prefix_any s _ _ hs q2).mono ?_; rintro e w' ⟨rfl, rfl⟩) | (go_at_call 31; refine (prefix_any s _ _ hs q3).mono ?_; rintro e w' ⟨rfl, rfl⟩))
      go_ret
      exact ⟨rfl, rfl⟩
  · have J : jk s.data.toList = [115, 116, 114, 105, 110, 103] := by
      have g1 := h1
      rw [ByteArray.toList_eq] at g1
      simp only [jk, g1]
      rfl
    rw [J]
    clear J
    go_enter Try.func27, Try.ntmps27
    go_wp2_with (first | (go_at_call 31; refine (prefix_any s _ _ hs q1).mono ?_; rintro e w' ⟨rfl, rfl⟩) | (go_at_call 31; refine (prefix_any s _ _ hs q2).mono ?_; rintro e w' ⟨rfl, rfl⟩) | (go_at_call 31; refine (prefix_any s _ _ hs q3).mono ?_; rintro e w' ⟨rfl, rfl⟩))
    go_ret
    exact ⟨rfl, rfl⟩

theorem shim_any (s : ByteArray) (w : World) (hs : s.size ≤ 1024) :
    Calls Try.prog 11 #[.string s] w fun e w' => e = .returned (.string ⟨(jk s.data.toList).toArray⟩) ∧ w' = w := by
  go_enter Try.func11, Try.ntmps11
  go_wp2_with (go_at_call 27; refine (jsonKind_any _ _ hs).mono ?_; rintro e w' ⟨rfl, rfl⟩)
  go_ret
  exact ⟨rfl, rfl⟩

theorem name0 (w : World) : Calls Try.prog 12 #[.int .i64 0] w fun e w' => e = .returned (.string ⟨#[105, 110, 118, 97, 108, 105, 100]⟩) ∧ w' = w := by
  go_enter Try.func12, Try.ntmps12
  go_wp2
  go_ret
  exact ⟨rfl, rfl⟩
theorem json0 (w : World) : Calls Try.prog 13 #[.int .i64 0] w fun e w' => e = .returned (.string ⟨#[111, 98, 106, 101, 99, 116]⟩) ∧ w' = w := by
  go_enter Try.func13, Try.ntmps13
  go_wp2
  go_ret
  exact ⟨rfl, rfl⟩
theorem kind0 (w : World) : Calls Try.prog 11 #[.string ⟨#[105, 110, 118, 97, 108, 105, 100]⟩] w fun e w' => e = .returned (.string ⟨#[111, 98, 106, 101, 99, 116]⟩) ∧ w' = w :=
  shim_any ⟨#[105, 110, 118, 97, 108, 105, 100]⟩ w (by decide)
theorem law3_0 (w : World) : Calls Try.prog 3 #[.int .i64 0] w fun e w' => e = .returned (.bool true) ∧ w' = w := by
  go_enter Try.func3, Try.ntmps3
  go_wp2_with (first | (go_at_call 12; refine (name0 _).mono ?_; rintro e w' ⟨rfl, rfl⟩) | (go_at_call 11; refine (kind0 _).mono ?_; rintro e w' ⟨rfl, rfl⟩) | (go_at_call 13; refine (json0 _).mono ?_; rintro e w' ⟨rfl, rfl⟩))
  go_ret
  exact ⟨rfl, rfl⟩

theorem name1 (w : World) : Calls Try.prog 12 #[.int .i64 1] w fun e w' => e = .returned (.string ⟨#[98, 111, 111, 108]⟩) ∧ w' = w := by
  go_enter Try.func12, Try.ntmps12
  go_wp2
  go_ret
  exact ⟨rfl, rfl⟩
theorem json1 (w : World) : Calls Try.prog 13 #[.int .i64 1] w fun e w' => e = .returned (.string ⟨#[98, 111, 111, 108, 101, 97, 110]⟩) ∧ w' = w := by
  go_enter Try.func13, Try.ntmps13
  go_wp2
  go_ret
  exact ⟨rfl, rfl⟩
theorem kind1 (w : World) : Calls Try.prog 11 #[.string ⟨#[98, 111, 111, 108]⟩] w fun e w' => e = .returned (.string ⟨#[98, 111, 111, 108, 101, 97, 110]⟩) ∧ w' = w :=
  shim_any ⟨#[98, 111, 111, 108]⟩ w (by decide)
theorem law3_1 (w : World) : Calls Try.prog 3 #[.int .i64 1] w fun e w' => e = .returned (.bool true) ∧ w' = w := by
  go_enter Try.func3, Try.ntmps3
  go_wp2_with (first | (go_at_call 12; refine (name1 _).mono ?_; rintro e w' ⟨rfl, rfl⟩) | (go_at_call 11; refine (kind1 _).mono ?_; rintro e w' ⟨rfl, rfl⟩) | (go_at_call 13; refine (json1 _).mono ?_; rintro e w' ⟨rfl, rfl⟩))
  go_ret
  exact ⟨rfl, rfl⟩

theorem name2 (w : World) : Calls Try.prog 12 #[.int .i64 2] w fun e w' => e = .returned (.string ⟨#[105, 110, 116]⟩) ∧ w' = w := by
  go_enter Try.func12, Try.ntmps12
  go_wp2
  go_ret
  exact ⟨rfl, rfl⟩
theorem json2 (w : World) : Calls Try.prog 13 #[.int .i64 2] w fun e w' => e = .returned (.string ⟨#[110, 117, 109, 98, 101, 114]⟩) ∧ w' = w := by
  go_enter Try.func13, Try.ntmps13
  go_wp2
  go_ret
  exact ⟨rfl, rfl⟩
theorem kind2 (w : World) : Calls Try.prog 11 #[.string ⟨#[105, 110, 116]⟩] w fun e w' => e = .returned (.string ⟨#[110, 117, 109, 98, 101, 114]⟩) ∧ w' = w :=
  shim_any ⟨#[105, 110, 116]⟩ w (by decide)
theorem law3_2 (w : World) : Calls Try.prog 3 #[.int .i64 2] w fun e w' => e = .returned (.bool true) ∧ w' = w := by
  go_enter Try.func3, Try.ntmps3
  go_wp2_with (first | (go_at_call 12; refine (name2 _).mono ?_; rintro e w' ⟨rfl, rfl⟩) | (go_at_call 11; refine (kind2 _).mono ?_; rintro e w' ⟨rfl, rfl⟩) | (go_at_call 13; refine (json2 _).mono ?_; rintro e w' ⟨rfl, rfl⟩))
  go_ret
  exact ⟨rfl, rfl⟩

theorem name3 (w : World) : Calls Try.prog 12 #[.int .i64 3] w fun e w' => e = .returned (.string ⟨#[105, 110, 116, 56]⟩) ∧ w' = w := by
  go_enter Try.func12, Try.ntmps12
  go_wp2
  go_ret
  exact ⟨rfl, rfl⟩
theorem json3 (w : World) : Calls Try.prog 13 #[.int .i64 3] w fun e w' => e = .returned (.string ⟨#[110, 117, 109, 98, 101, 114]⟩) ∧ w' = w := by
  go_enter Try.func13, Try.ntmps13
  go_wp2
  go_ret
  exact ⟨rfl, rfl⟩
theorem kind3 (w : World) : Calls Try.prog 11 #[.string ⟨#[105, 110, 116, 56]⟩] w fun e w' => e = .returned (.string ⟨#[110, 117, 109, 98, 101, 114]⟩) ∧ w' = w :=
  shim_any ⟨#[105, 110, 116, 56]⟩ w (by decide)
theorem law3_3 (w : World) : Calls Try.prog 3 #[.int .i64 3] w fun e w' => e = .returned (.bool true) ∧ w' = w := by
  go_enter Try.func3, Try.ntmps3
  go_wp2_with (first | (go_at_call 12; refine (name3 _).mono ?_; rintro e w' ⟨rfl, rfl⟩) | (go_at_call 11; refine (kind3 _).mono ?_; rintro e w' ⟨rfl, rfl⟩) | (go_at_call 13; refine (json3 _).mono ?_; rintro e w' ⟨rfl, rfl⟩))
  go_ret
  exact ⟨rfl, rfl⟩

theorem name4 (w : World) : Calls Try.prog 12 #[.int .i64 4] w fun e w' => e = .returned (.string ⟨#[105, 110, 116, 49, 54]⟩) ∧ w' = w := by
  go_enter Try.func12, Try.ntmps12
  go_wp2
  go_ret
  exact ⟨rfl, rfl⟩
theorem json4 (w : World) : Calls Try.prog 13 #[.int .i64 4] w fun e w' => e = .returned (.string ⟨#[110, 117, 109, 98, 101, 114]⟩) ∧ w' = w := by
  go_enter Try.func13, Try.ntmps13
  go_wp2
  go_ret
  exact ⟨rfl, rfl⟩
theorem kind4 (w : World) : Calls Try.prog 11 #[.string ⟨#[105, 110, 116, 49, 54]⟩] w fun e w' => e = .returned (.string ⟨#[110, 117, 109, 98, 101, 114]⟩) ∧ w' = w :=
  shim_any ⟨#[105, 110, 116, 49, 54]⟩ w (by decide)
theorem law3_4 (w : World) : Calls Try.prog 3 #[.int .i64 4] w fun e w' => e = .returned (.bool true) ∧ w' = w := by
  go_enter Try.func3, Try.ntmps3
  go_wp2_with (first | (go_at_call 12; refine (name4 _).mono ?_; rintro e w' ⟨rfl, rfl⟩) | (go_at_call 11; refine (kind4 _).mono ?_; rintro e w' ⟨rfl, rfl⟩) | (go_at_call 13; refine (json4 _).mono ?_; rintro e w' ⟨rfl, rfl⟩))
  go_ret
  exact ⟨rfl, rfl⟩

theorem name5 (w : World) : Calls Try.prog 12 #[.int .i64 5] w fun e w' => e = .returned (.string ⟨#[105, 110, 116, 51, 50]⟩) ∧ w' = w := by
  go_enter Try.func12, Try.ntmps12
  go_wp2
  go_ret
  exact ⟨rfl, rfl⟩
theorem json5 (w : World) : Calls Try.prog 13 #[.int .i64 5] w fun e w' => e = .returned (.string ⟨#[110, 117, 109, 98, 101, 114]⟩) ∧ w' = w := by
  go_enter Try.func13, Try.ntmps13
  go_wp2
  go_ret
  exact ⟨rfl, rfl⟩
theorem kind5 (w : World) : Calls Try.prog 11 #[.string ⟨#[105, 110, 116, 51, 50]⟩] w fun e w' => e = .returned (.string ⟨#[110, 117, 109, 98, 101, 114]⟩) ∧ w' = w :=
  shim_any ⟨#[105, 110, 116, 51, 50]⟩ w (by decide)
theorem law3_5 (w : World) : Calls Try.prog 3 #[.int .i64 5] w fun e w' => e = .returned (.bool true) ∧ w' = w := by
  go_enter Try.func3, Try.ntmps3
  go_wp2_with (first | (go_at_call 12; refine (name5 _).mono ?_; rintro e w' ⟨rfl, rfl⟩) | (go_at_call 11; refine (kind5 _).mono ?_; rintro e w' ⟨rfl, rfl⟩) | (go_at_call 13; refine (json5 _).mono ?_; rintro e w' ⟨rfl, rfl⟩))
  go_ret
  exact ⟨rfl, rfl⟩

theorem name6 (w : World) : Calls Try.prog 12 #[.int .i64 6] w fun e w' => e = .returned (.string ⟨#[105, 110, 116, 54, 52]⟩) ∧ w' = w := by
  go_enter Try.func12, Try.ntmps12
  go_wp2
  go_ret
  exact ⟨rfl, rfl⟩
theorem json6 (w : World) : Calls Try.prog 13 #[.int .i64 6] w fun e w' => e = .returned (.string ⟨#[110, 117, 109, 98, 101, 114]⟩) ∧ w' = w := by
  go_enter Try.func13, Try.ntmps13
  go_wp2
  go_ret
  exact ⟨rfl, rfl⟩
theorem kind6 (w : World) : Calls Try.prog 11 #[.string ⟨#[105, 110, 116, 54, 52]⟩] w fun e w' => e = .returned (.string ⟨#[110, 117, 109, 98, 101, 114]⟩) ∧ w' = w :=
  shim_any ⟨#[105, 110, 116, 54, 52]⟩ w (by decide)
theorem law3_6 (w : World) : Calls Try.prog 3 #[.int .i64 6] w fun e w' => e = .returned (.bool true) ∧ w' = w := by
  go_enter Try.func3, Try.ntmps3
  go_wp2_with (first | (go_at_call 12; refine (name6 _).mono ?_; rintro e w' ⟨rfl, rfl⟩) | (go_at_call 11; refine (kind6 _).mono ?_; rintro e w' ⟨rfl, rfl⟩) | (go_at_call 13; refine (json6 _).mono ?_; rintro e w' ⟨rfl, rfl⟩))
  go_ret
  exact ⟨rfl, rfl⟩

theorem name7 (w : World) : Calls Try.prog 12 #[.int .i64 7] w fun e w' => e = .returned (.string ⟨#[117, 105, 110, 116]⟩) ∧ w' = w := by
  go_enter Try.func12, Try.ntmps12
  go_wp2
  go_ret
  exact ⟨rfl, rfl⟩
theorem json7 (w : World) : Calls Try.prog 13 #[.int .i64 7] w fun e w' => e = .returned (.string ⟨#[110, 117, 109, 98, 101, 114]⟩) ∧ w' = w := by
  go_enter Try.func13, Try.ntmps13
  go_wp2
  go_ret
  exact ⟨rfl, rfl⟩
theorem kind7 (w : World) : Calls Try.prog 11 #[.string ⟨#[117, 105, 110, 116]⟩] w fun e w' => e = .returned (.string ⟨#[110, 117, 109, 98, 101, 114]⟩) ∧ w' = w :=
  shim_any ⟨#[117, 105, 110, 116]⟩ w (by decide)
theorem law3_7 (w : World) : Calls Try.prog 3 #[.int .i64 7] w fun e w' => e = .returned (.bool true) ∧ w' = w := by
  go_enter Try.func3, Try.ntmps3
  go_wp2_with (first | (go_at_call 12; refine (name7 _).mono ?_; rintro e w' ⟨rfl, rfl⟩) | (go_at_call 11; refine (kind7 _).mono ?_; rintro e w' ⟨rfl, rfl⟩) | (go_at_call 13; refine (json7 _).mono ?_; rintro e w' ⟨rfl, rfl⟩))
  go_ret
  exact ⟨rfl, rfl⟩

theorem name8 (w : World) : Calls Try.prog 12 #[.int .i64 8] w fun e w' => e = .returned (.string ⟨#[117, 105, 110, 116, 56]⟩) ∧ w' = w := by
  go_enter Try.func12, Try.ntmps12
  go_wp2
  go_ret
  exact ⟨rfl, rfl⟩
theorem json8 (w : World) : Calls Try.prog 13 #[.int .i64 8] w fun e w' => e = .returned (.string ⟨#[110, 117, 109, 98, 101, 114]⟩) ∧ w' = w := by
  go_enter Try.func13, Try.ntmps13
  go_wp2
  go_ret
  exact ⟨rfl, rfl⟩
theorem kind8 (w : World) : Calls Try.prog 11 #[.string ⟨#[117, 105, 110, 116, 56]⟩] w fun e w' => e = .returned (.string ⟨#[110, 117, 109, 98, 101, 114]⟩) ∧ w' = w :=
  shim_any ⟨#[117, 105, 110, 116, 56]⟩ w (by decide)
theorem law3_8 (w : World) : Calls Try.prog 3 #[.int .i64 8] w fun e w' => e = .returned (.bool true) ∧ w' = w := by
  go_enter Try.func3, Try.ntmps3
  go_wp2_with (first | (go_at_call 12; refine (name8 _).mono ?_; rintro e w' ⟨rfl, rfl⟩) | (go_at_call 11; refine (kind8 _).mono ?_; rintro e w' ⟨rfl, rfl⟩) | (go_at_call 13; refine (json8 _).mono ?_; rintro e w' ⟨rfl, rfl⟩))
  go_ret
  exact ⟨rfl, rfl⟩

theorem name9 (w : World) : Calls Try.prog 12 #[.int .i64 9] w fun e w' => e = .returned (.string ⟨#[117, 105, 110, 116, 49, 54]⟩) ∧ w' = w := by
  go_enter Try.func12, Try.ntmps12
  go_wp2
  go_ret
  exact ⟨rfl, rfl⟩
theorem json9 (w : World) : Calls Try.prog 13 #[.int .i64 9] w fun e w' => e = .returned (.string ⟨#[110, 117, 109, 98, 101, 114]⟩) ∧ w' = w := by
  go_enter Try.func13, Try.ntmps13
  go_wp2
  go_ret
  exact ⟨rfl, rfl⟩
theorem kind9 (w : World) : Calls Try.prog 11 #[.string ⟨#[117, 105, 110, 116, 49, 54]⟩] w fun e w' => e = .returned (.string ⟨#[110, 117, 109, 98, 101, 114]⟩) ∧ w' = w :=
  shim_any ⟨#[117, 105, 110, 116, 49, 54]⟩ w (by decide)
theorem law3_9 (w : World) : Calls Try.prog 3 #[.int .i64 9] w fun e w' => e = .returned (.bool true) ∧ w' = w := by
  go_enter Try.func3, Try.ntmps3
  go_wp2_with (first | (go_at_call 12; refine (name9 _).mono ?_; rintro e w' ⟨rfl, rfl⟩) | (go_at_call 11; refine (kind9 _).mono ?_; rintro e w' ⟨rfl, rfl⟩) | (go_at_call 13; refine (json9 _).mono ?_; rintro e w' ⟨rfl, rfl⟩))
  go_ret
  exact ⟨rfl, rfl⟩

theorem name10 (w : World) : Calls Try.prog 12 #[.int .i64 10] w fun e w' => e = .returned (.string ⟨#[117, 105, 110, 116, 51, 50]⟩) ∧ w' = w := by
  go_enter Try.func12, Try.ntmps12
  go_wp2
  go_ret
  exact ⟨rfl, rfl⟩
theorem json10 (w : World) : Calls Try.prog 13 #[.int .i64 10] w fun e w' => e = .returned (.string ⟨#[110, 117, 109, 98, 101, 114]⟩) ∧ w' = w := by
  go_enter Try.func13, Try.ntmps13
  go_wp2
  go_ret
  exact ⟨rfl, rfl⟩
theorem kind10 (w : World) : Calls Try.prog 11 #[.string ⟨#[117, 105, 110, 116, 51, 50]⟩] w fun e w' => e = .returned (.string ⟨#[110, 117, 109, 98, 101, 114]⟩) ∧ w' = w :=
  shim_any ⟨#[117, 105, 110, 116, 51, 50]⟩ w (by decide)
theorem law3_10 (w : World) : Calls Try.prog 3 #[.int .i64 10] w fun e w' => e = .returned (.bool true) ∧ w' = w := by
  go_enter Try.func3, Try.ntmps3
  go_wp2_with (first | (go_at_call 12; refine (name10 _).mono ?_; rintro e w' ⟨rfl, rfl⟩) | (go_at_call 11; refine (kind10 _).mono ?_; rintro e w' ⟨rfl, rfl⟩) | (go_at_call 13; refine (json10 _).mono ?_; rintro e w' ⟨rfl, rfl⟩))
  go_ret
  exact ⟨rfl, rfl⟩

theorem name11 (w : World) : Calls Try.prog 12 #[.int .i64 11] w fun e w' => e = .returned (.string ⟨#[117, 105, 110, 116, 54, 52]⟩) ∧ w' = w := by
  go_enter Try.func12, Try.ntmps12
  go_wp2
  go_ret
  exact ⟨rfl, rfl⟩
theorem json11 (w : World) : Calls Try.prog 13 #[.int .i64 11] w fun e w' => e = .returned (.string ⟨#[110, 117, 109, 98, 101, 114]⟩) ∧ w' = w := by
  go_enter Try.func13, Try.ntmps13
  go_wp2
  go_ret
  exact ⟨rfl, rfl⟩
theorem kind11 (w : World) : Calls Try.prog 11 #[.string ⟨#[117, 105, 110, 116, 54, 52]⟩] w fun e w' => e = .returned (.string ⟨#[110, 117, 109, 98, 101, 114]⟩) ∧ w' = w :=
  shim_any ⟨#[117, 105, 110, 116, 54, 52]⟩ w (by decide)
theorem law3_11 (w : World) : Calls Try.prog 3 #[.int .i64 11] w fun e w' => e = .returned (.bool true) ∧ w' = w := by
  go_enter Try.func3, Try.ntmps3
  go_wp2_with (first | (go_at_call 12; refine (name11 _).mono ?_; rintro e w' ⟨rfl, rfl⟩) | (go_at_call 11; refine (kind11 _).mono ?_; rintro e w' ⟨rfl, rfl⟩) | (go_at_call 13; refine (json11 _).mono ?_; rintro e w' ⟨rfl, rfl⟩))
  go_ret
  exact ⟨rfl, rfl⟩

theorem name12 (w : World) : Calls Try.prog 12 #[.int .i64 12] w fun e w' => e = .returned (.string ⟨#[117, 105, 110, 116, 112, 116, 114]⟩) ∧ w' = w := by
  go_enter Try.func12, Try.ntmps12
  go_wp2
  go_ret
  exact ⟨rfl, rfl⟩
theorem json12 (w : World) : Calls Try.prog 13 #[.int .i64 12] w fun e w' => e = .returned (.string ⟨#[110, 117, 109, 98, 101, 114]⟩) ∧ w' = w := by
  go_enter Try.func13, Try.ntmps13
  go_wp2
  go_ret
  exact ⟨rfl, rfl⟩
theorem kind12 (w : World) : Calls Try.prog 11 #[.string ⟨#[117, 105, 110, 116, 112, 116, 114]⟩] w fun e w' => e = .returned (.string ⟨#[110, 117, 109, 98, 101, 114]⟩) ∧ w' = w :=
  shim_any ⟨#[117, 105, 110, 116, 112, 116, 114]⟩ w (by decide)
theorem law3_12 (w : World) : Calls Try.prog 3 #[.int .i64 12] w fun e w' => e = .returned (.bool true) ∧ w' = w := by
  go_enter Try.func3, Try.ntmps3
  go_wp2_with (first | (go_at_call 12; refine (name12 _).mono ?_; rintro e w' ⟨rfl, rfl⟩) | (go_at_call 11; refine (kind12 _).mono ?_; rintro e w' ⟨rfl, rfl⟩) | (go_at_call 13; refine (json12 _).mono ?_; rintro e w' ⟨rfl, rfl⟩))
  go_ret
  exact ⟨rfl, rfl⟩

theorem name13 (w : World) : Calls Try.prog 12 #[.int .i64 13] w fun e w' => e = .returned (.string ⟨#[102, 108, 111, 97, 116, 51, 50]⟩) ∧ w' = w := by
  go_enter Try.func12, Try.ntmps12
  go_wp2
  go_ret
  exact ⟨rfl, rfl⟩
theorem json13 (w : World) : Calls Try.prog 13 #[.int .i64 13] w fun e w' => e = .returned (.string ⟨#[110, 117, 109, 98, 101, 114]⟩) ∧ w' = w := by
  go_enter Try.func13, Try.ntmps13
  go_wp2
  go_ret
  exact ⟨rfl, rfl⟩
theorem kind13 (w : World) : Calls Try.prog 11 #[.string ⟨#[102, 108, 111, 97, 116, 51, 50]⟩] w fun e w' => e = .returned (.string ⟨#[110, 117, 109, 98, 101, 114]⟩) ∧ w' = w :=
  shim_any ⟨#[102, 108, 111, 97, 116, 51, 50]⟩ w (by decide)
theorem law3_13 (w : World) : Calls Try.prog 3 #[.int .i64 13] w fun e w' => e = .returned (.bool true) ∧ w' = w := by
  go_enter Try.func3, Try.ntmps3
  go_wp2_with (first | (go_at_call 12; refine (name13 _).mono ?_; rintro e w' ⟨rfl, rfl⟩) | (go_at_call 11; refine (kind13 _).mono ?_; rintro e w' ⟨rfl, rfl⟩) | (go_at_call 13; refine (json13 _).mono ?_; rintro e w' ⟨rfl, rfl⟩))
  go_ret
  exact ⟨rfl, rfl⟩

theorem name14 (w : World) : Calls Try.prog 12 #[.int .i64 14] w fun e w' => e = .returned (.string ⟨#[102, 108, 111, 97, 116, 54, 52]⟩) ∧ w' = w := by
  go_enter Try.func12, Try.ntmps12
  go_wp2
  go_ret
  exact ⟨rfl, rfl⟩
theorem json14 (w : World) : Calls Try.prog 13 #[.int .i64 14] w fun e w' => e = .returned (.string ⟨#[110, 117, 109, 98, 101, 114]⟩) ∧ w' = w := by
  go_enter Try.func13, Try.ntmps13
  go_wp2
  go_ret
  exact ⟨rfl, rfl⟩
theorem kind14 (w : World) : Calls Try.prog 11 #[.string ⟨#[102, 108, 111, 97, 116, 54, 52]⟩] w fun e w' => e = .returned (.string ⟨#[110, 117, 109, 98, 101, 114]⟩) ∧ w' = w :=
  shim_any ⟨#[102, 108, 111, 97, 116, 54, 52]⟩ w (by decide)
theorem law3_14 (w : World) : Calls Try.prog 3 #[.int .i64 14] w fun e w' => e = .returned (.bool true) ∧ w' = w := by
  go_enter Try.func3, Try.ntmps3
  go_wp2_with (first | (go_at_call 12; refine (name14 _).mono ?_; rintro e w' ⟨rfl, rfl⟩) | (go_at_call 11; refine (kind14 _).mono ?_; rintro e w' ⟨rfl, rfl⟩) | (go_at_call 13; refine (json14 _).mono ?_; rintro e w' ⟨rfl, rfl⟩))
  go_ret
  exact ⟨rfl, rfl⟩

theorem name15 (w : World) : Calls Try.prog 12 #[.int .i64 15] w fun e w' => e = .returned (.string ⟨#[99, 111, 109, 112, 108, 101, 120, 54, 52]⟩) ∧ w' = w := by
  go_enter Try.func12, Try.ntmps12
  go_wp2
  go_ret
  exact ⟨rfl, rfl⟩
theorem json15 (w : World) : Calls Try.prog 13 #[.int .i64 15] w fun e w' => e = .returned (.string ⟨#[111, 98, 106, 101, 99, 116]⟩) ∧ w' = w := by
  go_enter Try.func13, Try.ntmps13
  go_wp2
  go_ret
  exact ⟨rfl, rfl⟩
theorem kind15 (w : World) : Calls Try.prog 11 #[.string ⟨#[99, 111, 109, 112, 108, 101, 120, 54, 52]⟩] w fun e w' => e = .returned (.string ⟨#[111, 98, 106, 101, 99, 116]⟩) ∧ w' = w :=
  shim_any ⟨#[99, 111, 109, 112, 108, 101, 120, 54, 52]⟩ w (by decide)
theorem law3_15 (w : World) : Calls Try.prog 3 #[.int .i64 15] w fun e w' => e = .returned (.bool true) ∧ w' = w := by
  go_enter Try.func3, Try.ntmps3
  go_wp2_with (first | (go_at_call 12; refine (name15 _).mono ?_; rintro e w' ⟨rfl, rfl⟩) | (go_at_call 11; refine (kind15 _).mono ?_; rintro e w' ⟨rfl, rfl⟩) | (go_at_call 13; refine (json15 _).mono ?_; rintro e w' ⟨rfl, rfl⟩))
  go_ret
  exact ⟨rfl, rfl⟩

theorem name16 (w : World) : Calls Try.prog 12 #[.int .i64 16] w fun e w' => e = .returned (.string ⟨#[99, 111, 109, 112, 108, 101, 120, 49, 50, 56]⟩) ∧ w' = w := by
  go_enter Try.func12, Try.ntmps12
  go_wp2
  go_ret
  exact ⟨rfl, rfl⟩
theorem json16 (w : World) : Calls Try.prog 13 #[.int .i64 16] w fun e w' => e = .returned (.string ⟨#[111, 98, 106, 101, 99, 116]⟩) ∧ w' = w := by
  go_enter Try.func13, Try.ntmps13
  go_wp2
  go_ret
  exact ⟨rfl, rfl⟩
theorem kind16 (w : World) : Calls Try.prog 11 #[.string ⟨#[99, 111, 109, 112, 108, 101, 120, 49, 50, 56]⟩] w fun e w' => e = .returned (.string ⟨#[111, 98, 106, 101, 99, 116]⟩) ∧ w' = w :=
  shim_any ⟨#[99, 111, 109, 112, 108, 101, 120, 49, 50, 56]⟩ w (by decide)
theorem law3_16 (w : World) : Calls Try.prog 3 #[.int .i64 16] w fun e w' => e = .returned (.bool true) ∧ w' = w := by
  go_enter Try.func3, Try.ntmps3
  go_wp2_with (first | (go_at_call 12; refine (name16 _).mono ?_; rintro e w' ⟨rfl, rfl⟩) | (go_at_call 11; refine (kind16 _).mono ?_; rintro e w' ⟨rfl, rfl⟩) | (go_at_call 13; refine (json16 _).mono ?_; rintro e w' ⟨rfl, rfl⟩))
  go_ret
  exact ⟨rfl, rfl⟩

theorem name17 (w : World) : Calls Try.prog 12 #[.int .i64 17] w fun e w' => e = .returned (.string ⟨#[97, 114, 114, 97, 121]⟩) ∧ w' = w := by
  go_enter Try.func12, Try.ntmps12
  go_wp2
  go_ret
  exact ⟨rfl, rfl⟩
theorem json17 (w : World) : Calls Try.prog 13 #[.int .i64 17] w fun e w' => e = .returned (.string ⟨#[97, 114, 114, 97, 121]⟩) ∧ w' = w := by
  go_enter Try.func13, Try.ntmps13
  go_wp2
  go_ret
  exact ⟨rfl, rfl⟩
theorem kind17 (w : World) : Calls Try.prog 11 #[.string ⟨#[97, 114, 114, 97, 121]⟩] w fun e w' => e = .returned (.string ⟨#[97, 114, 114, 97, 121]⟩) ∧ w' = w :=
  shim_any ⟨#[97, 114, 114, 97, 121]⟩ w (by decide)
theorem law3_17 (w : World) : Calls Try.prog 3 #[.int .i64 17] w fun e w' => e = .returned (.bool true) ∧ w' = w := by
  go_enter Try.func3, Try.ntmps3
  go_wp2_with (first | (go_at_call 12; refine (name17 _).mono ?_; rintro e w' ⟨rfl, rfl⟩) | (go_at_call 11; refine (kind17 _).mono ?_; rintro e w' ⟨rfl, rfl⟩) | (go_at_call 13; refine (json17 _).mono ?_; rintro e w' ⟨rfl, rfl⟩))
  go_ret
  exact ⟨rfl, rfl⟩

theorem name18 (w : World) : Calls Try.prog 12 #[.int .i64 18] w fun e w' => e = .returned (.string ⟨#[99, 104, 97, 110]⟩) ∧ w' = w := by
  go_enter Try.func12, Try.ntmps12
  go_wp2
  go_ret
  exact ⟨rfl, rfl⟩
theorem json18 (w : World) : Calls Try.prog 13 #[.int .i64 18] w fun e w' => e = .returned (.string ⟨#[111, 98, 106, 101, 99, 116]⟩) ∧ w' = w := by
  go_enter Try.func13, Try.ntmps13
  go_wp2
  go_ret
  exact ⟨rfl, rfl⟩
theorem kind18 (w : World) : Calls Try.prog 11 #[.string ⟨#[99, 104, 97, 110]⟩] w fun e w' => e = .returned (.string ⟨#[111, 98, 106, 101, 99, 116]⟩) ∧ w' = w :=
  shim_any ⟨#[99, 104, 97, 110]⟩ w (by decide)
theorem law3_18 (w : World) : Calls Try.prog 3 #[.int .i64 18] w fun e w' => e = .returned (.bool true) ∧ w' = w := by
  go_enter Try.func3, Try.ntmps3
  go_wp2_with (first | (go_at_call 12; refine (name18 _).mono ?_; rintro e w' ⟨rfl, rfl⟩) | (go_at_call 11; refine (kind18 _).mono ?_; rintro e w' ⟨rfl, rfl⟩) | (go_at_call 13; refine (json18 _).mono ?_; rintro e w' ⟨rfl, rfl⟩))
  go_ret
  exact ⟨rfl, rfl⟩

theorem name19 (w : World) : Calls Try.prog 12 #[.int .i64 19] w fun e w' => e = .returned (.string ⟨#[102, 117, 110, 99]⟩) ∧ w' = w := by
  go_enter Try.func12, Try.ntmps12
  go_wp2
  go_ret
  exact ⟨rfl, rfl⟩
theorem json19 (w : World) : Calls Try.prog 13 #[.int .i64 19] w fun e w' => e = .returned (.string ⟨#[111, 98, 106, 101, 99, 116]⟩) ∧ w' = w := by
  go_enter Try.func13, Try.ntmps13
  go_wp2
  go_ret
  exact ⟨rfl, rfl⟩
theorem kind19 (w : World) : Calls Try.prog 11 #[.string ⟨#[102, 117, 110, 99]⟩] w fun e w' => e = .returned (.string ⟨#[111, 98, 106, 101, 99, 116]⟩) ∧ w' = w :=
  shim_any ⟨#[102, 117, 110, 99]⟩ w (by decide)
theorem law3_19 (w : World) : Calls Try.prog 3 #[.int .i64 19] w fun e w' => e = .returned (.bool true) ∧ w' = w := by
  go_enter Try.func3, Try.ntmps3
  go_wp2_with (first | (go_at_call 12; refine (name19 _).mono ?_; rintro e w' ⟨rfl, rfl⟩) | (go_at_call 11; refine (kind19 _).mono ?_; rintro e w' ⟨rfl, rfl⟩) | (go_at_call 13; refine (json19 _).mono ?_; rintro e w' ⟨rfl, rfl⟩))
  go_ret
  exact ⟨rfl, rfl⟩

theorem name21 (w : World) : Calls Try.prog 12 #[.int .i64 21] w fun e w' => e = .returned (.string ⟨#[109, 97, 112]⟩) ∧ w' = w := by
  go_enter Try.func12, Try.ntmps12
  go_wp2
  go_ret
  exact ⟨rfl, rfl⟩
theorem json21 (w : World) : Calls Try.prog 13 #[.int .i64 21] w fun e w' => e = .returned (.string ⟨#[111, 98, 106, 101, 99, 116]⟩) ∧ w' = w := by
  go_enter Try.func13, Try.ntmps13
  go_wp2
  go_ret
  exact ⟨rfl, rfl⟩
theorem kind21 (w : World) : Calls Try.prog 11 #[.string ⟨#[109, 97, 112]⟩] w fun e w' => e = .returned (.string ⟨#[111, 98, 106, 101, 99, 116]⟩) ∧ w' = w :=
  shim_any ⟨#[109, 97, 112]⟩ w (by decide)
theorem law3_21 (w : World) : Calls Try.prog 3 #[.int .i64 21] w fun e w' => e = .returned (.bool true) ∧ w' = w := by
  go_enter Try.func3, Try.ntmps3
  go_wp2_with (first | (go_at_call 12; refine (name21 _).mono ?_; rintro e w' ⟨rfl, rfl⟩) | (go_at_call 11; refine (kind21 _).mono ?_; rintro e w' ⟨rfl, rfl⟩) | (go_at_call 13; refine (json21 _).mono ?_; rintro e w' ⟨rfl, rfl⟩))
  go_ret
  exact ⟨rfl, rfl⟩

theorem name22 (w : World) : Calls Try.prog 12 #[.int .i64 22] w fun e w' => e = .returned (.string ⟨#[112, 116, 114]⟩) ∧ w' = w := by
  go_enter Try.func12, Try.ntmps12
  go_wp2
  go_ret
  exact ⟨rfl, rfl⟩
theorem json22 (w : World) : Calls Try.prog 13 #[.int .i64 22] w fun e w' => e = .returned (.string ⟨#[111, 98, 106, 101, 99, 116]⟩) ∧ w' = w := by
  go_enter Try.func13, Try.ntmps13
  go_wp2
  go_ret
  exact ⟨rfl, rfl⟩
theorem kind22 (w : World) : Calls Try.prog 11 #[.string ⟨#[112, 116, 114]⟩] w fun e w' => e = .returned (.string ⟨#[111, 98, 106, 101, 99, 116]⟩) ∧ w' = w :=
  shim_any ⟨#[112, 116, 114]⟩ w (by decide)
theorem law3_22 (w : World) : Calls Try.prog 3 #[.int .i64 22] w fun e w' => e = .returned (.bool true) ∧ w' = w := by
  go_enter Try.func3, Try.ntmps3
  go_wp2_with (first | (go_at_call 12; refine (name22 _).mono ?_; rintro e w' ⟨rfl, rfl⟩) | (go_at_call 11; refine (kind22 _).mono ?_; rintro e w' ⟨rfl, rfl⟩) | (go_at_call 13; refine (json22 _).mono ?_; rintro e w' ⟨rfl, rfl⟩))
  go_ret
  exact ⟨rfl, rfl⟩

theorem name23 (w : World) : Calls Try.prog 12 #[.int .i64 23] w fun e w' => e = .returned (.string ⟨#[115, 108, 105, 99, 101]⟩) ∧ w' = w := by
  go_enter Try.func12, Try.ntmps12
  go_wp2
  go_ret
  exact ⟨rfl, rfl⟩
theorem json23 (w : World) : Calls Try.prog 13 #[.int .i64 23] w fun e w' => e = .returned (.string ⟨#[97, 114, 114, 97, 121]⟩) ∧ w' = w := by
  go_enter Try.func13, Try.ntmps13
  go_wp2
  go_ret
  exact ⟨rfl, rfl⟩
theorem kind23 (w : World) : Calls Try.prog 11 #[.string ⟨#[115, 108, 105, 99, 101]⟩] w fun e w' => e = .returned (.string ⟨#[97, 114, 114, 97, 121]⟩) ∧ w' = w :=
  shim_any ⟨#[115, 108, 105, 99, 101]⟩ w (by decide)
theorem law3_23 (w : World) : Calls Try.prog 3 #[.int .i64 23] w fun e w' => e = .returned (.bool true) ∧ w' = w := by
  go_enter Try.func3, Try.ntmps3
  go_wp2_with (first | (go_at_call 12; refine (name23 _).mono ?_; rintro e w' ⟨rfl, rfl⟩) | (go_at_call 11; refine (kind23 _).mono ?_; rintro e w' ⟨rfl, rfl⟩) | (go_at_call 13; refine (json23 _).mono ?_; rintro e w' ⟨rfl, rfl⟩))
  go_ret
  exact ⟨rfl, rfl⟩

theorem name24 (w : World) : Calls Try.prog 12 #[.int .i64 24] w fun e w' => e = .returned (.string ⟨#[115, 116, 114, 105, 110, 103]⟩) ∧ w' = w := by
  go_enter Try.func12, Try.ntmps12
  go_wp2
  go_ret
  exact ⟨rfl, rfl⟩
theorem json24 (w : World) : Calls Try.prog 13 #[.int .i64 24] w fun e w' => e = .returned (.string ⟨#[115, 116, 114, 105, 110, 103]⟩) ∧ w' = w := by
  go_enter Try.func13, Try.ntmps13
  go_wp2
  go_ret
  exact ⟨rfl, rfl⟩
theorem kind24 (w : World) : Calls Try.prog 11 #[.string ⟨#[115, 116, 114, 105, 110, 103]⟩] w fun e w' => e = .returned (.string ⟨#[115, 116, 114, 105, 110, 103]⟩) ∧ w' = w :=
  shim_any ⟨#[115, 116, 114, 105, 110, 103]⟩ w (by decide)
theorem law3_24 (w : World) : Calls Try.prog 3 #[.int .i64 24] w fun e w' => e = .returned (.bool true) ∧ w' = w := by
  go_enter Try.func3, Try.ntmps3
  go_wp2_with (first | (go_at_call 12; refine (name24 _).mono ?_; rintro e w' ⟨rfl, rfl⟩) | (go_at_call 11; refine (kind24 _).mono ?_; rintro e w' ⟨rfl, rfl⟩) | (go_at_call 13; refine (json24 _).mono ?_; rintro e w' ⟨rfl, rfl⟩))
  go_ret
  exact ⟨rfl, rfl⟩

theorem name25 (w : World) : Calls Try.prog 12 #[.int .i64 25] w fun e w' => e = .returned (.string ⟨#[115, 116, 114, 117, 99, 116]⟩) ∧ w' = w := by
  go_enter Try.func12, Try.ntmps12
  go_wp2
  go_ret
  exact ⟨rfl, rfl⟩
theorem json25 (w : World) : Calls Try.prog 13 #[.int .i64 25] w fun e w' => e = .returned (.string ⟨#[111, 98, 106, 101, 99, 116]⟩) ∧ w' = w := by
  go_enter Try.func13, Try.ntmps13
  go_wp2
  go_ret
  exact ⟨rfl, rfl⟩
theorem kind25 (w : World) : Calls Try.prog 11 #[.string ⟨#[115, 116, 114, 117, 99, 116]⟩] w fun e w' => e = .returned (.string ⟨#[111, 98, 106, 101, 99, 116]⟩) ∧ w' = w :=
  shim_any ⟨#[115, 116, 114, 117, 99, 116]⟩ w (by decide)
theorem law3_25 (w : World) : Calls Try.prog 3 #[.int .i64 25] w fun e w' => e = .returned (.bool true) ∧ w' = w := by
  go_enter Try.func3, Try.ntmps3
  go_wp2_with (first | (go_at_call 12; refine (name25 _).mono ?_; rintro e w' ⟨rfl, rfl⟩) | (go_at_call 11; refine (kind25 _).mono ?_; rintro e w' ⟨rfl, rfl⟩) | (go_at_call 13; refine (json25 _).mono ?_; rintro e w' ⟨rfl, rfl⟩))
  go_ret
  exact ⟨rfl, rfl⟩

theorem name26 (w : World) : Calls Try.prog 12 #[.int .i64 26] w fun e w' => e = .returned (.string ⟨#[117, 110, 115, 97, 102, 101, 46, 80, 111, 105, 110, 116, 101, 114]⟩) ∧ w' = w := by
  go_enter Try.func12, Try.ntmps12
  go_wp2
  go_ret
  exact ⟨rfl, rfl⟩
theorem json26 (w : World) : Calls Try.prog 13 #[.int .i64 26] w fun e w' => e = .returned (.string ⟨#[111, 98, 106, 101, 99, 116]⟩) ∧ w' = w := by
  go_enter Try.func13, Try.ntmps13
  go_wp2
  go_ret
  exact ⟨rfl, rfl⟩
theorem kind26 (w : World) : Calls Try.prog 11 #[.string ⟨#[117, 110, 115, 97, 102, 101, 46, 80, 111, 105, 110, 116, 101, 114]⟩] w fun e w' => e = .returned (.string ⟨#[111, 98, 106, 101, 99, 116]⟩) ∧ w' = w :=
  shim_any ⟨#[117, 110, 115, 97, 102, 101, 46, 80, 111, 105, 110, 116, 101, 114]⟩ w (by decide)
theorem law3_26 (w : World) : Calls Try.prog 3 #[.int .i64 26] w fun e w' => e = .returned (.bool true) ∧ w' = w := by
  go_enter Try.func3, Try.ntmps3
  go_wp2_with (first | (go_at_call 12; refine (name26 _).mono ?_; rintro e w' ⟨rfl, rfl⟩) | (go_at_call 11; refine (kind26 _).mono ?_; rintro e w' ⟨rfl, rfl⟩) | (go_at_call 13; refine (json26 _).mono ?_; rintro e w' ⟨rfl, rfl⟩))
  go_ret
  exact ⟨rfl, rfl⟩

end Go.Proofs.Qxb6600817a.Walk
