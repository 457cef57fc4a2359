/-
  DERIVED. THE WALKS OF FnNextMatchesBackwardScan AND FnOpenMatchesModel.
-/
import Derived.Test.Qxb6600817aBounds
namespace Go.Proofs.Qxb6600817a.Walk
open Go.RowKit Plain

set_option maxHeartbeats 400000 in
theorem law5_in (s : ByteArray) (p : Nat) (w : World) (hs : s.size ≤ 1048576) (hp : p ≤ 1073741824) :
    Calls Try.prog 5 #[.string s, .int .i64 p] w fun e w' => e = .returned (.bool true) ∧ Grown w w' := by
  have hl := lenB_yes hs
  go_enter Try.func5, Try.ntmps5
  go_wp2_with fail
  refine (bytes15 s p _ (by unfold maxLen; omega)).mono ?_
  rintro e w1 ⟨rfl, rfl⟩
  go_wp2_with fail
  refine (zzNext_any s p _ (by omega) (by omega)).mono ?_
  rintro e w1 ⟨j, hj, rfl, hg⟩
  clear hl
  go_wp2_with fail
  refine (modelNext_any s p _ (by omega)).mono ?_
  rintro e w2 ⟨⟨k, hk, rfl⟩, rfl⟩
  obtain rfl := hj.uniq hk
  go_wp2
  go_ret
  exact ⟨rfl, hg⟩

theorem Opened.uniq {s : ByteArray} {p : Nat} {c : Int} {r r' : Bool} {q q' : Nat} (h : Opened s p c r q) (g : Opened s p c r' q') : r = r' ∧ q = q' := by
  obtain ⟨j, hj, h⟩ := h
  obtain ⟨k, hk, g⟩ := g
  obtain rfl := hj.uniq hk
  rcases h with ⟨h1, h2, h3⟩ | ⟨h1, h2, h3⟩ <;> rcases g with ⟨g1, g2, g3⟩ | ⟨g1, g2, g3⟩
  · exact ⟨h2.trans g2.symm, h3.trans g3.symm⟩
  · exact absurd h1 g1
  · exact absurd g1 h1
  · exact ⟨h2.trans g2.symm, h3.trans g3.symm⟩

set_option maxHeartbeats 400000 in
theorem law8_in (s : ByteArray) (p : Nat) (c : Int) (w : World) (hs : s.size ≤ 1048576) (hp : p ≤ 1073741824) :
    Calls Try.prog 8 #[.string s, .int .i64 p, .int .u8 c] w fun e w' => e = .returned (.bool true) ∧ Grown w w' := by
  have hl := lenB_yes hs
  go_enter Try.func8, Try.ntmps8
  go_wp2_with fail
  refine (bytes21 s p c _ (by unfold maxLen; omega)).mono ?_
  rintro e w1 ⟨rfl, rfl⟩
  go_wp2_with fail
  refine (zzOpen_any s p c _ (by omega) (by omega)).mono ?_
  rintro e w1 ⟨r, q, ho, rfl, hg⟩
  clear hl
  go_wp2_with fail
  refine (modelOpen_any s p c _ (by omega) (by omega)).mono ?_
  rintro e w2 ⟨⟨r', q', ho', rfl⟩, rfl⟩
  obtain ⟨rfl, rfl⟩ := ho.uniq ho'
  clear ho ho'
  cases r
  · go_wp2
    go_ret
    exact ⟨rfl, hg⟩
  · go_wp2
    go_ret
    exact ⟨rfl, hg⟩

end Go.Proofs.Qxb6600817a.Walk
