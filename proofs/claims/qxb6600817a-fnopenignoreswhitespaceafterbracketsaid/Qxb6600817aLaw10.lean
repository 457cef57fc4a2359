/-
  DERIVED. THE WALK OF FnOpenIgnoresWhitespaceAfterBracket.
-/
import Derived.Test.Qxb6600817aBounds
import Derived.Test.Qxb6600817aInsert
import Derived.Test.Qxb6600817aLaw58
import Derived.Test.Qxb6600817aLaw7
import Derived.Deep.RegionWith
namespace Go.Proofs.Qxb6600817a.Walk
open Go.RowKit Plain

theorem Opened.ins {s t : ByteArray} {p : Nat} {c : Int} {r : Bool} {q : Nat} (hp : p + 1 ≤ s.size) (ht : ∀ i, i < t.size → ws (bt t i) = true) (h : Opened s p c r q) : Opened (ins s t (p + 1)) p c r (q + t.size) := by
  obtain ⟨j, hj, h⟩ := h
  refine ⟨j + t.size, hj.ins hp ht, ?_⟩
  rw [bt_ins_behind s t (p + 1) j hp hj.le]
  rcases h with ⟨h1, h2, h3⟩ | ⟨h1, h2, h3⟩
  · exact Or.inl ⟨h1, h2, by omega⟩
  · exact Or.inr ⟨h1, h2, by omega⟩

theorem zzOpen_ins (s t : ByteArray) (p : Nat) (c : Int) (r : Bool) (q : Nat) (w : World) (hst : s.size + t.size ≤ 1048576) (hp : p < s.size) (ht : allB t = true) (ho : Opened s p c r q) :
    Calls Try.prog 22 #[.string (s.extract 0 (p + 1) ++ t ++ s.extract (p + 1) s.size), .int .i64 p, .int .u8 c] w fun e w' => e = .returned (.tuple #[.bool r, .int .i64 ((q : Int) + t.size)]) ∧ Grown w w' := by
  have hz := ins_size s t (p + 1) hp
  refine (zzOpen_any (ins s t (p + 1)) p c w (by omega) (by omega)).mono ?_
  rintro e w1 ⟨r', q', hk, rfl, hg⟩
  obtain ⟨rfl, rfl⟩ := hk.uniq (ho.ins hp (allB_at ht))
  refine ⟨?_, hg⟩
  rw [Int.natCast_add]

theorem Opened.bound {s : ByteArray} {p : Nat} {c : Int} {r : Bool} {q : Nat} (h : Opened s p c r q) (hp : p < s.size) : q ≤ s.size + 1 := by
  obtain ⟨j, hj, h⟩ := h
  have := hj.bound
  rcases h with ⟨_, _, h3⟩ | ⟨_, _, h3⟩ <;> omega

set_option maxHeartbeats 400000 in
theorem law10_in (s t : ByteArray) (p : Nat) (c : Int) (w : World) (hst : s.size + t.size ≤ 1048576) (hp : p < s.size) (ht : allB t = true) :
    Calls Try.prog 10 #[.string s, .int .i64 p, .int .u8 c, .string t] w fun e w' => e = .returned (.bool true) ∧ Grown w w' := by
  have hl := lenB_yes hst
  go_enter Try.func10, Try.ntmps10
  go_wp2_with fail
  refine (bytes26 s t p c _ (by unfold maxLen; omega) (by unfold maxLen; omega)).mono ?_
  rintro e w1 ⟨rfl, rfl⟩
  go_wp2_with fail
  refine (allWS_any t _ (by omega)).mono ?_
  rintro e w1 ⟨rfl, rfl⟩
  go_wp2_with fail
  refine (zzOpen_any s p c _ (by omega) (by omega)).mono ?_
  rintro e w1 ⟨r, q, ho, rfl, hg⟩
  have hjb : q ≤ 1048577 := by have := ho.bound hp; omega
  have HT : Hid (allB t = true) := ht
  clear hl ht
  have hwr : IntKind.i64.wrap ((p : Int) + 1) = (p : Int) + 1 := by rw [IntKind.wrap_i64]; omega
  have hpi : (p : Int) + 1 ≤ s.size := by omega
  go_wp2
  go_region_with (go_at_call 22; refine (zzOpen_ins s t p c r q _ hst hp HT.out ho).mono ?_; rintro e w2 ⟨rfl, hg2⟩)
  all_goals
    cases r
    · go_wp2
      go_ret
      exact ⟨rfl, grown_trans hg hg2⟩
    · go_wp2
      go_ret
      exact ⟨rfl, grown_trans hg hg2⟩

end Go.Proofs.Qxb6600817a.Walk
