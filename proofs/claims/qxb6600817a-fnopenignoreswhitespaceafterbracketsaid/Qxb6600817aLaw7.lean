/-
  DERIVED. THE WALK OF FnNextIgnoresInsertedWhitespace.
-/
import Derived.Test.Qxb6600817aBounds
import Derived.Test.Qxb6600817aInsert
import Derived.Deep.RegionWith
namespace Go.Proofs.Qxb6600817a.Walk
open Go.RowKit Plain

theorem grown_trans {a b c : World} (h : Grown a b) (g : Grown b c) : Grown a c :=
  ⟨World.keptBut_trans h.1 (World.keptBut_mono (fun _ f => f) g.1), fun x => (g.2.1 x).trans (h.2.1 x), Nat.le_trans h.2.2 g.2.2⟩

theorem zzNext_ins (s t : ByteArray) (p j : Nat) (w : World) (hst : s.size + t.size ≤ 1048576) (hp : p ≤ s.size) (ht : allB t = true) (hj : Solid s p j) :
    Calls Try.prog 16 #[.string (s.extract 0 p ++ t ++ s.extract p s.size), .int .i64 p] w fun e w' => e = .returned (.tuple #[.int .u8 (bt s j), .int .i64 ((j : Int) + t.size)]) ∧ Grown w w' := by
  have hz := ins_size s t p hp
  refine (zzNext_any (ins s t p) p w (by omega) (by omega)).mono ?_
  rintro e w1 ⟨k, hk, rfl, hg⟩
  obtain rfl := hk.uniq (hj.ins hp (allB_at ht))
  refine ⟨?_, hg⟩
  rw [bt_ins_behind s t p j hp hj.le, Int.natCast_add]

set_option maxHeartbeats 400000 in
theorem law7_in (s t : ByteArray) (p : Nat) (w : World) (hst : s.size + t.size ≤ 1048576) (hp : p ≤ s.size) (ht : allB t = true) :
    Calls Try.prog 7 #[.string s, .int .i64 p, .string t] w fun e w' => e = .returned (.bool true) ∧ Grown w w' := by
  have hl := lenB_yes hst
  go_enter Try.func7, Try.ntmps7
  go_wp2_with fail
  refine (bytes19 s t p _ (by unfold maxLen; omega) (by unfold maxLen; omega)).mono ?_
  rintro e w1 ⟨rfl, rfl⟩
  go_wp2_with fail
  refine (allWS_any t _ (by omega)).mono ?_
  rintro e w1 ⟨rfl, rfl⟩
  go_wp2_with fail
  refine (zzNext_any s p _ (by omega) (by omega)).mono ?_
  rintro e w1 ⟨j, hj, rfl, hg⟩
  have hjb : j ≤ 1048576 := by have := hj.bound; omega
  have HT : Hid (allB t = true) := ht
  clear hl ht
  go_wp2
  go_region_with (go_at_call 16; refine (zzNext_ins s t p j _ hst hp HT.out hj).mono ?_; rintro e w2 ⟨rfl, hg2⟩)
  all_goals
    go_wp2
    go_ret
    exact ⟨rfl, grown_trans hg hg2⟩

end Go.Proofs.Qxb6600817a.Walk
