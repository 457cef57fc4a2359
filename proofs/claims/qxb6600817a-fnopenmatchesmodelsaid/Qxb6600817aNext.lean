/-
  DERIVED. THE WALKS OF THE SCANNER: next, open and their shims.
-/
import Derived.Test.Qxb6600817aWs
import Derived.WalkKit
import Derived.RegionTactic
import Derived.ChangeAlike
import Derived.Deep.QuietTactic
import Derived.BigQuiet
namespace Go.Proofs.Qxb6600817a.Walk
open Go.RowKit Plain

theorem ret_int {k : IntKind} {a b : Int} (h : a = b) : Ending.returned (.int k a) = .returned (.int k b) := by rw [h]

def posIn (b : Nat) (w : World) : Nat := match w.cell? ⟨b, 1, none⟩ with | some v => (intOf v).toNat | none => 0

theorem posIn_of {b : Nat} {w : World} {k : Nat} (h : w.cell? ⟨b, 1, none⟩ = some (.int .i64 k)) : posIn b w = k := by
  simp [posIn, h, intOf]

/-- Block b of the call's own holds a scanner over s at place k; of what lay in W nothing has turned. -/
structure Scan (W : World) (b : Nat) (s : ByteArray) (w : World) (k : Nat) : Prop where
  grown : Grown W w
  base : W.heap.size ≤ b
  c0 : w.cell? ⟨b, 0, none⟩ = some (.string s)
  c1 : w.cell? ⟨b, 1, none⟩ = some (.int .i64 k)
  fz : w.frozen? ⟨b, 1, none⟩ = false

theorem Scan.drewN {W : World} {b : Nat} {s : ByteArray} {w : World} {k : Nat} (h : Scan W b s w k) (n : Nat) : Scan W b s (w.drewN n) k :=
  ⟨h.grown, h.base, h.c0, h.c1, h.fz⟩

theorem Scan.step {W : World} {b : Nat} {s : ByteArray} {w : World} {k : Nat} (h : Scan W b s w k) :
    Scan W b s (w.setCell ⟨b, 1, none⟩ (.int .i64 ((k : Int) + 1))) (k + 1) :=
  ⟨h.grown.setCell h.base _, h.base, (World.cell?_setCell_other _ _ _ _ (by simp)).trans h.c0,
    (World.cell?_setCell_same _ _ _ h.c1).trans (by simp), (World.frozen?_setCell ..).trans h.fz⟩

def Blank (s : ByteArray) (p k : Nat) : Prop := ∀ i, p ≤ i → i < k → i < s.size ∧ ws (bt s i) = true

theorem Blank.step {s : ByteArray} {p k : Nat} (h : Blank s p k) (hlt : k < s.size) (hw : ws (s[k].toNat : Int) = true) : Blank s p (k + 1) := by
  intro i hi hk
  by_cases e : i = k
  · subst e; exact ⟨hlt, by rw [bt_in hlt]; exact hw⟩
  · exact h i hi (by omega)

set_option maxHeartbeats 400000 in
theorem next_any (s : ByteArray) (p : Nat) (b : Nat) (W w : World) (hs : s.size ≤ 4194304) (hp : p ≤ 2147483648) (h : Scan W b s w p) :
    Calls Try.prog 28 #[.pointer (some ⟨b, 0, none⟩)] w fun e w' => ∃ j : Nat, Solid s p j ∧ e = .returned (.int .u8 (bt s j)) ∧ Scan W b s w' j := by
  go_enter Try.func28, Try.ntmps28
  go_wp2
  go_loopw [2] (fun r wr => r = .int .u8 0 ∧ ∃ k : Nat, p ≤ k ∧ k ≤ p + s.size ∧ Blank s p k ∧ Scan W b s wr k)
    (fun _ wr => s.size - posIn b wr)
  case atStart => exact ⟨rfl, p, Nat.le_refl _, by omega, fun i h1 h2 => by omega, h⟩
  case round =>
    obtain ⟨rfl, k, hk1, hk2, hbl, hsc⟩ := hrel
    have c0' := hsc.c0
    have c1' := hsc.c1
    have hf' := hsc.fz
    by_cases hlt : k < s.size
    · go_wp2
      go_quiet (fail)
      go_wp2
      go_quiet (fail)
      go_wp2
      rotate_right 1
      · have hw : ws (s[k].toNat : Int) = false := by simp only [ws, *]; rfl
        go_ret
        exact ⟨k, ⟨hk1, hbl, fun _ => by rw [bt_in hlt]; exact hw⟩, ret_int (bt_in hlt).symm, hsc.drewN _⟩
      all_goals
        have hw : ws (s[k].toNat : Int) = true := by simp [ws, *]
        refine ⟨⟨rfl, k + 1, by omega, by omega, hbl.step hlt hw, (hsc.drewN _).step⟩, ?_⟩
        rw [posIn_of c1', posIn_of ((hsc.drewN _).step).c1]
        omega
    · go_wp2
      go_quiet (fail)
      go_wp2
      go_ret
      exact ⟨k, ⟨hk1, hbl, fun a => absurd a hlt⟩, ret_int (bt_out (by omega)).symm, hsc.drewN _⟩
end Go.Proofs.Qxb6600817a.Walk
