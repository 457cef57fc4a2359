/-
  DERIVED. THE WALKS OF ZZNext, open, ZZOpen.
-/
import Derived.Test.Qxb6600817aNext
namespace Go.Proofs.Qxb6600817a.Walk
open Go.RowKit Plain

set_option maxHeartbeats 400000 in
theorem zzNext_any (s : ByteArray) (p : Nat) (w : World) (hs : s.size ≤ 4194304) (hp : p ≤ 2147483648) :
    Calls Try.prog 16 #[.string s, .int .i64 p] w fun e w' => ∃ j : Nat, Solid s p j ∧ e = .returned (.tuple #[.int .u8 (bt s j), .int .i64 j]) ∧ Grown w w' := by
  have h0 : Scan w w.heap.size s (w.alloc (.cells #[.string s, .int .i64 p] 38)) p :=
    ⟨(Grown.refl w).alloc _ _, Nat.le_refl _, by simp, by simp, by simp⟩
  go_enter Try.func16, Try.ntmps16
  go_wp2_with fail
  refine (next_any s p _ _ _ hs hp h0).mono ?_
  rintro e w1 ⟨j, hj, rfl, hsc⟩
  have c0' := hsc.c0
  have c1' := hsc.c1
  have hf' := hsc.fz
  go_wp2
  go_quiet (fail)
  go_wp2
  go_ret2
  exact ⟨j, hj, rfl, hsc.grown⟩

/-- What open comes to: its answer r and the place q that it leaves. -/
def Opened (s : ByteArray) (p : Nat) (c : Int) (r : Bool) (q : Nat) : Prop :=
  ∃ j : Nat, Solid s (p + 1) j ∧ ((bt s j = c ∧ r = false ∧ q = j + 1) ∨ (bt s j ≠ c ∧ r = true ∧ q = j))

set_option maxHeartbeats 400000 in
theorem open_any (s : ByteArray) (p : Nat) (c : Int) (b : Nat) (W w : World) (hs : s.size ≤ 4194304) (hp : p ≤ 2147483600) (h : Scan W b s w p) :
    Calls Try.prog 30 #[.pointer (some ⟨b, 0, none⟩), .int .u8 c] w fun e w' => ∃ (r : Bool) (q : Nat), Opened s p c r q ∧ e = .returned (.bool r) ∧ Scan W b s w' q := by
  have c0' := h.c0
  have c1' := h.c1
  have hf' := h.fz
  go_enter Try.func30, Try.ntmps30
  go_wp2_with fail
  refine (next_any s (p + 1) _ _ _ hs (by omega) h.step).mono ?_
  rintro e w1 ⟨j, hj, rfl, hsc⟩
  have hjb := hj.bound
  have hjl : j ≤ 2151677904 := by omega
  clear hjb c0' c1' hf'
  have c0' := hsc.c0
  have c1' := hsc.c1
  have hf' := hsc.fz
  by_cases hc : bt s j = c
  · subst hc
    go_wp2
    go_ret
    exact ⟨false, j + 1, ⟨j, hj, Or.inl ⟨rfl, rfl, rfl⟩⟩, rfl, hsc.step⟩
  · have hc' : (bt s j != c) = true := by simp [hc]
    go_wp2
    go_ret
    exact ⟨true, j, ⟨j, hj, Or.inr ⟨hc, rfl, rfl⟩⟩, rfl, hsc⟩

set_option maxHeartbeats 400000 in
theorem zzOpen_any (s : ByteArray) (p : Nat) (c : Int) (w : World) (hs : s.size ≤ 4194304) (hp : p ≤ 2147483600) :
    Calls Try.prog 22 #[.string s, .int .i64 p, .int .u8 c] w fun e w' => ∃ (r : Bool) (q : Nat), Opened s p c r q ∧ e = .returned (.tuple #[.bool r, .int .i64 q]) ∧ Grown w w' := by
  have h0 : Scan w w.heap.size s (w.alloc (.cells #[.string s, .int .i64 p] 38)) p :=
    ⟨(Grown.refl w).alloc _ _, Nat.le_refl _, by simp, by simp, by simp⟩
  go_enter Try.func22, Try.ntmps22
  go_wp2_with fail
  refine (open_any s p c _ _ _ hs hp h0).mono ?_
  rintro e w1 ⟨r, q, hj, rfl, hsc⟩
  have c0' := hsc.c0
  have c1' := hsc.c1
  have hf' := hsc.fz
  go_wp2
  go_quiet (fail)
  go_wp2
  go_ret2
  exact ⟨r, q, hj, rfl, hsc.grown⟩

end Go.Proofs.Qxb6600817a.Walk
