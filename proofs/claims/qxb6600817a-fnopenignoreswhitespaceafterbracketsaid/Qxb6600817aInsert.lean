/-
  DERIVED. THE PLAIN LAW OF INSERTED WHITESPACE: no Go in sight.
-/
import Derived.Test.Qxb6600817aPlain
namespace Go.Proofs.Qxb6600817a.Plain

def ins (s t : ByteArray) (p : Nat) : ByteArray := s.extract 0 p ++ t ++ s.extract p s.size

theorem ins_list (s t : ByteArray) (p : Nat) : (ins s t p).data.toList = s.data.toList.take p ++ t.data.toList ++ s.data.toList.drop p := by
  unfold ins
  simp only [ByteArray.data_append, ByteArray.data_extract, Array.toList_append, Array.toList_extract, List.extract_eq_take_drop, List.drop_zero, Nat.sub_zero]
  rw [List.take_of_length_le (l := List.drop p s.data.toList) (by simp)]

theorem size_list (s : ByteArray) : s.data.toList.length = s.size := by simp

theorem ins_size (s t : ByteArray) (p : Nat) (hp : p ≤ s.size) : (ins s t p).size = s.size + t.size := by
  have h := congrArg List.length (ins_list s t p)
  simp only [List.length_append, List.length_take, List.length_drop, size_list] at h
  omega

theorem bt_ins_mid (s t : ByteArray) (p i : Nat) (hp : p ≤ s.size) (hi : i < t.size) : bt (ins s t p) (p + i) = bt t i := by
  unfold bt
  rw [ins_list, List.append_assoc, List.getElem?_append_right (by simp; omega), List.length_take, size_list, Nat.min_eq_left hp, Nat.add_sub_cancel_left,
    List.getElem?_append_left (by rw [size_list]; exact hi)]

theorem bt_ins_behind (s t : ByteArray) (p i : Nat) (hp : p ≤ s.size) (hi : p ≤ i) : bt (ins s t p) (i + t.size) = bt s i := by
  unfold bt
  rw [ins_list, List.getElem?_append_right (by simp; omega), List.length_append, List.length_take, size_list, size_list, Nat.min_eq_left hp, List.getElem?_drop]
  congr 4
  omega

/-- THE LAW: with whitespace t laid at p, the first solid place from p on moves by t's length. -/
theorem Solid.ins {s t : ByteArray} {p j : Nat} (hp : p ≤ s.size) (ht : ∀ i, i < t.size → ws (bt t i) = true) (h : Solid s p j) : Solid (ins s t p) p (j + t.size) := by
  have hz := ins_size s t p hp
  refine ⟨by have := h.le; omega, fun i h1 h2 => ?_, fun hlt => ?_⟩
  · by_cases hi : i < p + t.size
    · refine ⟨by omega, ?_⟩
      obtain ⟨d, rfl⟩ : ∃ d, i = p + d := ⟨i - p, by omega⟩
      rw [bt_ins_mid s t p d hp (by omega)]
      exact ht d (by omega)
    · obtain ⟨d, rfl⟩ : ∃ d, i = d + t.size := ⟨i - t.size, by omega⟩
      have a := h.skip d (by omega) (by omega)
      refine ⟨by omega, ?_⟩
      rw [bt_ins_behind s t p d hp (by omega)]
      exact a.2
  · rw [bt_ins_behind s t p j hp h.le]
    exact h.stop (by omega)

end Go.Proofs.Qxb6600817a.Plain
