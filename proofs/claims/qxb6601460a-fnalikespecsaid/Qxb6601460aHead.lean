/-
  DERIVED. THE HEAD OF THIS PROGRAM's TRANSLATION, sign by sign: three closed facts on it, which the kernel, left to decode the long text by itself, cannot reckon within its lid.
-/
import Derived.Test.Qxb6601460aRows
namespace Go.Proofs.Qxb6601460a.Head

def signs : List Char := List.map Char.ofNat
  [104, 97, 114, 110, 101, 115, 115, 32, 56, 55, 98, 101, 49, 100, 57, 49, 101, 54, 53, 51, 54, 56, 99, 57, 98, 102, 49, 52, 97, 97, 52, 102,
   54, 102, 53, 99, 52, 100, 56, 100, 54, 97, 98, 49, 98, 49, 48, 57, 51, 50, 49, 97, 50, 99, 54, 57, 55, 57, 99, 99, 48, 97, 99, 53,
   57, 97, 98, 55, 55, 57, 98, 98, 32, 99, 117, 116, 32, 97, 116, 32, 101, 120, 97, 109, 112, 108, 101, 46, 99, 111, 109, 47, 116, 105, 100, 101,
   115, 104, 105, 102, 116, 47, 116, 105, 100, 101, 115, 104, 105, 102, 116, 47, 122, 122, 108, 97, 119, 115, 95, 105, 110, 116, 101, 114, 110, 97, 108, 95,
   99, 111, 109, 112, 97, 114, 101, 95, 98, 49, 46, 70, 110, 65, 108, 105, 107, 101, 83, 112, 101, 99, 32, 101, 120, 97, 109, 112, 108, 101, 46, 99,
   111, 109, 47, 116, 105, 100, 101, 115, 104, 105, 102, 116, 47, 116, 105, 100, 101, 115, 104, 105, 102, 116, 47, 122, 122, 108, 97, 119, 115, 95, 105, 110,
   116, 101, 114, 110, 97, 108, 95, 99, 111, 109, 112, 97, 114, 101, 95, 98, 49, 46, 70, 110, 65, 108, 105, 107, 101, 83, 121, 109, 109, 101, 116, 114,
   105, 99, 82, 101, 102, 108, 101, 120, 105, 118, 101, 32, 101, 120, 97, 109, 112, 108, 101, 46, 99, 111, 109, 47, 116, 105, 100, 101, 115, 104, 105, 102,
   116, 47, 116, 105, 100, 101, 115, 104, 105, 102, 116, 47, 122, 122, 108, 97, 119, 115, 95, 105, 110, 116, 101, 114, 110, 97, 108, 95, 99, 111, 109, 112,
   97, 114, 101, 95, 98, 49, 46, 70, 110, 72, 97, 115, 104, 101, 100, 82, 101, 100, 117, 99, 101, 115, 32, 101, 120, 97, 109, 112, 108, 101, 46, 99,
   111, 109, 47, 116, 105, 100, 101, 115, 104, 105, 102, 116, 47, 116, 105, 100, 101, 115, 104, 105, 102, 116, 47, 122, 122, 108, 97, 119, 115, 95, 105, 110,
   116, 101, 114, 110, 97, 108, 95, 99, 111, 109, 112, 97, 114, 101, 95, 98, 49, 46, 70, 110, 72, 97, 115, 104, 101, 100, 73, 110, 106, 101, 99, 116,
   105, 118, 101, 73, 110, 86, 97, 108, 117, 101]

theorem order : Try.prog.initOrder = String.ofList signs := by kernel_rfl
theorem order_list : Try.prog.initOrder.toList = signs := by rw [order]; exact String.toList_ofList

/-- The words behind the head's first two: 'cut', and what follows it. -/
def rest : List (List Char) := (behindMainWord (wordsSigns signs)).tail
theorem words : behindMainWord (wordsSigns signs) = "cut".toList :: rest := by kernel_rfl

def W (l : List Nat) : List Char := l.map Char.ofNat
theorem cut_is : "cut".toList = W [99, 117, 116] := String.toList_ofList

theorem strip_go : ∀ (os : List String) (r : List (List Char)), (os.all fun o => !(("cut".toList == o.toList))) = true → stripLifts os ("cut".toList :: r) = ([], "cut".toList :: r)
  | [], r, _ => rfl
  | o :: os, r, h => by
    simp only [List.all_cons, Bool.and_eq_true, Bool.not_eq_true'] at h
    rw [stripLifts, h.1, if_neg (by decide)]
    exact strip_go os r h.2

theorem opens_self : ∀ l : List UInt8, opensWith l l = true
  | [] => rfl
  | a :: l => by simp [opensWith, opens_self l]

theorem name_apart {a b : String} (h : opensWith (nameBytes b) (nameBytes a) = false) : (a == b) = false := by
  cases e : (a == b)
  · rfl
  · have e' := eq_of_beq e
    subst e'
    rw [opens_self] at h
    exact h

def otherThan (fn : Func) : Bool := fn.body.isSome || (!opensWith (nameBytes "runtime.SetFinalizer") (nameBytes fn.name) && !opensWith (nameBytes "runtime.AddCleanup") (nameBytes fn.name) && !opensWith (nameBytes "runtime.AddCleanup") (nameBytes fn.origin))

theorem later_of {P : Program} (h : P.funcs.toList.all otherThan = true) : P.laysLater = false := by
  unfold Program.laysLater
  rw [← Array.any_toList]
  rw [List.any_eq_false]
  intro fn hfn
  have g := List.all_eq_true.1 h fn hfn
  unfold otherThan at g
  simp only [Bool.or_eq_true, Bool.and_eq_true, Bool.not_eq_true'] at g
  rcases g with g | ⟨⟨g1, g2⟩, g3⟩
  · rw [Option.isSome_iff_ne_none] at g
    cases hb : fn.body with
    | none => exact absurd hb g
    | some _ => simp
  · rw [name_apart g1, name_apart g2, name_apart g3]
    simp

theorem cut_apart {o : String} {l : List Char} (h : o = String.ofList l) (g : (W [99, 117, 116] == l) = false) : ("cut".toList == o.toList) = false := by
  rw [cut_is, h, String.toList_ofList]
  exact g

theorem apart : (liftWords.all fun o => !(("cut".toList == o.toList))) = true := by
  unfold liftWords
  simp only [List.all_cons, List.all_nil, Bool.and_true, Bool.and_eq_true, Bool.not_eq_true']
  exact ⟨cut_apart (l := W [102, 105, 110, 97, 108, 115]) (by kernel_rfl) (by decide),
    cut_apart (l := W [114, 101, 102, 108, 101, 99, 116, 114, 111, 119, 115]) (by kernel_rfl) (by decide),
    cut_apart (l := W [108, 101, 97, 110, 114, 111, 119, 115]) (by kernel_rfl) (by decide),
    cut_apart (l := W [111, 110, 101, 98, 117, 105, 108, 100]) (by kernel_rfl) (by decide),
    cut_apart (l := W [112, 117, 98, 108, 105, 99, 115, 117, 109, 115]) (by kernel_rfl) (by decide),
    cut_apart (l := W [101, 113, 103, 117, 97, 114, 100]) (by kernel_rfl) (by decide),
    cut_apart (l := W [111, 119, 110, 117, 110, 115, 97, 102, 101]) (by kernel_rfl) (by decide),
    cut_apart (l := W [108, 105, 98, 98, 101, 115, 105, 100, 101]) (by kernel_rfl) (by decide),
    cut_apart (l := W [111, 119, 110, 98, 101, 115, 105, 100, 101]) (by kernel_rfl) (by decide),
    cut_apart (l := W [114, 101, 102, 108, 98, 101, 115, 105, 100, 101]) (by kernel_rfl) (by decide),
    cut_apart (l := W [97, 108, 105, 97, 115, 101, 115]) (by kernel_rfl) (by decide),
    cut_apart (l := W [97, 102, 116, 101, 114, 105, 110, 105, 116]) (by kernel_rfl) (by decide),
    cut_apart (l := W [99, 114, 99, 112, 108, 97, 105, 110]) (by kernel_rfl) (by decide),
    cut_apart (l := W [114, 111, 97, 100, 117, 110, 115, 97, 102, 101]) (by kernel_rfl) (by decide),
    cut_apart (l := W [102, 109, 116, 104, 97, 110, 100, 111, 110]) (by kernel_rfl) (by decide)⟩

theorem strip (r : List (List Char)) : stripLifts liftWords ("cut".toList :: r) = ([], "cut".toList :: r) := strip_go liftWords r apart

theorem not_gc : ("cut".toList == "gc".toList) = false := cut_apart (l := W [103, 99]) (by kernel_rfl) (by decide)
theorem not_spec : ("cut".toList == "spec".toList) = false := cut_apart (l := W [115, 112, 101, 99]) (by kernel_rfl) (by decide)
theorem not_carried : ("cut".toList == "carried".toList) = false := cut_apart (l := W [99, 97, 114, 114, 105, 101, 100]) (by kernel_rfl) (by decide)

theorem some_apart {a b : List Char} (h : (a == b) = false) : (some a == some b) = false := h

theorem lifts : Try.prog.headLifts = [] := by
  unfold Program.headLifts
  rw [order_list, words, strip]
  simp only [List.head?_cons, beq_self_eq_true, if_pos]

theorem make_of {P : Program} {r : List (List Char)} (h : behindMainWord (wordsSigns P.initOrder.toList) = "cut".toList :: r) : P.make = some .cut := by
  have e1 := not_gc
  have e2 := not_spec
  unfold Program.make
  rw [h]
  generalize "gc".toList = g at *
  generalize "spec".toList = s at *
  generalize "cut".toList = k at *
  simp only [e1, e2, beq_self_eq_true, Bool.or_false, Bool.true_or, Bool.false_eq_true, if_false, if_true]

theorem make_is : Try.prog.make = some .cut := make_of (by rw [order_list]; exact words)

theorem final : Try.prog.liftsFinal = false := by
  unfold Program.liftsFinal
  rw [order_list, lifts, words]
  simp only [List.head?_cons, some_apart not_carried, Bool.false_and, Bool.false_or, List.contains_nil]

theorem later : Try.prog.laysLater = false := later_of (by kernel_rfl)
theorem reflect : Try.prog.bearsReflect = false := by kernel_rfl
theorem door : Try.prog.doorFits [] = true := by kernel_rfl

theorem may_of {P : Program} {r : List (List Char)} (h : behindMainWord (wordsSigns P.initOrder.toList) = "cut".toList :: r) (h1 : P.laysLater = false) (h2 : P.bearsReflect = false) (h3 : P.doorFits [] = true) : P.mayEnter = true := by
  have e := strip r
  unfold Program.mayEnter
  rw [h]
  generalize liftWords = L at *
  generalize "cut".toList = k at *
  simp only [e, h1, h2, h3, List.head?_cons, beq_self_eq_true, List.contains_nil, Bool.not_false, Bool.and_true, Bool.or_true]

theorem may : Try.prog.mayEnter = true := may_of (by rw [order_list]; exact words) later reflect door

end Go.Proofs.Qxb6601460a.Head
