/-
  THE DUMP's HEAD AS A LIST OF SIGNS, AND THREE CLOSED FACTS ON IT: the kernel's own way through the string outgrows the lid on memory at this dump (its head names many roots).
-/
import Derived.Test.Qxb6000491aRows
import Derived.JoinedOf
namespace Go.Proofs.Qxb6000491a

def headNums : List Nat := [104, 97, 114, 110, 101, 115, 115, 32, 97, 102, 97, 100, 56, 50, 97, 98, 50, 57, 101, 101, 98, 53, 53, 57, 51, 51, 49, 52, 102, 50, 52, 56, 54, 98, 55, 100, 57, 53, 56, 56, 101, 54, 54, 51, 101, 51, 49, 57, 56, 55, 48, 53, 48, 56, 48, 102, 52, 57, 51, 102, 55, 53, 101, 57, 98, 53, 53, 101, 52, 101, 54, 102, 32, 99, 117, 116, 32, 97, 116, 32, 101, 120, 97, 109, 112, 108, 101, 46, 99, 111, 109, 47, 99, 101, 114, 116, 109, 97, 105, 108, 47, 99, 101, 114, 116, 109, 97, 105, 108, 47, 122, 122, 108, 97, 119, 115, 95, 114, 111, 111, 116, 95, 98, 49, 46, 70, 110, 76, 111, 119, 101, 114, 65, 83, 67, 73, 73, 73, 100, 101, 109, 112, 111, 116, 101, 110, 116, 76, 111, 119, 101, 114, 115, 32, 101, 120, 97, 109, 112, 108, 101, 46, 99, 111, 109, 47, 99, 101, 114, 116, 109, 97, 105, 108, 47, 99, 101, 114, 116, 109, 97, 105, 108, 47, 122, 122, 108, 97, 119, 115, 95, 114, 111, 111, 116, 95, 98, 49, 46, 70, 110, 76, 111, 119, 101, 114, 65, 83, 67, 73, 73, 70, 111, 108, 100, 69, 113, 117, 97, 108, 105, 116, 121, 32, 101, 120, 97, 109, 112, 108, 101, 46, 99, 111, 109, 47, 99, 101, 114, 116, 109, 97, 105, 108, 47, 99, 101, 114, 116, 109, 97, 105, 108, 47, 122, 122, 108, 97, 119, 115, 95, 114, 111, 111, 116, 95, 98, 49, 46, 70, 110, 76, 111, 119, 101, 114, 65, 83, 67, 73, 73, 67, 111, 110, 99, 97, 116, 32, 101, 120, 97, 109, 112, 108, 101, 46, 99, 111, 109, 47, 99, 101, 114, 116, 109, 97, 105, 108, 47, 99, 101, 114, 116, 109, 97, 105, 108, 47, 122, 122, 108, 97, 119, 115, 95, 114, 111, 111, 116, 95, 98, 49, 46, 70, 110, 83, 117, 98, 116, 114, 101, 101, 115, 70, 105, 114, 115, 116, 77, 97, 116, 99, 104, 101, 115, 76, 105, 110, 101, 97, 114, 83, 99, 97, 110, 32, 101, 120, 97, 109, 112, 108, 101, 46, 99, 111, 109, 47, 99, 101, 114, 116, 109, 97, 105, 108, 47, 99, 101, 114, 116, 109, 97, 105, 108, 47, 122, 122, 108, 97, 119, 115, 95, 114, 111, 111, 116, 95, 98, 49, 46, 70, 110, 83, 117, 98, 116, 114, 101, 101, 115, 70, 105, 114, 115, 116, 83, 116, 97, 98, 108, 101, 85, 110, 100, 101, 114, 65, 100, 100, 32, 101, 120, 97, 109, 112, 108, 101, 46, 99, 111, 109, 47, 99, 101, 114, 116, 109, 97, 105, 108, 47, 99, 101, 114, 116, 109, 97, 105, 108, 47, 122, 122, 108, 97, 119, 115, 95, 114, 111, 111, 116, 95, 98, 49, 46, 70, 110, 83, 117, 98, 116, 114, 101, 101, 115, 70, 105, 114, 115, 116, 83, 112, 108, 105, 116, 65, 103, 114, 101, 101, 109, 101, 110, 116]
def cutWord : List Nat := [99, 117, 116]
def headWords : List (List Nat) := [[97, 116], [101, 120, 97, 109, 112, 108, 101, 46, 99, 111, 109, 47, 99, 101, 114, 116, 109, 97, 105, 108, 47, 99, 101, 114, 116, 109, 97, 105, 108, 47, 122, 122, 108, 97, 119, 115, 95, 114, 111, 111, 116, 95, 98, 49, 46, 70, 110, 76, 111, 119, 101, 114, 65, 83, 67, 73, 73, 73, 100, 101, 109, 112, 111, 116, 101, 110, 116, 76, 111, 119, 101, 114, 115], [101, 120, 97, 109, 112, 108, 101, 46, 99, 111, 109, 47, 99, 101, 114, 116, 109, 97, 105, 108, 47, 99, 101, 114, 116, 109, 97, 105, 108, 47, 122, 122, 108, 97, 119, 115, 95, 114, 111, 111, 116, 95, 98, 49, 46, 70, 110, 76, 111, 119, 101, 114, 65, 83, 67, 73, 73, 70, 111, 108, 100, 69, 113, 117, 97, 108, 105, 116, 121], [101, 120, 97, 109, 112, 108, 101, 46, 99, 111, 109, 47, 99, 101, 114, 116, 109, 97, 105, 108, 47, 99, 101, 114, 116, 109, 97, 105, 108, 47, 122, 122, 108, 97, 119, 115, 95, 114, 111, 111, 116, 95, 98, 49, 46, 70, 110, 76, 111, 119, 101, 114, 65, 83, 67, 73, 73, 67, 111, 110, 99, 97, 116], [101, 120, 97, 109, 112, 108, 101, 46, 99, 111, 109, 47, 99, 101, 114, 116, 109, 97, 105, 108, 47, 99, 101, 114, 116, 109, 97, 105, 108, 47, 122, 122, 108, 97, 119, 115, 95, 114, 111, 111, 116, 95, 98, 49, 46, 70, 110, 83, 117, 98, 116, 114, 101, 101, 115, 70, 105, 114, 115, 116, 77, 97, 116, 99, 104, 101, 115, 76, 105, 110, 101, 97, 114, 83, 99, 97, 110], [101, 120, 97, 109, 112, 108, 101, 46, 99, 111, 109, 47, 99, 101, 114, 116, 109, 97, 105, 108, 47, 99, 101, 114, 116, 109, 97, 105, 108, 47, 122, 122, 108, 97, 119, 115, 95, 114, 111, 111, 116, 95, 98, 49, 46, 70, 110, 83, 117, 98, 116, 114, 101, 101, 115, 70, 105, 114, 115, 116, 83, 116, 97, 98, 108, 101, 85, 110, 100, 101, 114, 65, 100, 100], [101, 120, 97, 109, 112, 108, 101, 46, 99, 111, 109, 47, 99, 101, 114, 116, 109, 97, 105, 108, 47, 99, 101, 114, 116, 109, 97, 105, 108, 47, 122, 122, 108, 97, 119, 115, 95, 114, 111, 111, 116, 95, 98, 49, 46, 70, 110, 83, 117, 98, 116, 114, 101, 101, 115, 70, 105, 114, 115, 116, 83, 112, 108, 105, 116, 65, 103, 114, 101, 101, 109, 101, 110, 116]]

theorem head_eq : Try.prog.initOrder = String.ofList (headNums.map Char.ofNat) := by kernel_rfl

theorem cut_eq : behindMainWord (wordsSigns (headNums.map Char.ofNat)) = cutWord.map Char.ofNat :: headWords.map (List.map Char.ofNat) := by kernel_rfl

theorem words_eq : behindMainWord (wordsSigns Try.prog.initOrder.toList) = cutWord.map Char.ofNat :: headWords.map (List.map Char.ofNat) := by
  rw [head_eq, String.toList_ofList, cut_eq]

theorem make_of (P : Program) (c : List Char) (rest : List (List Char)) (h : behindMainWord (wordsSigns P.initOrder.toList) = c :: rest)
    (h1 : (c == "gc".toList) = false) (h2 : (c == "spec".toList) = false) (h3 : (c == "cut".toList) = true) : P.make = some .cut := by
  unfold Program.make
  rw [h]
  simp only [h1, h2, h3, Bool.or_self, Bool.false_eq_true, if_false, Bool.true_or, if_true]

theorem may_of (P : Program) (c : List Char) (rest : List (List Char)) (h : behindMainWord (wordsSigns P.initOrder.toList) = c :: rest)
    (hs : stripLifts liftWords (c :: rest) = ([], c :: rest)) (h3 : c = "cut".toList) (hl : P.laysLater = false) (hb : P.bearsReflect = false) (hd : P.doorFits [] = true) : P.mayEnter = true := by
  unfold Program.mayEnter
  rw [h]
  simp only [hs]
  simp [h3, hl, hb, hd]

theorem cut_word : cutWord.map Char.ofNat = "cut".toList := by kernel_rfl
theorem strip_eq : stripLifts liftWords (cutWord.map Char.ofNat :: headWords.map (List.map Char.ofNat)) = ([], cutWord.map Char.ofNat :: headWords.map (List.map Char.ofNat)) := by kernel_rfl

theorem may_eq : Try.prog.mayEnter = true :=
  may_of Try.prog _ _ words_eq strip_eq cut_word (by kernel_rfl) (by kernel_rfl) (by kernel_rfl)

theorem make_eq : Try.prog.make = some .cut :=
  make_of Try.prog _ _ words_eq (by kernel_rfl) (by kernel_rfl) (by kernel_rfl)

theorem lifts_eq : Try.prog.liftsFinal = false := by
  unfold Program.liftsFinal Program.headLifts
  rw [words_eq]
  kernel_rfl

theorem lifts_b (c : OpenClaim) (h : c.lifted = false) : (c.lifted == Try.prog.liftsFinal) = true := by rw [lifts_eq, h]; rfl
theorem make_b (c : OpenClaim) (h : c.make = .cut) : (Try.prog.make == some c.make) = true := by rw [make_eq, h]; rfl

theorem and_b {a b : Bool} (ha : a = true) (hb : b = true) : (a && b) = true := by rw [ha, hb]; rfl
end Go.Proofs.Qxb6000491a
