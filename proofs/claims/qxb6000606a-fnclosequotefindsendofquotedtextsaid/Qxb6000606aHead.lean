/-
  THE DUMP's HEAD WORD, TAKEN APART BY A LAW: nine long names stand in it, and the kernel, asked to cut it into words by itself, outgrows its memory. Here the head is laid as a list of signs, cut by 'words_cons', and the three facts that lean on it follow.
-/
import Derived.Test.Qxb6000606aRows
import Derived.WalkKit
import Derived.ProofKit
namespace Go.Proofs.Qxb6000606a.Head

theorem words_cons (w r : List Char) (h : ∀ c, c ∈ w → c ≠ ' ') : wordsSigns (w ++ ' ' :: r) = w :: wordsSigns r := by
  induction w with
  | nil => rfl
  | cons c w ih =>
    have hc : c ≠ ' ' := h c (by simp)
    have e : wordsSigns (c :: (w ++ ' ' :: r)) = match wordsSigns (w ++ ' ' :: r) with | v :: vs => (c :: v) :: vs | [] => [[c]] := by
      rw [wordsSigns.eq_def]
      split
      · simp_all
      · simp_all
      · simp_all
    rw [List.cons_append, e, ih (fun d hd => h d (by simp [hd]))]

def w1 : List Char := ([104, 97, 114, 110, 101, 115, 115] : List Nat).map Char.ofNat
def w2 : List Char := ([
    54, 100, 99, 99, 55, 52, 53, 102, 52, 99, 54, 97, 97, 57, 52, 51, 52, 98, 102, 51, 102, 100, 49, 55, 56, 100, 98, 98, 53, 53, 54, 54, 48, 101, 98, 50, 97, 99, 48, 99,
    54, 57, 51, 102, 57, 54, 99, 56, 53, 54, 53, 97, 99, 52, 51, 56, 50, 50, 50, 50, 56, 52, 49, 99] : List Nat).map Char.ofNat
def w3 : List Char := ([99, 117, 116] : List Nat).map Char.ofNat
def w4 : List Char := ([
    97, 116, 32, 111, 112, 101, 114, 97, 110, 100, 97, 114, 98, 105, 116, 101, 114, 46, 101, 120, 97, 109, 112, 108, 101, 47, 97, 114, 98, 105, 116, 101, 114, 47, 122, 122, 108, 97, 119, 115,
    95, 105, 110, 116, 101, 114, 110, 97, 108, 95, 108, 101, 120, 95, 98, 49, 46, 70, 110, 78, 117, 109, 98, 101, 114, 69, 110, 100, 77, 97, 116, 99, 104, 101, 115, 76, 111, 110, 103, 101,
    115, 116, 78, 117, 109, 98, 101, 114, 65, 117, 116, 111, 109, 97, 116, 111, 110, 32, 111, 112, 101, 114, 97, 110, 100, 97, 114, 98, 105, 116, 101, 114, 46, 101, 120, 97, 109, 112, 108, 101,
    47, 97, 114, 98, 105, 116, 101, 114, 47, 122, 122, 108, 97, 119, 115, 95, 105, 110, 116, 101, 114, 110, 97, 108, 95, 108, 101, 120, 95, 98, 49, 46, 70, 110, 78, 117, 109, 98, 101, 114,
    69, 110, 100, 83, 116, 97, 121, 115, 87, 105, 116, 104, 105, 110, 65, 110, 100, 68, 101, 112, 101, 110, 100, 115, 79, 110, 108, 121, 79, 110, 73, 116, 115, 67, 111, 110, 115, 116, 97, 110,
    116, 32, 111, 112, 101, 114, 97, 110, 100, 97, 114, 98, 105, 116, 101, 114, 46, 101, 120, 97, 109, 112, 108, 101, 47, 97, 114, 98, 105, 116, 101, 114, 47, 122, 122, 108, 97, 119, 115, 95,
    105, 110, 116, 101, 114, 110, 97, 108, 95, 108, 101, 120, 95, 98, 49, 46, 70, 110, 78, 117, 109, 98, 101, 114, 69, 110, 100, 65, 103, 114, 101, 101, 115, 87, 105, 116, 104, 83, 107, 105,
    112, 68, 105, 103, 105, 116, 115, 32, 111, 112, 101, 114, 97, 110, 100, 97, 114, 98, 105, 116, 101, 114, 46, 101, 120, 97, 109, 112, 108, 101, 47, 97, 114, 98, 105, 116, 101, 114, 47, 122,
    122, 108, 97, 119, 115, 95, 105, 110, 116, 101, 114, 110, 97, 108, 95, 108, 101, 120, 95, 98, 49, 46, 70, 110, 83, 107, 105, 112, 68, 105, 103, 105, 116, 115, 83, 116, 111, 112, 115, 65,
    116, 70, 105, 114, 115, 116, 78, 111, 110, 68, 105, 103, 105, 116, 32, 111, 112, 101, 114, 97, 110, 100, 97, 114, 98, 105, 116, 101, 114, 46, 101, 120, 97, 109, 112, 108, 101, 47, 97, 114,
    98, 105, 116, 101, 114, 47, 122, 122, 108, 97, 119, 115, 95, 105, 110, 116, 101, 114, 110, 97, 108, 95, 108, 101, 120, 95, 98, 49, 46, 70, 110, 83, 107, 105, 112, 68, 105, 103, 105, 116,
    115, 83, 97, 109, 101, 69, 110, 100, 70, 114, 111, 109, 73, 110, 115, 105, 100, 101, 84, 104, 101, 82, 117, 110, 32, 111, 112, 101, 114, 97, 110, 100, 97, 114, 98, 105, 116, 101, 114, 46,
    101, 120, 97, 109, 112, 108, 101, 47, 97, 114, 98, 105, 116, 101, 114, 47, 122, 122, 108, 97, 119, 115, 95, 105, 110, 116, 101, 114, 110, 97, 108, 95, 108, 101, 120, 95, 98, 49, 46, 70,
    110, 83, 107, 105, 112, 68, 105, 103, 105, 116, 115, 83, 104, 105, 102, 116, 65, 110, 100, 84, 114, 117, 110, 99, 97, 116, 101, 32, 111, 112, 101, 114, 97, 110, 100, 97, 114, 98, 105, 116,
    101, 114, 46, 101, 120, 97, 109, 112, 108, 101, 47, 97, 114, 98, 105, 116, 101, 114, 47, 122, 122, 108, 97, 119, 115, 95, 105, 110, 116, 101, 114, 110, 97, 108, 95, 108, 101, 120, 95, 98,
    49, 46, 70, 110, 67, 108, 111, 115, 101, 81, 117, 111, 116, 101, 70, 105, 110, 100, 115, 69, 110, 100, 79, 102, 81, 117, 111, 116, 101, 100, 84, 101, 120, 116, 32, 111, 112, 101, 114, 97,
    110, 100, 97, 114, 98, 105, 116, 101, 114, 46, 101, 120, 97, 109, 112, 108, 101, 47, 97, 114, 98, 105, 116, 101, 114, 47, 122, 122, 108, 97, 119, 115, 95, 105, 110, 116, 101, 114, 110, 97,
    108, 95, 108, 101, 120, 95, 98, 49, 46, 70, 110, 67, 108, 111, 115, 101, 81, 117, 111, 116, 101, 69, 110, 100, 73, 115, 65, 81, 117, 111, 116, 101, 65, 110, 100, 76, 111, 99, 97, 108,
    32, 111, 112, 101, 114, 97, 110, 100, 97, 114, 98, 105, 116, 101, 114, 46, 101, 120, 97, 109, 112, 108, 101, 47, 97, 114, 98, 105, 116, 101, 114, 47, 122, 122, 108, 97, 119, 115, 95, 105,
    110, 116, 101, 114, 110, 97, 108, 95, 108, 101, 120, 95, 98, 49, 46, 70, 110, 67, 108, 111, 115, 101, 81, 117, 111, 116, 101, 77, 111, 100, 101, 115, 65, 103, 114, 101, 101, 87, 105, 116,
    104, 111, 117, 116, 66, 97, 99, 107, 115, 108, 97, 115, 104] : List Nat).map Char.ofNat

theorem toList_of {s : String} {l : List Char} (h : s = String.ofList l) : s.toList = l := by rw [h]; simp

theorem initOrder : Try.pinned.checked.prog.initOrder = String.ofList (w1 ++ ' ' :: (w2 ++ ' ' :: (w3 ++ ' ' :: w4))) := by kernel_rfl

theorem words : wordsSigns Try.pinned.checked.prog.initOrder.toList = w1 :: w2 :: w3 :: wordsSigns w4 := by
  rw [toList_of initOrder, words_cons w1 _ (by decide), words_cons w2 _ (by decide), words_cons w3 _ (by decide)]

theorem behind : behindMainWord (wordsSigns Try.pinned.checked.prog.initOrder.toList) = w3 :: wordsSigns w4 := by
  rw [words]
  generalize wordsSigns w4 = r
  kernel_rfl

theorem make_of (P : Program) (r : List (List Char)) (h : behindMainWord (wordsSigns P.initOrder.toList) = w3 :: r) : P.make = some .cut := by
  unfold Program.make
  rw [h]
  kernel_rfl

theorem headLifts_of (P : Program) (r : List (List Char)) (h : behindMainWord (wordsSigns P.initOrder.toList) = w3 :: r) : P.headLifts = [] := by
  unfold Program.headLifts
  rw [h]
  kernel_rfl

theorem liftsFinal_of (P : Program) (r : List (List Char)) (h : behindMainWord (wordsSigns P.initOrder.toList) = w3 :: r) : P.liftsFinal = false := by
  unfold Program.liftsFinal
  rw [h, headLifts_of P r h]
  kernel_rfl

theorem mayEnter_of (P : Program) (r : List (List Char)) (h : behindMainWord (wordsSigns P.initOrder.toList) = w3 :: r) (h1 : P.laysLater = false) (h2 : P.bearsReflect = false) (h3 : P.doorFits [] = true) : P.mayEnter = true := by
  have e : stripLifts liftWords (w3 :: r) = ([], w3 :: r) := by kernel_rfl
  have e2 : ((w3 :: r).head? == some "cut".toList) = true := by kernel_rfl
  have e3 : ([] : List String).contains "finals" = false := rfl
  have e4 : ([] : List String).contains "reflectrows" = false := rfl
  have e5 : ([] : List String).contains "leanrows" = false := rfl
  unfold Program.mayEnter
  rw [h]
  simp only [e, e2, e3, e4, e5, h1, h2, h3, Bool.not_false, Bool.or_true, Bool.and_true, Bool.and_self]

theorem laysLater : Try.pinned.checked.prog.laysLater = false := by kernel_rfl
theorem bearsReflect : Try.pinned.checked.prog.bearsReflect = false := by kernel_rfl
theorem doorFits : Try.pinned.checked.prog.doorFits [] = true := by kernel_rfl

theorem mayEnter : Try.pinned.checked.prog.mayEnter = true := mayEnter_of _ _ behind laysLater bearsReflect doorFits
theorem liftsFinal : Try.pinned.checked.prog.liftsFinal = false := liftsFinal_of _ _ behind
theorem make : Try.pinned.checked.prog.make = some .cut := make_of _ _ behind

end Go.Proofs.Qxb6000606a.Head
