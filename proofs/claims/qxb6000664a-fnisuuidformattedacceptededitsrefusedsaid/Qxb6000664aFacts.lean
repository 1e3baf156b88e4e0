/-
  THREE CLOSED FACTS ON THE CUT's HEAD, which the kernel reckons dearly when they are asked together: asked by the head's first three words alone.
-/
import Derived.Test.Qxb6000664aRows
import Derived.ProofKit
namespace Go.Proofs.Qxb6000664a

def chars (l : List Nat) : List Char := l.map Char.ofNat

theorem words_pre : ∀ (p r : List Char), p.all (fun c => c != ' ') = true → wordsSigns (p ++ ' ' :: r) = p :: wordsSigns r
  | [], r, _ => by rw [List.nil_append, wordsSigns]
  | c :: p, r, h => by
    simp only [List.all_cons, Bool.and_eq_true, bne_iff_ne, ne_eq] at h
    rw [List.cons_append, wordsSigns, words_pre p r (by simpa using h.2)]
    exact h.1

def w1 : List Nat := [104, 97, 114, 110, 101, 115, 115]
def w2 : List Nat := [56, 102, 57, 98, 54, 54, 97, 48, 57, 101, 50, 100, 54, 57, 48, 99, 100, 100, 53, 50, 101, 102, 97, 99, 100, 102, 99, 98, 102, 55, 48, 50, 49, 56, 54, 55, 102, 99, 100, 102, 49, 54, 49, 57, 48, 54, 54, 98, 52, 54, 52, 102, 99, 51, 52, 101, 56, 99, 97, 48, 54, 54, 102, 49]
def w3 : List Nat := [99, 117, 116]
set_option maxRecDepth 100000 in
def w4 : List Nat := [97, 116, 32, 101, 120, 97, 109, 112, 108, 101, 46, 99, 111, 109, 47, 108, 105, 110, 101, 97, 103, 101, 45, 103, 97, 116, 101, 47, 108, 105, 110, 101, 97, 103, 101, 45, 103, 97, 116, 101, 47, 122, 122, 108, 97, 119, 115, 95, 105, 110, 116, 101, 114, 110, 97, 108, 95, 101, 118, 101, 110, 116, 95, 98, 49, 46, 70, 110, 65, 112, 112, 101, 110, 100, 83, 116, 114, 105, 110, 103, 82, 111, 117, 110, 100, 84, 114, 105, 112, 32, 101, 120, 97, 109, 112, 108, 101, 46, 99, 111, 109, 47, 108, 105, 110, 101, 97, 103, 101, 45, 103, 97, 116, 101, 47, 108, 105, 110, 101, 97, 103, 101, 45, 103, 97, 116, 101, 47, 122, 122, 108, 97, 119, 115, 95, 105, 110, 116, 101, 114, 110, 97, 108, 95, 101, 118, 101, 110, 116, 95, 98, 49, 46, 70, 110, 65, 112, 112, 101, 110, 100, 83, 116, 114, 105, 110, 103, 67, 111, 110, 99, 97, 116, 32, 101, 120, 97, 109, 112, 108, 101, 46, 99, 111, 109, 47, 108, 105, 110, 101, 97, 103, 101, 45, 103, 97, 116, 101, 47, 108, 105, 110, 101, 97, 103, 101, 45, 103, 97, 116, 101, 47, 122, 122, 108, 97, 119, 115, 95, 105, 110, 116, 101, 114, 110, 97, 108, 95, 101, 118, 101, 110, 116, 95, 98, 49, 46, 70, 110, 65, 112, 112, 101, 110, 100, 83, 116, 114, 105, 110, 103, 83, 104, 97, 112, 101, 32, 101, 120, 97, 109, 112, 108, 101, 46, 99, 111, 109, 47, 108, 105, 110, 101, 97, 103, 101, 45, 103, 97, 116, 101, 47, 108, 105, 110, 101, 97, 103, 101, 45, 103, 97, 116, 101, 47, 122, 122, 108, 97, 119, 115, 95, 105, 110, 116, 101, 114, 110, 97, 108, 95, 101, 118, 101, 110, 116, 95, 98, 49, 46, 70, 110, 84, 111, 111, 68, 101, 101, 112, 70, 105, 114, 115, 116, 66, 114, 97, 99, 107, 101, 116, 32, 101, 120, 97, 109, 112, 108, 101, 46, 99, 111, 109, 47, 108, 105, 110, 101, 97, 103, 101, 45, 103, 97, 116, 101, 47, 108, 105, 110, 101, 97, 103, 101, 45, 103, 97, 116, 101, 47, 122, 122, 108, 97, 119, 115, 95, 105, 110, 116, 101, 114, 110, 97, 108, 95, 101, 118, 101, 110, 116, 95, 98, 49, 46, 70, 110, 84, 111, 111, 68, 101, 101, 112, 77, 111, 110, 111, 116, 111, 110, 101, 73, 110, 76, 105, 109, 105, 116, 32, 101, 120, 97, 109, 112, 108, 101, 46, 99, 111, 109, 47, 108, 105, 110, 101, 97, 103, 101, 45, 103, 97, 116, 101, 47, 108, 105, 110, 101, 97, 103, 101, 45, 103, 97, 116, 101, 47, 122, 122, 108, 97, 119, 115, 95, 105, 110, 116, 101, 114, 110, 97, 108, 95, 101, 118, 101, 110, 116, 95, 98, 49, 46, 70, 110, 84, 111, 111, 68, 101, 101, 112, 87, 114, 97, 112, 83, 104, 105, 102, 116, 32, 101, 120, 97, 109, 112, 108, 101, 46, 99, 111, 109, 47, 108, 105, 110, 101, 97, 103, 101, 45, 103, 97, 116, 101, 47, 108, 105, 110, 101, 97, 103, 101, 45, 103, 97, 116, 101, 47, 122, 122, 108, 97, 119, 115, 95, 105, 110, 116, 101, 114, 110, 97, 108, 95, 101, 118, 101, 110, 116, 95, 98, 49, 46, 70, 110, 73, 115, 85, 85, 73, 68, 70, 111, 114, 109, 97, 116, 116, 101, 100, 65, 99, 99, 101, 112, 116, 101, 100, 69, 100, 105, 116, 115, 82, 101, 102, 117, 115, 101, 100, 32, 101, 120, 97, 109, 112, 108, 101, 46, 99, 111, 109, 47, 108, 105, 110, 101, 97, 103, 101, 45, 103, 97, 116, 101, 47, 108, 105, 110, 101, 97, 103, 101, 45, 103, 97, 116, 101, 47, 122, 122, 108, 97, 119, 115, 95, 105, 110, 116, 101, 114, 110, 97, 108, 95, 101, 118, 101, 110, 116, 95, 98, 49, 46, 70, 110, 73, 115, 85, 85, 73, 68, 65, 103, 114, 101, 101, 115, 87, 105, 116, 104, 71, 114, 111, 117, 112, 77, 111, 100, 101, 108, 32, 101, 120, 97, 109, 112, 108, 101, 46, 99, 111, 109, 47, 108, 105, 110, 101, 97, 103, 101, 45, 103, 97, 116, 101, 47, 108, 105, 110, 101, 97, 103, 101, 45, 103, 97, 116, 101, 47, 122, 122, 108, 97, 119, 115, 95, 105, 110, 116, 101, 114, 110, 97, 108, 95, 101, 118, 101, 110, 116, 95, 98, 49, 46, 70, 110, 73, 115, 85, 85, 73, 68, 82, 111, 117, 110, 100, 84, 114, 105, 112, 73, 103, 110, 111, 114, 105, 110, 103, 67, 97, 115, 101]

theorem head_is : Try.prog.initOrder = String.ofList (chars w1 ++ ' ' :: (chars w2 ++ ' ' :: (chars w3 ++ ' ' :: chars w4))) := by kernel_rfl

theorem e1 : chars w1 = "harness".toList := by decide +kernel
theorem e3 : chars w3 = "cut".toList := by decide +kernel
theorem e2 : isSumSigns (chars w2) = true := by decide +kernel
theorem n1 : (chars w1).all (fun c => c != ' ') = true := by decide +kernel
theorem n2 : (chars w2).all (fun c => c != ' ') = true := by decide +kernel
theorem n3 : (chars w3).all (fun c => c != ' ') = true := by decide +kernel

theorem head_words : ∃ R, behindMainWord (wordsSigns Try.prog.initOrder.toList) = "cut".toList :: R := by
  refine ⟨wordsSigns (chars w4), ?_⟩
  rw [head_is, String.toList_ofList, words_pre _ _ n1, words_pre _ _ n2, words_pre _ _ n3, e1, e3]
  simp only [behindMainWord, e2, beq_self_eq_true, Bool.true_or, Bool.and_true, if_true]

theorem strip_cut (R : List (List Char)) : stripLifts liftWords ("cut".toList :: R) = ([], "cut".toList :: R) := by kernel_rfl

theorem lays : Try.prog.laysLater = false := by kernel_rfl
theorem reflects : Try.prog.bearsReflect = false := by kernel_rfl
theorem door : Try.prog.doorFits [] = true := by kernel_rfl

theorem mayEnter_of (P : Program) (R : List (List Char)) (h : behindMainWord (wordsSigns P.initOrder.toList) = "cut".toList :: R)
    (hl : P.laysLater = false) (hr : P.bearsReflect = false) (hd : P.doorFits [] = true) : P.mayEnter = true := by
  unfold Program.mayEnter
  rw [h]
  simp only [strip_cut, hl, hr, hd]
  simp
theorem lifts_of (P : Program) (R : List (List Char)) (h : behindMainWord (wordsSigns P.initOrder.toList) = "cut".toList :: R) : P.liftsFinal = false := by
  unfold Program.liftsFinal Program.headLifts
  rw [h, strip_cut]
  simp
theorem make_of (P : Program) (R : List (List Char)) (h : behindMainWord (wordsSigns P.initOrder.toList) = "cut".toList :: R) : P.make = some .cut := by
  unfold Program.make
  rw [h]
  simp
theorem mayEnter : Try.prog.mayEnter = true := by
  obtain ⟨R, h⟩ := head_words
  exact mayEnter_of Try.prog R h lays reflects door
theorem lifts : Try.prog.liftsFinal = false := by
  obtain ⟨R, h⟩ := head_words
  exact lifts_of Try.prog R h
theorem make : Try.prog.make = some .cut := by
  obtain ⟨R, h⟩ := head_words
  exact make_of Try.prog R h

theorem band {a b : Bool} (ha : a = true) (hb : b = true) : (a && b) = true := by rw [ha, hb]; rfl

theorem lifts_row (c : OpenClaim) (hc : c.lifted = false) : (c.lifted == Try.prog.liftsFinal) = true := by rw [hc, lifts]; rfl
theorem make_row (c : OpenClaim) (hc : c.make = .cut) : (Try.prog.make == some c.make) = true := by rw [hc, make]; rfl

end Go.Proofs.Qxb6000664a
