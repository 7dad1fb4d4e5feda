/- What the head of a dump says, out of its first words: over any program. -/
import Derived.ProofKit
namespace Go.Proofs.YtnlbeljdlmgclaaDoor
def CUT : List Char := [Char.ofNat 99, Char.ofNat 117, Char.ofNat 116]
theorem strip_cut (r : List (List Char)) : stripLifts liftWords (CUT :: r) = ([], CUT :: r) := by kernel_rfl
theorem enters_of {P : Program} {r : List (List Char)} (h : behindMainWord (wordsSigns P.initOrder.toList) = CUT :: r) (h1 : P.laysLater = false) (h2 : P.bearsReflect = false) (h3 : P.doorFits [] = true) : P.mayEnter = true := by
  unfold Program.mayEnter
  rw [h]
  simp only [strip_cut, h1, h2, h3, List.head?_cons]
  kernel_rfl
theorem headLifts_of {P : Program} {r : List (List Char)} (h : behindMainWord (wordsSigns P.initOrder.toList) = CUT :: r) : P.headLifts = [] := by
  unfold Program.headLifts
  rw [h]
  simp only [strip_cut]
  first | rfl | decide
theorem liftsFinal_of {P : Program} {r : List (List Char)} (h : behindMainWord (wordsSigns P.initOrder.toList) = CUT :: r) : P.liftsFinal = false := by
  unfold Program.liftsFinal
  rw [headLifts_of h, h]
  have e : (some CUT == some "carried".toList) = false := by decide
  show ((some CUT == some "carried".toList && _) || _) = false
  rw [e]
  rfl
theorem make_of {P : Program} {r : List (List Char)} (h : behindMainWord (wordsSigns P.initOrder.toList) = CUT :: r) : P.make = some .cut := by
  unfold Program.make
  rw [h]
  have e1 : (CUT == "gc".toList || CUT == "spec".toList) = false := by decide
  have e2 : (CUT == "cut".toList) = true := by decide
  simp only [e1, e2, Bool.true_or, if_true]
  rfl
theorem mainIs_of {P : Program} {h s : List Char} {r : List (List Char)} (hw : wordsSigns P.initOrder.toList = h :: s :: r) (hs : isSumSigns s = true) (hh : (h == "harness".toList) = true) : P.mainIs = some (true, s) := by
  unfold Program.mainIs
  rw [hw]
  simp only [hs, hh, if_true]
  rfl
end Go.Proofs.YtnlbeljdlmgclaaDoor
