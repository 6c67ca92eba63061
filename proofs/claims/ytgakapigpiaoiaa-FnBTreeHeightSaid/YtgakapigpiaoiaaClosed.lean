/-
  The head of the cut (the harness's sum, then the roots), word by word: what the row's closed facts ask of it, without reckoning over the whole long text. (Printed by gen_closed.py.)
-/
import Derived.Test.YtgakapigpiaoiaaRows
import Derived.KernelRfl
import Derived.JoinedOf
namespace Go.Proofs.Ytgakapigpiaoiaa

def hdA : List Char := [104, 97, 114, 110, 101, 115, 115].map Char.ofNat
def hdB : List Char := [53, 56, 57, 98, 101, 53, 52, 50, 100, 101, 48, 53, 97, 100, 49, 48, 102, 57, 53, 51, 57, 50, 50, 100, 56, 51, 56, 55, 102, 97, 52, 55, 56, 48, 100, 102, 54, 99, 54, 50, 99, 57, 54, 49, 49, 50, 49, 54, 101, 54, 97, 98, 100, 48, 48, 98, 56, 98, 101, 50, 50, 101, 101, 100].map Char.ofNat
def hdC : List Char := [99, 117, 116].map Char.ofNat
def hdR0 : List Char := [97, 116, 32, 108, 111, 111, 112, 46, 101, 120, 97, 109, 112, 108, 101, 47, 112, 117, 98, 45, 115, 111, 114, 116, 101, 100, 116, 114, 101, 101, 115, 47, 108, 97, 119, 115, 46, 70, 110, 66, 84, 114, 101, 101, 75, 110, 117, 116, 104, 32, 108, 111, 111, 112, 46, 101, 120, 97, 109, 112, 108, 101, 47, 112, 117, 98, 45, 115, 111, 114, 116, 101, 100, 116, 114, 101, 101, 115, 47, 108, 97, 119, 115, 46, 70, 110, 66, 84, 114, 101, 101, 83, 104, 97, 112, 101, 32, 108, 111, 111, 112, 46, 101, 120, 97, 109, 112, 108, 101, 47, 112, 117, 98, 45, 115, 111, 114, 116, 101, 100, 116, 114, 101, 101, 115, 47, 108, 97, 119, 115, 46, 70, 110, 66, 84, 114, 101, 101, 83, 105, 122, 101, 115, 32, 108, 111, 111, 112, 46, 101, 120, 97, 109, 112, 108, 101, 47, 112, 117, 98, 45, 115, 111, 114, 116, 101, 100, 116, 114, 101, 101, 115, 47, 108, 97, 119, 115, 46, 70, 110, 66, 84, 114, 101, 101, 72, 101, 105, 103, 104, 116].map Char.ofNat
def hdR : List Char := hdR0
def blank : Char := Char.ofNat 32

theorem initOrder_is : Try.checked.prog.initOrder = String.ofList (hdA ++ blank :: (hdB ++ blank :: (hdC ++ blank :: hdR))) := by kernel_rfl
theorem signs_word (a b : List Char) (h : a.all (fun c => c != blank) = true) : wordsSigns (a ++ blank :: b) = a :: wordsSigns b := by
  induction a with
  | nil => simp [wordsSigns, blank]
  | cons c a ih =>
    simp only [List.all_cons, Bool.and_eq_true, bne_iff_ne, ne_eq] at h
    have ih' := ih h.2
    simp only [List.cons_append]
    rw [wordsSigns.eq_3 _ _ (fun e => h.1 e), ih']
theorem signs_are : wordsSigns Try.checked.prog.initOrder.toList = hdA :: hdB :: hdC :: wordsSigns hdR := by
  rw [initOrder_is, String.toList_ofList, signs_word _ _ (by decide), signs_word _ _ (by decide), signs_word _ _ (by decide)]

theorem behind_main (W : List (List Char)) : behindMainWord (hdA :: hdB :: hdC :: W) = hdC :: W := by kernel_rfl
theorem strip_none (W : List (List Char)) : stripLifts liftWords (hdC :: W) = ([], hdC :: W) := by kernel_rfl
theorem hdC_gc : (hdC == "gc".toList) = false := by kernel_rfl
theorem hdC_spec : (hdC == "spec".toList) = false := by kernel_rfl
theorem hdC_carried : (hdC == "carried".toList) = false := by kernel_rfl
theorem hdC_cut : (hdC == "cut".toList) = true := by kernel_rfl
theorem hdC_cut' : (some hdC == some "cut".toList) = true := by kernel_rfl
theorem lays_none : Try.checked.prog.laysLater = false := by kernel_rfl
theorem reflect_none : Try.checked.prog.bearsReflect = false := by kernel_rfl
theorem door_fits : Try.checked.prog.doorFits [] = true := by kernel_rfl

theorem mayEnter_of {P : Program} {W : List (List Char)} (h : wordsSigns P.initOrder.toList = hdA :: hdB :: hdC :: W) (h1 : P.laysLater = false) (h2 : P.bearsReflect = false) (h3 : P.doorFits [] = true) : P.mayEnter = true := by
  unfold Program.mayEnter
  rw [h, behind_main]
  simp only [strip_none, hdC_gc, hdC_spec, hdC_carried, List.head?_cons, hdC_cut', h1, h2, h3, Bool.or_false, Bool.false_and, Bool.not_false, Bool.or_true, Bool.and_true, List.contains_nil]
theorem make_of {P : Program} {W : List (List Char)} (h : wordsSigns P.initOrder.toList = hdA :: hdB :: hdC :: W) : P.make = some .cut := by
  unfold Program.make
  rw [h, behind_main]
  simp only [hdC_gc, hdC_spec, hdC_cut, Bool.or_false, Bool.true_or, if_true, Bool.false_eq_true, if_false]
theorem headLifts_of {P : Program} {W : List (List Char)} (h : wordsSigns P.initOrder.toList = hdA :: hdB :: hdC :: W) : P.headLifts = [] := by
  unfold Program.headLifts
  rw [h, behind_main, strip_none]
  simp
theorem lifts_of {P : Program} {W : List (List Char)} (h : wordsSigns P.initOrder.toList = hdA :: hdB :: hdC :: W) : P.liftsFinal = false := by
  unfold Program.liftsFinal
  rw [h, behind_main, headLifts_of h]
  simp only [List.head?_cons]
  kernel_rfl
theorem closed_mayEnter : Try.checked.prog.mayEnter = true := mayEnter_of signs_are lays_none reflect_none door_fits
theorem closed_make : Try.checked.prog.make = some .cut := make_of signs_are
theorem closed_lifts : Try.checked.prog.liftsFinal = false := lifts_of signs_are
end Go.Proofs.Ytgakapigpiaoiaa
