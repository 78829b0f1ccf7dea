/-
  THE HEAD OF THE DUMP OF Qxb6001834aMods, READ CHEAPLY. The row's closed facts 'mayEnter', 'liftsFinal' and 'make' read the head's word sign by sign; by 'kernel_rfl' over the string itself each takes more than 10 GB (the kernel decodes UTF-8 at each sign). Here the word is written out as numbers, the string is shown to be made of them, and the three facts follow of the list.
-/
import Derived.Test.Qxb6001834aModsRows
import Derived.WalkKit
import Derived.ProofKit
namespace Go.Proofs.Qxb6001834aMods.Own
set_option maxRecDepth 100000
def headNums : List Nat := [104, 97, 114, 110, 101, 115, 115, 32, 50, 50, 50, 97, 100, 102, 56, 98, 51, 100, 56, 97, 100, 54, 102, 98, 54, 99, 54, 56, 99, 101, 49, 51, 100, 53, 100, 57, 56, 53, 51, 57,
  55, 51, 56, 57, 97, 98, 48, 53, 56, 99, 49, 52, 49, 48, 52, 56, 99, 48, 102, 102, 53, 50, 102, 57, 57, 55, 51, 48, 97, 56, 98, 48, 32, 112, 117, 98, 108, 105, 99, 115,
  117, 109, 115, 32, 99, 117, 116, 32, 97, 116, 32, 101, 120, 97, 109, 112, 108, 101, 46, 99, 111, 109, 47, 115, 104, 97, 112, 101, 119, 105, 114, 101, 47, 115, 104, 97, 112, 101, 119, 105,
  114, 101, 47, 122, 122, 108, 97, 119, 115, 95, 115, 113, 108, 100, 98, 95, 98, 49, 46, 70, 110, 74, 111, 105, 110, 101, 100, 80, 97, 114, 115, 101, 115, 66, 97, 99, 107, 32, 101, 120,
  97, 109, 112, 108, 101, 46, 99, 111, 109, 47, 115, 104, 97, 112, 101, 119, 105, 114, 101, 47, 115, 104, 97, 112, 101, 119, 105, 114, 101, 47, 122, 122, 108, 97, 119, 115, 95, 115, 113, 108,
  100, 98, 95, 98, 49, 46, 70, 110, 74, 111, 105, 110, 101, 100, 76, 101, 110, 103, 116, 104, 32, 101, 120, 97, 109, 112, 108, 101, 46, 99, 111, 109, 47, 115, 104, 97, 112, 101, 119, 105,
  114, 101, 47, 115, 104, 97, 112, 101, 119, 105, 114, 101, 47, 122, 122, 108, 97, 119, 115, 95, 115, 113, 108, 100, 98, 95, 98, 49, 46, 70, 110, 74, 111, 105, 110, 101, 100, 75, 101, 101,
  112, 115, 66, 97, 108, 97, 110, 99, 101, 32, 101, 120, 97, 109, 112, 108, 101, 46, 99, 111, 109, 47, 115, 104, 97, 112, 101, 119, 105, 114, 101, 47, 115, 104, 97, 112, 101, 119, 105, 114,
  101, 47, 122, 122, 108, 97, 119, 115, 95, 115, 113, 108, 100, 98, 95, 98, 49, 46, 70, 110, 80, 111, 115, 116, 103, 114, 101, 115, 67, 111, 108, 117, 109, 110, 115, 83, 101, 108, 101, 99,
  116, 115, 65, 115, 77, 97, 110, 121, 65, 115, 77, 97, 114, 105, 97, 100, 98, 32, 101, 120, 97, 109, 112, 108, 101, 46, 99, 111, 109, 47, 115, 104, 97, 112, 101, 119, 105, 114, 101, 47,
  115, 104, 97, 112, 101, 119, 105, 114, 101, 47, 122, 122, 108, 97, 119, 115, 95, 115, 113, 108, 100, 98, 95, 98, 49, 46, 70, 110, 80, 111, 115, 116, 103, 114, 101, 115, 67, 111, 108, 117,
  109, 110, 115, 87, 101, 108, 108, 70, 111, 114, 109, 101, 100, 32, 101, 120, 97, 109, 112, 108, 101, 46, 99, 111, 109, 47, 115, 104, 97, 112, 101, 119, 105, 114, 101, 47, 115, 104, 97, 112,
  101, 119, 105, 114, 101, 47, 122, 122, 108, 97, 119, 115, 95, 115, 113, 108, 100, 98, 95, 98, 49, 46, 70, 110, 84, 97, 98, 108, 101, 79, 114, 100, 101, 114, 75, 101, 121, 108, 101, 115,
  115, 84, 97, 107, 101, 115, 69, 113, 117, 97, 108, 105, 116, 121, 32, 101, 120, 97, 109, 112, 108, 101, 46, 99, 111, 109, 47, 115, 104, 97, 112, 101, 119, 105, 114, 101, 47, 115, 104, 97,
  112, 101, 119, 105, 114, 101, 47, 122, 122, 108, 97, 119, 115, 95, 115, 113, 108, 100, 98, 95, 98, 49, 46, 70, 110, 84, 97, 98, 108, 101, 79, 114, 100, 101, 114, 73, 100, 101, 109, 112,
  111, 116, 101, 110, 116, 32, 101, 120, 97, 109, 112, 108, 101, 46, 99, 111, 109, 47, 115, 104, 97, 112, 101, 119, 105, 114, 101, 47, 115, 104, 97, 112, 101, 119, 105, 114, 101, 47, 122, 122,
  108, 97, 119, 115, 95, 115, 113, 108, 100, 98, 95, 98, 49, 46, 70, 110, 75, 105, 110, 100, 84, 97, 107, 101, 115, 77, 97, 116, 99, 104, 101, 115, 84, 97, 98, 108, 101, 32, 101, 120,
  97, 109, 112, 108, 101, 46, 99, 111, 109, 47, 115, 104, 97, 112, 101, 119, 105, 114, 101, 47, 115, 104, 97, 112, 101, 119, 105, 114, 101, 47, 122, 122, 108, 97, 119, 115, 95, 115, 113, 108,
  100, 98, 95, 98, 49, 46, 70, 110, 75, 105, 110, 100, 84, 97, 107, 101, 115, 65, 103, 114, 101, 101, 115, 87, 105, 116, 104, 65, 103, 103, 114, 101, 103, 97, 116, 101, 115, 32, 101, 120,
  97, 109, 112, 108, 101, 46, 99, 111, 109, 47, 115, 104, 97, 112, 101, 119, 105, 114, 101, 47, 115, 104, 97, 112, 101, 119, 105, 114, 101, 47, 122, 122, 108, 97, 119, 115, 95, 115, 113, 108,
  100, 98, 95, 98, 49, 46, 70, 110, 75, 105, 110, 100, 84, 97, 107, 101, 115, 66, 121, 79, 112, 101, 114, 97, 116, 111, 114, 67, 108, 97, 115, 115]
theorem head_is : Trym.prog.initOrder = String.ofList (headNums.map Char.ofNat) := by kernel_rfl
theorem head_list : Trym.prog.initOrder.toList = headNums.map Char.ofNat := by rw [head_is, String.toList_ofList]
def pub : List Char := ['p', 'u', 'b', 'l', 'i', 'c', 's', 'u', 'm', 's']
def cut : List Char := ['c', 'u', 't']
def restWords : List (List Char) := (behindMainWord (wordsSigns (headNums.map Char.ofNat))).drop 2
theorem head_words : behindMainWord (wordsSigns (headNums.map Char.ofNat)) = pub :: cut :: restWords := by kernel_rfl
theorem words : behindMainWord (wordsSigns Trym.prog.initOrder.toList) = pub :: cut :: restWords := by rw [head_list, head_words]
theorem later : Trym.prog.laysLater = false := by kernel_rfl
theorem noReflect : Trym.prog.bearsReflect = false := by kernel_rfl
theorem door : Trym.prog.doorFits ["publicsums"] = true := by kernel_rfl
theorem strip (r : List (List Char)) : stripLifts liftWords (pub :: cut :: r) = (["publicsums"], cut :: r) := by kernel_rfl
-- over a program that is a variable: nothing of the dump can be laid open
theorem mayEnter_of (P : Program) (r : List (List Char)) (h : behindMainWord (wordsSigns P.initOrder.toList) = pub :: cut :: r) (h1 : P.laysLater = false) (h2 : P.bearsReflect = false) (h3 : P.doorFits ["publicsums"] = true) : P.mayEnter = true := by
  unfold Program.mayEnter
  rw [h]
  simp only [strip, h1, h2, h3]
  kernel_rfl
theorem headLifts_of (P : Program) (r : List (List Char)) (h : behindMainWord (wordsSigns P.initOrder.toList) = pub :: cut :: r) : P.headLifts = ["publicsums"] := by
  unfold Program.headLifts
  rw [h]
  simp only [strip]
  kernel_rfl
theorem liftsFinal_of (P : Program) (r : List (List Char)) (h : behindMainWord (wordsSigns P.initOrder.toList) = pub :: cut :: r) : P.liftsFinal = false := by
  unfold Program.liftsFinal
  rw [h, headLifts_of P r h]
  kernel_rfl
theorem made_of (P : Program) (r : List (List Char)) (h : behindMainWord (wordsSigns P.initOrder.toList) = pub :: cut :: r) : P.make = some (.lifted ["publicsums"]) := by
  unfold Program.make
  rw [h]
  simp only [headLifts_of P r h]
  kernel_rfl
theorem mayEnter : Trym.prog.mayEnter = true := mayEnter_of _ _ words later noReflect door
theorem liftsFinal : Trym.prog.liftsFinal = false := liftsFinal_of _ _ words
theorem made : Trym.prog.make = some (.lifted ["publicsums"]) := made_of _ _ words
end Go.Proofs.Qxb6001834aMods.Own
