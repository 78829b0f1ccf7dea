/-
  THE HEAD OF THE DUMP OF Qxb6001833aMods, READ CHEAPLY. The row's closed facts 'mayEnter', 'liftsFinal' and 'make' read the head's word sign by sign; by 'kernel_rfl' over the string itself each takes more than 10 GB (the kernel decodes UTF-8 at each sign). Here the word is written out as numbers, the string is shown to be made of them, and the three facts follow of the list.
-/
import Derived.Test.Qxb6001833aModsRows
import Derived.WalkKit
import Derived.ProofKit
namespace Go.Proofs.Qxb6001833aMods.Own
set_option maxRecDepth 100000
def headNums : List Nat := [104, 97, 114, 110, 101, 115, 115, 32, 54, 98, 57, 97, 52, 49, 48, 100, 97, 51, 97, 100, 54, 52, 100, 53, 50, 51, 48, 52, 98, 102, 57, 56, 97, 97, 97, 101, 51, 55, 48, 57,
  53, 101, 48, 100, 52, 53, 49, 52, 57, 52, 48, 99, 54, 102, 50, 55, 52, 101, 102, 100, 55, 48, 57, 101, 99, 48, 100, 98, 99, 99, 54, 102, 32, 112, 117, 98, 108, 105, 99, 115,
  117, 109, 115, 32, 99, 117, 116, 32, 97, 116, 32, 101, 120, 97, 109, 112, 108, 101, 46, 99, 111, 109, 47, 115, 104, 97, 112, 101, 119, 105, 114, 101, 47, 115, 104, 97, 112, 101, 119, 105,
  114, 101, 47, 122, 122, 108, 97, 119, 115, 95, 115, 113, 108, 100, 98, 95, 98, 49, 46, 70, 110, 79, 112, 79, 114, 100, 101, 114, 101, 100, 73, 115, 87, 104, 97, 116, 78, 117, 109, 98,
  101, 114, 115, 84, 97, 107, 101, 65, 110, 100, 66, 111, 111, 108, 101, 97, 110, 115, 82, 101, 102, 117, 115, 101, 32, 101, 120, 97, 109, 112, 108, 101, 46, 99, 111, 109, 47, 115, 104, 97,
  112, 101, 119, 105, 114, 101, 47, 115, 104, 97, 112, 101, 119, 105, 114, 101, 47, 122, 122, 108, 97, 119, 115, 95, 115, 113, 108, 100, 98, 95, 98, 49, 46, 70, 110, 83, 101, 108, 101, 99,
  116, 67, 111, 108, 117, 109, 110, 68, 105, 97, 108, 101, 99, 116, 115, 65, 103, 114, 101, 101, 79, 110, 87, 104, 97, 116, 84, 104, 101, 121, 82, 101, 119, 114, 105, 116, 101, 32, 101, 120,
  97, 109, 112, 108, 101, 46, 99, 111, 109, 47, 115, 104, 97, 112, 101, 119, 105, 114, 101, 47, 115, 104, 97, 112, 101, 119, 105, 114, 101, 47, 122, 122, 108, 97, 119, 115, 95, 115, 113, 108,
  100, 98, 95, 98, 49, 46, 70, 110, 83, 101, 108, 101, 99, 116, 67, 111, 108, 117, 109, 110, 76, 101, 97, 118, 101, 115, 67, 111, 109, 112, 97, 114, 97, 98, 108, 101, 75, 105, 110, 100,
  115, 66, 97, 114, 101, 32, 101, 120, 97, 109, 112, 108, 101, 46, 99, 111, 109, 47, 115, 104, 97, 112, 101, 119, 105, 114, 101, 47, 115, 104, 97, 112, 101, 119, 105, 114, 101, 47, 122, 122,
  108, 97, 119, 115, 95, 115, 113, 108, 100, 98, 95, 98, 49, 46, 70, 110, 77, 97, 114, 105, 97, 100, 98, 83, 101, 108, 101, 99, 116, 67, 111, 108, 117, 109, 110, 73, 110, 106, 101, 99,
  116, 105, 118, 101, 32, 101, 120, 97, 109, 112, 108, 101, 46, 99, 111, 109, 47, 115, 104, 97, 112, 101, 119, 105, 114, 101, 47, 115, 104, 97, 112, 101, 119, 105, 114, 101, 47, 122, 122, 108,
  97, 119, 115, 95, 115, 113, 108, 100, 98, 95, 98, 49, 46, 70, 110, 80, 111, 115, 116, 103, 114, 101, 115, 83, 101, 108, 101, 99, 116, 67, 111, 108, 117, 109, 110, 73, 110, 106, 101, 99,
  116, 105, 118, 101, 32, 101, 120, 97, 109, 112, 108, 101, 46, 99, 111, 109, 47, 115, 104, 97, 112, 101, 119, 105, 114, 101, 47, 115, 104, 97, 112, 101, 119, 105, 114, 101, 47, 122, 122, 108,
  97, 119, 115, 95, 115, 113, 108, 100, 98, 95, 98, 49, 46, 70, 110, 83, 101, 108, 101, 99, 116, 67, 111, 108, 117, 109, 110, 72, 97, 110, 103, 115, 79, 110, 75, 105, 110, 100, 65, 108,
  111, 110, 101, 32, 101, 120, 97, 109, 112, 108, 101, 46, 99, 111, 109, 47, 115, 104, 97, 112, 101, 119, 105, 114, 101, 47, 115, 104, 97, 112, 101, 119, 105, 114, 101, 47, 122, 122, 108, 97,
  119, 115, 95, 115, 113, 108, 100, 98, 95, 98, 49, 46, 70, 110, 79, 114, 100, 101, 114, 66, 121, 68, 101, 115, 99, 101, 110, 100, 105, 110, 103, 69, 120, 116, 101, 110, 100, 115, 65, 115,
  99, 101, 110, 100, 105, 110, 103, 32, 101, 120, 97, 109, 112, 108, 101, 46, 99, 111, 109, 47, 115, 104, 97, 112, 101, 119, 105, 114, 101, 47, 115, 104, 97, 112, 101, 119, 105, 114, 101, 47,
  122, 122, 108, 97, 119, 115, 95, 115, 113, 108, 100, 98, 95, 98, 49, 46, 70, 110, 79, 114, 100, 101, 114, 66, 121, 73, 110, 106, 101, 99, 116, 105, 118, 101, 73, 110, 86, 97, 108, 117,
  101, 32, 101, 120, 97, 109, 112, 108, 101, 46, 99, 111, 109, 47, 115, 104, 97, 112, 101, 119, 105, 114, 101, 47, 115, 104, 97, 112, 101, 119, 105, 114, 101, 47, 122, 122, 108, 97, 119, 115,
  95, 115, 113, 108, 100, 98, 95, 98, 49, 46, 70, 110, 79, 114, 100, 101, 114, 66, 121, 73, 103, 110, 111, 114, 101, 115, 84, 97, 98, 108, 101, 65, 110, 100, 73, 116, 101, 109]
theorem head_is : Trym.prog.initOrder = String.ofList (headNums.map Char.ofNat) := by kernel_rfl
theorem head_list : Trym.prog.initOrder.toList = headNums.map Char.ofNat := by rw [head_is, String.toList_ofList]
def pub : List Char := ['p', 'u', 'b', 'l', 'i', 'c', 's', 'u', 'm', 's']
def cut : List Char := ['c', 'u', 't']
def restWords : List (List Char) := (behindMainWord (wordsSigns (headNums.map Char.ofNat))).drop 2
theorem head_words : behindMainWord (wordsSigns (headNums.map Char.ofNat)) = pub :: cut :: restWords := by kernel_rfl
theorem words : behindMainWord (wordsSigns Trym.prog.initOrder.toList) = pub :: cut :: restWords := by rw [head_list, head_words]
theorem later : Trym.prog.laysLater = false := by kernel_rfl
theorem noReflect : Trym.prog.bearsReflect = false := by kernel_rfl
theorem door : Trym.prog.doorFits ["publicsums"] = true := by kernel_rfl
theorem strip (r : List (List Char)) : stripLifts liftWords (pub :: cut :: r) = (["publicsums"], cut :: r) := by kernel_rfl
-- over a program that is a variable: nothing of the dump can be laid open
theorem mayEnter_of (P : Program) (r : List (List Char)) (h : behindMainWord (wordsSigns P.initOrder.toList) = pub :: cut :: r) (h1 : P.laysLater = false) (h2 : P.bearsReflect = false) (h3 : P.doorFits ["publicsums"] = true) : P.mayEnter = true := by
  unfold Program.mayEnter
  rw [h]
  simp only [strip, h1, h2, h3]
  kernel_rfl
theorem headLifts_of (P : Program) (r : List (List Char)) (h : behindMainWord (wordsSigns P.initOrder.toList) = pub :: cut :: r) : P.headLifts = ["publicsums"] := by
  unfold Program.headLifts
  rw [h]
  simp only [strip]
  kernel_rfl
theorem liftsFinal_of (P : Program) (r : List (List Char)) (h : behindMainWord (wordsSigns P.initOrder.toList) = pub :: cut :: r) : P.liftsFinal = false := by
  unfold Program.liftsFinal
  rw [h, headLifts_of P r h]
  kernel_rfl
theorem made_of (P : Program) (r : List (List Char)) (h : behindMainWord (wordsSigns P.initOrder.toList) = pub :: cut :: r) : P.make = some (.lifted ["publicsums"]) := by
  unfold Program.make
  rw [h]
  simp only [headLifts_of P r h]
  kernel_rfl
theorem mayEnter : Trym.prog.mayEnter = true := mayEnter_of _ _ words later noReflect door
theorem liftsFinal : Trym.prog.liftsFinal = false := liftsFinal_of _ _ words
theorem made : Trym.prog.make = some (.lifted ["publicsums"]) := made_of _ _ words
end Go.Proofs.Qxb6001833aMods.Own
