/-
  THE HEAD OF THE TRANSLATION, AS A LIST OF SIGNS, READ ONCE: three of the row's closed facts ask for it; reckoned by the kernel sign by sign off the string each of them wants a minute and gigabytes.
-/
import Derived.Test.Qxb6602525aModsRows
import Derived.JoinedOf
namespace Go.Proofs.Qxb6602525aMods
set_option maxRecDepth 100000

def headSigns : List Char := ['h', 'a', 'r', 'n', 'e', 's', 's', ' ', '2', '9', '1', 'a', 'b', 'c', '8', '2', '1', '5', '4', '1', '5', '3', '4', '7', '7', 'd', 'e', 'a', '6', '9', 'a', '6', 'a', 'f', '7', 'b', '5', '6', '4', '1', 'a', '6', '8', 'c', '3', '6', '2', '1', 'f', '7', '1', '2', '6', '7', 'a', '7', 'a', '7', 'f', '8', '4', '2', '2', '4', 'c', '7', 'd', 'f', '6', '0', '7', '1', ' ', 'p', 'u', 'b', 'l', 'i', 'c', 's', 'u', 'm', 's', ' ', 'c', 'u', 't', ' ', 'a', 't', ' ', 'e', 'x', 'a', 'm', 'p', 'l', 'e', '.', 'c', 'o', 'm', '/', 'a', 'n', 'n', 'a', 'l', 'i', 't', 'h', '/', 'a', 'n', 'n', 'a', 'l', 'i', 't', 'h', '/', 'z', 'z', 'l', 'a', 'w', 's', '_', 'r', 'o', 'o', 't', '_', 'b', '1', '.', 'F', 'n', 'D', 'e', 'c', 'o', 'd', 'e', 'P', 'a', 'r', 't', 'I', 'n', 'v', 'e', 'r', 't', 's', 'E', 's', 'c', 'a', 'p', 'i', 'n', 'g', ' ', 'e', 'x', 'a', 'm', 'p', 'l', 'e', '.', 'c', 'o', 'm', '/', 'a', 'n', 'n', 'a', 'l', 'i', 't', 'h', '/', 'a', 'n', 'n', 'a', 'l', 'i', 't', 'h', '/', 'z', 'z', 'l', 'a', 'w', 's', '_', 'r', 'o', 'o', 't', '_', 'b', '1', '.', 'F', 'n', 'D', 'e', 'c', 'o', 'd', 'e', 'P', 'a', 'r', 't', 'C', 'o', 'n', 'c', 'a', 't', 'e', 'n', 'a', 't', 'e', 's', 'W', 'h', 'o', 'l', 'e', 'P', 'a', 'r', 't', 's', ' ', 'e', 'x', 'a', 'm', 'p', 'l', 'e', '.', 'c', 'o', 'm', '/', 'a', 'n', 'n', 'a', 'l', 'i', 't', 'h', '/', 'a', 'n', 'n', 'a', 'l', 'i', 't', 'h', '/', 'z', 'z', 'l', 'a', 'w', 's', '_', 'r', 'o', 'o', 't', '_', 'b', '1', '.', 'F', 'n', 'S', 'p', 'l', 'i', 't', 'P', 'o', 'i', 'n', 't', 'L', 'i', 'e', 's', 'O', 'n', 'A', 'S', 'h', 'o', 'r', 't', 'e', 's', 't', 'E', 'd', 'i', 't', ' ', 'e', 'x', 'a', 'm', 'p', 'l', 'e', '.', 'c', 'o', 'm', '/', 'a', 'n', 'n', 'a', 'l', 'i', 't', 'h', '/', 'a', 'n', 'n', 'a', 'l', 'i', 't', 'h', '/', 'z', 'z', 'l', 'a', 'w', 's', '_', 'r', 'o', 'o', 't', '_', 'b', '1', '.', 'F', 'n', 'S', 'p', 'l', 'i', 't', 'A', 'n', 's', 'w', 'e', 'r', 'S', 't', 'a', 'b', 'l', 'e', 'U', 'n', 'd', 'e', 'r', 'M', 'o', 'r', 'e', 'W', 'o', 'r', 'k', ' ', 'e', 'x', 'a', 'm', 'p', 'l', 'e', '.', 'c', 'o', 'm', '/', 'a', 'n', 'n', 'a', 'l', 'i', 't', 'h', '/', 'a', 'n', 'n', 'a', 'l', 'i', 't', 'h', '/', 'z', 'z', 'l', 'a', 'w', 's', '_', 'r', 'o', 'o', 't', '_', 'b', '1', '.', 'F', 'n', 'H', 'u', 'f', 'f', 'm', 'a', 'n', 'L', 'e', 'n', 'g', 't', 'h', 's', 'M', 'a', 't', 'c', 'h', 'M', 'i', 'n', 'P', 'o', 'o', 'l', 'M', 'o', 'd', 'e', 'l', ' ', 'e', 'x', 'a', 'm', 'p', 'l', 'e', '.', 'c', 'o', 'm', '/', 'a', 'n', 'n', 'a', 'l', 'i', 't', 'h', '/', 'a', 'n', 'n', 'a', 'l', 'i', 't', 'h', '/', 'z', 'z', 'l', 'a', 'w', 's', '_', 'r', 'o', 'o', 't', '_', 'b', '1', '.', 'F', 'n', 'H', 'u', 'f', 'f', 'm', 'a', 'n', 'L', 'e', 'n', 'g', 't', 'h', 's', 'C', 'o', 'm', 'p', 'l', 'e', 't', 'e', 'A', 'n', 'd', 'H', 'e', 'a', 'v', 'i', 'e', 'r', 'N', 'o', 't', 'L', 'o', 'n', 'g', 'e', 'r']

theorem head_is : Trym.prog.initOrder = String.ofList headSigns := by kernel_rfl
theorem head_list : Trym.prog.initOrder.toList = headSigns := by rw [head_is, String.toList_ofList]
def headWords : List (List Char) := [['p', 'u', 'b', 'l', 'i', 'c', 's', 'u', 'm', 's'],
  ['c', 'u', 't'],
  ['a', 't'],
  ['e', 'x', 'a', 'm', 'p', 'l', 'e', '.', 'c', 'o', 'm', '/', 'a', 'n', 'n', 'a', 'l', 'i', 't', 'h', '/', 'a', 'n', 'n', 'a', 'l', 'i', 't', 'h', '/', 'z', 'z', 'l', 'a', 'w', 's', '_', 'r', 'o', 'o', 't', '_', 'b', '1', '.', 'F', 'n', 'D', 'e', 'c', 'o', 'd', 'e', 'P', 'a', 'r', 't', 'I', 'n', 'v', 'e', 'r', 't', 's', 'E', 's', 'c', 'a', 'p', 'i', 'n', 'g'],
  ['e', 'x', 'a', 'm', 'p', 'l', 'e', '.', 'c', 'o', 'm', '/', 'a', 'n', 'n', 'a', 'l', 'i', 't', 'h', '/', 'a', 'n', 'n', 'a', 'l', 'i', 't', 'h', '/', 'z', 'z', 'l', 'a', 'w', 's', '_', 'r', 'o', 'o', 't', '_', 'b', '1', '.', 'F', 'n', 'D', 'e', 'c', 'o', 'd', 'e', 'P', 'a', 'r', 't', 'C', 'o', 'n', 'c', 'a', 't', 'e', 'n', 'a', 't', 'e', 's', 'W', 'h', 'o', 'l', 'e', 'P', 'a', 'r', 't', 's'],
  ['e', 'x', 'a', 'm', 'p', 'l', 'e', '.', 'c', 'o', 'm', '/', 'a', 'n', 'n', 'a', 'l', 'i', 't', 'h', '/', 'a', 'n', 'n', 'a', 'l', 'i', 't', 'h', '/', 'z', 'z', 'l', 'a', 'w', 's', '_', 'r', 'o', 'o', 't', '_', 'b', '1', '.', 'F', 'n', 'S', 'p', 'l', 'i', 't', 'P', 'o', 'i', 'n', 't', 'L', 'i', 'e', 's', 'O', 'n', 'A', 'S', 'h', 'o', 'r', 't', 'e', 's', 't', 'E', 'd', 'i', 't'],
  ['e', 'x', 'a', 'm', 'p', 'l', 'e', '.', 'c', 'o', 'm', '/', 'a', 'n', 'n', 'a', 'l', 'i', 't', 'h', '/', 'a', 'n', 'n', 'a', 'l', 'i', 't', 'h', '/', 'z', 'z', 'l', 'a', 'w', 's', '_', 'r', 'o', 'o', 't', '_', 'b', '1', '.', 'F', 'n', 'S', 'p', 'l', 'i', 't', 'A', 'n', 's', 'w', 'e', 'r', 'S', 't', 'a', 'b', 'l', 'e', 'U', 'n', 'd', 'e', 'r', 'M', 'o', 'r', 'e', 'W', 'o', 'r', 'k'],
  ['e', 'x', 'a', 'm', 'p', 'l', 'e', '.', 'c', 'o', 'm', '/', 'a', 'n', 'n', 'a', 'l', 'i', 't', 'h', '/', 'a', 'n', 'n', 'a', 'l', 'i', 't', 'h', '/', 'z', 'z', 'l', 'a', 'w', 's', '_', 'r', 'o', 'o', 't', '_', 'b', '1', '.', 'F', 'n', 'H', 'u', 'f', 'f', 'm', 'a', 'n', 'L', 'e', 'n', 'g', 't', 'h', 's', 'M', 'a', 't', 'c', 'h', 'M', 'i', 'n', 'P', 'o', 'o', 'l', 'M', 'o', 'd', 'e', 'l'],
  ['e', 'x', 'a', 'm', 'p', 'l', 'e', '.', 'c', 'o', 'm', '/', 'a', 'n', 'n', 'a', 'l', 'i', 't', 'h', '/', 'a', 'n', 'n', 'a', 'l', 'i', 't', 'h', '/', 'z', 'z', 'l', 'a', 'w', 's', '_', 'r', 'o', 'o', 't', '_', 'b', '1', '.', 'F', 'n', 'H', 'u', 'f', 'f', 'm', 'a', 'n', 'L', 'e', 'n', 'g', 't', 'h', 's', 'C', 'o', 'm', 'p', 'l', 'e', 't', 'e', 'A', 'n', 'd', 'H', 'e', 'a', 'v', 'i', 'e', 'r', 'N', 'o', 't', 'L', 'o', 'n', 'g', 'e', 'r']]
theorem words_ok : behindMainWord (wordsSigns Trym.prog.initOrder.toList) = headWords := by rw [head_list]; kernel_rfl
/-- 'make', off the head's words. -/
def makeW (ws : List (List Char)) : Option Make :=
  match ws with
  | c :: rest => if c == "gc".toList || c == "spec".toList then some .whole else if c == "cut".toList || (c == "finals".toList && rest.head? == some "cut".toList) then some .cut else if c == "carried".toList then some .carried else
      if (if (stripLifts liftWords ws).2.head? == some "cut".toList then (stripLifts liftWords ws).1 else []).isEmpty then none else some (.lifted (if (stripLifts liftWords ws).2.head? == some "cut".toList then (stripLifts liftWords ws).1 else []))
  | [] => none
theorem make_of {P : Program} {ws : List (List Char)} (h : behindMainWord (wordsSigns P.initOrder.toList) = ws) : P.make = makeW ws := by
  unfold Program.make Program.headLifts makeW
  rw [h]
  rfl
/-- 'mayEnter', off the head's words. -/
def mayW (ws : List (List Char)) (later refl door : Bool) : Bool :=
  match ws with
  | c :: rest =>
    ((c == "gc".toList || c == "spec".toList) && (rest.isEmpty || rest.head? == some "stop".toList)) ||
    (c == "carried".toList && rest.take 2 == ["gc".toList, "cut".toList] && !later && !refl) ||
    ((stripLifts liftWords (c :: rest)).2.head? == some "cut".toList &&
      ((stripLifts liftWords (c :: rest)).1.contains "finals" || !later) && ((stripLifts liftWords (c :: rest)).1.contains "reflectrows" || !refl) &&
      ((stripLifts liftWords (c :: rest)).1.contains "reflectrows" || !(stripLifts liftWords (c :: rest)).1.contains "leanrows") &&
      door)
  | [] => false
theorem mayEnter_of {P : Program} {ws : List (List Char)} (h : behindMainWord (wordsSigns P.initOrder.toList) = ws) (hne : ws ≠ []) : P.mayEnter = mayW ws P.laysLater P.bearsReflect (P.doorFits (stripLifts liftWords ws).1) := by
  unfold Program.mayEnter mayW
  rw [h]
  cases ws with
  | nil => exact absurd rfl hne
  | cons c rest => rfl
/-- 'liftsFinal', off the head's words. -/
def finalW (ws : List (List Char)) : Bool :=
  (ws.head? == some "carried".toList && ws.take 3 != ["carried".toList, "gc".toList, "cut".toList]) || (if (stripLifts liftWords ws).2.head? == some "cut".toList then (stripLifts liftWords ws).1 else []).contains "finals"
theorem liftsFinal_of {P : Program} {ws : List (List Char)} (h : behindMainWord (wordsSigns P.initOrder.toList) = ws) : P.liftsFinal = finalW ws := by
  unfold Program.liftsFinal Program.headLifts finalW
  rw [h]
theorem later_no : Trym.prog.laysLater = false := by kernel_rfl
theorem refl_no : Trym.prog.bearsReflect = false := by kernel_rfl
theorem strip_is : (stripLifts liftWords headWords).1 = ["publicsums"] := by kernel_rfl
theorem door_fits : Trym.prog.doorFits ["publicsums"] = true := by kernel_rfl
theorem mayW_ok : mayW headWords false false true = true := by kernel_rfl
theorem makeW_ok : makeW headWords = some (.lifted ["publicsums"]) := by kernel_rfl
theorem finalW_ok : finalW headWords = false := by kernel_rfl
theorem mayEnter_ok : Trym.prog.mayEnter = true := by
  rw [mayEnter_of words_ok (by unfold headWords; simp), later_no, refl_no, strip_is, door_fits]
  exact mayW_ok
theorem liftsFinal_ok : Trym.prog.liftsFinal = false := (liftsFinal_of words_ok).trans finalW_ok
theorem make_ok : Trym.prog.make = some (.lifted ["publicsums"]) := (make_of words_ok).trans makeW_ok
theorem pinned_prog : Trym.pinned.checked.prog = Trym.prog := rfl
end Go.Proofs.Qxb6602525aMods
