/-
  THE HEAD OF THE TRANSLATION, AS A LIST OF SIGNS, READ ONCE: three of the row's closed facts ask for it; reckoned by the kernel sign by sign off the string each of them wants a minute and gigabytes.
-/
import Derived.Test.Qxb6600600aModsRows
import Derived.JoinedOf
namespace Go.Proofs.Qxb6600600aMods
set_option maxRecDepth 100000

def headSigns : List Char := ['h', 'a', 'r', 'n', 'e', 's', 's', ' ', 'e', 'f', '6', '4', '0', 'c', 'e', '2', '5', '9', 'd', '7', 'a', '7', 'c', '7', 'c', 'f', '9', 'd', '0', '1', '2', 'e', 'b', '3', '4', '2', '3', 'b', 'f', 'b', 'b', '5', '7', '1', '8', '1', '3', 'a', '1', '6', '3', '9', '7', '6', '4', '3', '3', '5', 'c', '6', 'f', 'c', 'c', '6', 'e', 'a', '8', '8', '7', 'e', 'a', 'b', ' ', 'p', 'u', 'b', 'l', 'i', 'c', 's', 'u', 'm', 's', ' ', 'c', 'u', 't', ' ', 'a', 't', ' ', 'e', 'x', 'a', 'm', 'p', 'l', 'e', '.', 'c', 'o', 'm', '/', 's', 't', 'i', 'l', 'l', 's', 't', 'o', 'n', 'e', '/', 's', 't', 'i', 'l', 'l', 's', 't', 'o', 'n', 'e', '/', 'z', 'z', 'l', 'a', 'w', 's', '_', 'p', 'k', 'g', '_', 's', 't', 'o', 'r', 'e', '_', 'b', '1', '.', 'F', 'n', 'K', 'e', 'p', 't', 'S', 't', 'r', 'i', 'n', 'g', 'E', 'n', 'd', 'A', 'g', 'r', 'e', 'e', 's', 'W', 'i', 't', 'h', 'E', 's', 'c', 'a', 'p', 'e', 'S', 'c', 'a', 'n', ' ', 'e', 'x', 'a', 'm', 'p', 'l', 'e', '.', 'c', 'o', 'm', '/', 's', 't', 'i', 'l', 'l', 's', 't', 'o', 'n', 'e', '/', 's', 't', 'i', 'l', 'l', 's', 't', 'o', 'n', 'e', '/', 'z', 'z', 'l', 'a', 'w', 's', '_', 'p', 'k', 'g', '_', 's', 't', 'o', 'r', 'e', '_', 'b', '1', '.', 'F', 'n', 'K', 'e', 'p', 't', 'S', 't', 'r', 'i', 'n', 'g', 'E', 'n', 'd', 'F', 'i', 'n', 'd', 's', 'T', 'h', 'e', 'C', 'l', 'o', 's', 'e', 'O', 'f', 'A', 'n', 'E', 'n', 'c', 'o', 'd', 'e', 'd', 'S', 't', 'r', 'i', 'n', 'g', ' ', 'e', 'x', 'a', 'm', 'p', 'l', 'e', '.', 'c', 'o', 'm', '/', 's', 't', 'i', 'l', 'l', 's', 't', 'o', 'n', 'e', '/', 's', 't', 'i', 'l', 'l', 's', 't', 'o', 'n', 'e', '/', 'z', 'z', 'l', 'a', 'w', 's', '_', 'p', 'k', 'g', '_', 's', 't', 'o', 'r', 'e', '_', 'b', '1', '.', 'F', 'n', 'K', 'e', 'p', 't', 'S', 't', 'r', 'i', 'n', 'g', 'E', 'n', 'd', 'I', 'g', 'n', 'o', 'r', 'e', 's', 'W', 'h', 'a', 't', 'L', 'i', 'e', 's', 'B', 'e', 'f', 'o', 'r', 'e', ' ', 'e', 'x', 'a', 'm', 'p', 'l', 'e', '.', 'c', 'o', 'm', '/', 's', 't', 'i', 'l', 'l', 's', 't', 'o', 'n', 'e', '/', 's', 't', 'i', 'l', 'l', 's', 't', 'o', 'n', 'e', '/', 'z', 'z', 'l', 'a', 'w', 's', '_', 'p', 'k', 'g', '_', 's', 't', 'o', 'r', 'e', '_', 'b', '1', '.', 'F', 'n', 'K', 'e', 'p', 't', 'V', 'a', 'l', 'u', 'e', 'E', 'n', 'd', 'A', 'g', 'r', 'e', 'e', 's', 'W', 'i', 't', 'h', 'R', 'o', 'l', 'e', 'T', 'a', 'b', 'l', 'e', ' ', 'e', 'x', 'a', 'm', 'p', 'l', 'e', '.', 'c', 'o', 'm', '/', 's', 't', 'i', 'l', 'l', 's', 't', 'o', 'n', 'e', '/', 's', 't', 'i', 'l', 'l', 's', 't', 'o', 'n', 'e', '/', 'z', 'z', 'l', 'a', 'w', 's', '_', 'p', 'k', 'g', '_', 's', 't', 'o', 'r', 'e', '_', 'b', '1', '.', 'F', 'n', 'K', 'e', 'p', 't', 'V', 'a', 'l', 'u', 'e', 'E', 'n', 'd', 'S', 't', 'o', 'p', 's', 'J', 'u', 's', 't', 'P', 'a', 's', 't', 'A', 'n', 'E', 'n', 'c', 'o', 'd', 'e', 'd', 'C', 'o', 'n', 't', 'a', 'i', 'n', 'e', 'r', ' ', 'e', 'x', 'a', 'm', 'p', 'l', 'e', '.', 'c', 'o', 'm', '/', 's', 't', 'i', 'l', 'l', 's', 't', 'o', 'n', 'e', '/', 's', 't', 'i', 'l', 'l', 's', 't', 'o', 'n', 'e', '/', 'z', 'z', 'l', 'a', 'w', 's', '_', 'p', 'k', 'g', '_', 's', 't', 'o', 'r', 'e', '_', 'b', '1', '.', 'F', 'n', 'K', 'e', 'p', 't', 'V', 'a', 'l', 'u', 'e', 'E', 'n', 'd', 'I', 's', 'U', 'n', 'm', 'o', 'v', 'e', 'd', 'B', 'y', 'W', 'h', 'a', 't', 'F', 'o', 'l', 'l', 'o', 'w', 's', 'I', 't', 's', 'E', 'n', 'd']

theorem head_is : Trym.prog.initOrder = String.ofList headSigns := by kernel_rfl
theorem head_list : Trym.prog.initOrder.toList = headSigns := by rw [head_is, String.toList_ofList]
def headWords : List (List Char) := [['p', 'u', 'b', 'l', 'i', 'c', 's', 'u', 'm', 's'],
  ['c', 'u', 't'],
  ['a', 't'],
  ['e', 'x', 'a', 'm', 'p', 'l', 'e', '.', 'c', 'o', 'm', '/', 's', 't', 'i', 'l', 'l', 's', 't', 'o', 'n', 'e', '/', 's', 't', 'i', 'l', 'l', 's', 't', 'o', 'n', 'e', '/', 'z', 'z', 'l', 'a', 'w', 's', '_', 'p', 'k', 'g', '_', 's', 't', 'o', 'r', 'e', '_', 'b', '1', '.', 'F', 'n', 'K', 'e', 'p', 't', 'S', 't', 'r', 'i', 'n', 'g', 'E', 'n', 'd', 'A', 'g', 'r', 'e', 'e', 's', 'W', 'i', 't', 'h', 'E', 's', 'c', 'a', 'p', 'e', 'S', 'c', 'a', 'n'],
  ['e', 'x', 'a', 'm', 'p', 'l', 'e', '.', 'c', 'o', 'm', '/', 's', 't', 'i', 'l', 'l', 's', 't', 'o', 'n', 'e', '/', 's', 't', 'i', 'l', 'l', 's', 't', 'o', 'n', 'e', '/', 'z', 'z', 'l', 'a', 'w', 's', '_', 'p', 'k', 'g', '_', 's', 't', 'o', 'r', 'e', '_', 'b', '1', '.', 'F', 'n', 'K', 'e', 'p', 't', 'S', 't', 'r', 'i', 'n', 'g', 'E', 'n', 'd', 'F', 'i', 'n', 'd', 's', 'T', 'h', 'e', 'C', 'l', 'o', 's', 'e', 'O', 'f', 'A', 'n', 'E', 'n', 'c', 'o', 'd', 'e', 'd', 'S', 't', 'r', 'i', 'n', 'g'],
  ['e', 'x', 'a', 'm', 'p', 'l', 'e', '.', 'c', 'o', 'm', '/', 's', 't', 'i', 'l', 'l', 's', 't', 'o', 'n', 'e', '/', 's', 't', 'i', 'l', 'l', 's', 't', 'o', 'n', 'e', '/', 'z', 'z', 'l', 'a', 'w', 's', '_', 'p', 'k', 'g', '_', 's', 't', 'o', 'r', 'e', '_', 'b', '1', '.', 'F', 'n', 'K', 'e', 'p', 't', 'S', 't', 'r', 'i', 'n', 'g', 'E', 'n', 'd', 'I', 'g', 'n', 'o', 'r', 'e', 's', 'W', 'h', 'a', 't', 'L', 'i', 'e', 's', 'B', 'e', 'f', 'o', 'r', 'e'],
  ['e', 'x', 'a', 'm', 'p', 'l', 'e', '.', 'c', 'o', 'm', '/', 's', 't', 'i', 'l', 'l', 's', 't', 'o', 'n', 'e', '/', 's', 't', 'i', 'l', 'l', 's', 't', 'o', 'n', 'e', '/', 'z', 'z', 'l', 'a', 'w', 's', '_', 'p', 'k', 'g', '_', 's', 't', 'o', 'r', 'e', '_', 'b', '1', '.', 'F', 'n', 'K', 'e', 'p', 't', 'V', 'a', 'l', 'u', 'e', 'E', 'n', 'd', 'A', 'g', 'r', 'e', 'e', 's', 'W', 'i', 't', 'h', 'R', 'o', 'l', 'e', 'T', 'a', 'b', 'l', 'e'],
  ['e', 'x', 'a', 'm', 'p', 'l', 'e', '.', 'c', 'o', 'm', '/', 's', 't', 'i', 'l', 'l', 's', 't', 'o', 'n', 'e', '/', 's', 't', 'i', 'l', 'l', 's', 't', 'o', 'n', 'e', '/', 'z', 'z', 'l', 'a', 'w', 's', '_', 'p', 'k', 'g', '_', 's', 't', 'o', 'r', 'e', '_', 'b', '1', '.', 'F', 'n', 'K', 'e', 'p', 't', 'V', 'a', 'l', 'u', 'e', 'E', 'n', 'd', 'S', 't', 'o', 'p', 's', 'J', 'u', 's', 't', 'P', 'a', 's', 't', 'A', 'n', 'E', 'n', 'c', 'o', 'd', 'e', 'd', 'C', 'o', 'n', 't', 'a', 'i', 'n', 'e', 'r'],
  ['e', 'x', 'a', 'm', 'p', 'l', 'e', '.', 'c', 'o', 'm', '/', 's', 't', 'i', 'l', 'l', 's', 't', 'o', 'n', 'e', '/', 's', 't', 'i', 'l', 'l', 's', 't', 'o', 'n', 'e', '/', 'z', 'z', 'l', 'a', 'w', 's', '_', 'p', 'k', 'g', '_', 's', 't', 'o', 'r', 'e', '_', 'b', '1', '.', 'F', 'n', 'K', 'e', 'p', 't', 'V', 'a', 'l', 'u', 'e', 'E', 'n', 'd', 'I', 's', 'U', 'n', 'm', 'o', 'v', 'e', 'd', 'B', 'y', 'W', 'h', 'a', 't', 'F', 'o', 'l', 'l', 'o', 'w', 's', 'I', 't', 's', 'E', 'n', 'd']]
theorem words_ok : behindMainWord (wordsSigns Trym.prog.initOrder.toList) = headWords := by rw [head_list]; kernel_rfl
/-- 'make', off the head's words. -/
def makeW (ws : List (List Char)) : Option Make :=
  match ws with
  | c :: rest => if c == "gc".toList || c == "spec".toList then some .whole else if c == "cut".toList || (c == "finals".toList && rest.head? == some "cut".toList) then some .cut else if c == "carried".toList then some .carried else
      if (if (stripLifts liftWords ws).2.head? == some "cut".toList then (stripLifts liftWords ws).1 else []).isEmpty then none else some (.lifted (if (stripLifts liftWords ws).2.head? == some "cut".toList then (stripLifts liftWords ws).1 else []))
  | [] => none
theorem make_of {P : Program} {ws : List (List Char)} (h : behindMainWord (wordsSigns P.initOrder.toList) = ws) : P.make = makeW ws := by
  unfold Program.make Program.headLifts makeW
  rw [h]
  rfl
/-- 'mayEnter', off the head's words. -/
def mayW (ws : List (List Char)) (later refl door : Bool) : Bool :=
  match ws with
  | c :: rest =>
    ((c == "gc".toList || c == "spec".toList) && (rest.isEmpty || rest.head? == some "stop".toList)) ||
    (c == "carried".toList && rest.take 2 == ["gc".toList, "cut".toList] && !later && !refl) ||
    ((stripLifts liftWords (c :: rest)).2.head? == some "cut".toList &&
      ((stripLifts liftWords (c :: rest)).1.contains "finals" || !later) && ((stripLifts liftWords (c :: rest)).1.contains "reflectrows" || !refl) &&
      ((stripLifts liftWords (c :: rest)).1.contains "reflectrows" || !(stripLifts liftWords (c :: rest)).1.contains "leanrows") &&
      door)
  | [] => false
theorem mayEnter_of {P : Program} {ws : List (List Char)} (h : behindMainWord (wordsSigns P.initOrder.toList) = ws) (hne : ws ≠ []) : P.mayEnter = mayW ws P.laysLater P.bearsReflect (P.doorFits (stripLifts liftWords ws).1) := by
  unfold Program.mayEnter mayW
  rw [h]
  cases ws with
  | nil => exact absurd rfl hne
  | cons c rest => rfl
/-- 'liftsFinal', off the head's words. -/
def finalW (ws : List (List Char)) : Bool :=
  (ws.head? == some "carried".toList && ws.take 3 != ["carried".toList, "gc".toList, "cut".toList]) || (if (stripLifts liftWords ws).2.head? == some "cut".toList then (stripLifts liftWords ws).1 else []).contains "finals"
theorem liftsFinal_of {P : Program} {ws : List (List Char)} (h : behindMainWord (wordsSigns P.initOrder.toList) = ws) : P.liftsFinal = finalW ws := by
  unfold Program.liftsFinal Program.headLifts finalW
  rw [h]
theorem later_no : Trym.prog.laysLater = false := by kernel_rfl
theorem refl_no : Trym.prog.bearsReflect = false := by kernel_rfl
theorem strip_is : (stripLifts liftWords headWords).1 = ["publicsums"] := by kernel_rfl
theorem door_fits : Trym.prog.doorFits ["publicsums"] = true := by kernel_rfl
theorem mayW_ok : mayW headWords false false true = true := by kernel_rfl
theorem makeW_ok : makeW headWords = some (.lifted ["publicsums"]) := by kernel_rfl
theorem finalW_ok : finalW headWords = false := by kernel_rfl
theorem mayEnter_ok : Trym.prog.mayEnter = true := by
  rw [mayEnter_of words_ok (by unfold headWords; simp), later_no, refl_no, strip_is, door_fits]
  exact mayW_ok
theorem liftsFinal_ok : Trym.prog.liftsFinal = false := (liftsFinal_of words_ok).trans finalW_ok
theorem make_ok : Trym.prog.make = some (.lifted ["publicsums"]) := (make_of words_ok).trans makeW_ok
theorem pinned_prog : Trym.pinned.checked.prog = Trym.prog := rfl
end Go.Proofs.Qxb6600600aMods
