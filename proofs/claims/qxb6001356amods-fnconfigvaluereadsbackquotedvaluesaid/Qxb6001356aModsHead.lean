/-
  THE HEAD OF THE TRANSLATION, AS A LIST OF SIGNS, READ ONCE: three of the row's closed facts ask for it; reckoned by the kernel sign by sign off the string each of them wants a minute and gigabytes.
-/
import Derived.Test.Qxb6001356aModsRows
import Derived.JoinedOf
namespace Go.Proofs.Qxb6001356aMods
set_option maxRecDepth 100000

def headSigns : List Char := ['h', 'a', 'r', 'n', 'e', 's', 's', ' ', 'e', 'b', '6', 'a', 'f', 'e', 'c', '5', '7', '1', '0', 'c', 'a', 'a', '2', '0', 'a', '6', '0', '1', '2', '8', '2', '9', '9', '2', '9', '9', '0', '4', '8', '1', 'd', '0', 'f', '8', '3', 'b', '8', '6', '0', '0', 'd', '1', '0', 'f', 'a', 'a', '3', '5', 'a', 'c', '4', '7', '8', '3', '1', '7', '7', 'd', 'f', '9', '8', '2', ' ', 'p', 'u', 'b', 'l', 'i', 'c', 's', 'u', 'm', 's', ' ', 'c', 'u', 't', ' ', 'a', 't', ' ', 'e', 'x', 'a', 'm', 'p', 'l', 'e', '.', 'c', 'o', 'm', '/', 'g', 'l', 'o', 'b', 't', 'r', 'o', 't', '/', 'g', 'l', 'o', 'b', 't', 'r', 'o', 't', '/', 'z', 'z', 'l', 'a', 'w', 's', '_', 'i', 'n', 't', 'e', 'r', 'n', 'a', 'l', '_', 'i', 'g', 'n', 'o', 'r', 'e', '_', 'b', '1', '.', 'F', 'n', 'S', 'u', 'b', 's', 'e', 'c', 't', 'i', 'o', 'n', 'R', 'e', 'a', 'd', 's', 'B', 'a', 'c', 'k', 'Q', 'u', 'o', 't', 'e', 'd', 'N', 'a', 'm', 'e', ' ', 'e', 'x', 'a', 'm', 'p', 'l', 'e', '.', 'c', 'o', 'm', '/', 'g', 'l', 'o', 'b', 't', 'r', 'o', 't', '/', 'g', 'l', 'o', 'b', 't', 'r', 'o', 't', '/', 'z', 'z', 'l', 'a', 'w', 's', '_', 'i', 'n', 't', 'e', 'r', 'n', 'a', 'l', '_', 'i', 'g', 'n', 'o', 'r', 'e', '_', 'b', '1', '.', 'F', 'n', 'S', 'u', 'b', 's', 'e', 'c', 't', 'i', 'o', 'n', 'I', 'g', 'n', 'o', 'r', 'e', 's', 'W', 'h', 'a', 't', 'F', 'o', 'l', 'l', 'o', 'w', 's', ' ', 'e', 'x', 'a', 'm', 'p', 'l', 'e', '.', 'c', 'o', 'm', '/', 'g', 'l', 'o', 'b', 't', 'r', 'o', 't', '/', 'g', 'l', 'o', 'b', 't', 'r', 'o', 't', '/', 'z', 'z', 'l', 'a', 'w', 's', '_', 'i', 'n', 't', 'e', 'r', 'n', 'a', 'l', '_', 'i', 'g', 'n', 'o', 'r', 'e', '_', 'b', '1', '.', 'F', 'n', 'S', 'u', 'b', 's', 'e', 'c', 't', 'i', 'o', 'n', 'B', 'o', 'u', 'n', 'd', 's', ' ', 'e', 'x', 'a', 'm', 'p', 'l', 'e', '.', 'c', 'o', 'm', '/', 'g', 'l', 'o', 'b', 't', 'r', 'o', 't', '/', 'g', 'l', 'o', 'b', 't', 'r', 'o', 't', '/', 'z', 'z', 'l', 'a', 'w', 's', '_', 'i', 'n', 't', 'e', 'r', 'n', 'a', 'l', '_', 'i', 'g', 'n', 'o', 'r', 'e', '_', 'b', '1', '.', 'F', 'n', 'C', 'o', 'n', 'f', 'i', 'g', 'V', 'a', 'l', 'u', 'e', 'R', 'e', 'a', 'd', 's', 'B', 'a', 'c', 'k', 'Q', 'u', 'o', 't', 'e', 'd', 'V', 'a', 'l', 'u', 'e', ' ', 'e', 'x', 'a', 'm', 'p', 'l', 'e', '.', 'c', 'o', 'm', '/', 'g', 'l', 'o', 'b', 't', 'r', 'o', 't', '/', 'g', 'l', 'o', 'b', 't', 'r', 'o', 't', '/', 'z', 'z', 'l', 'a', 'w', 's', '_', 'i', 'n', 't', 'e', 'r', 'n', 'a', 'l', '_', 'i', 'g', 'n', 'o', 'r', 'e', '_', 'b', '1', '.', 'F', 'n', 'C', 'o', 'n', 'f', 'i', 'g', 'V', 'a', 'l', 'u', 'e', 'P', 'l', 'a', 'i', 'n', 'L', 'i', 'n', 'e', 'M', 'o', 'd', 'e', 'l', ' ', 'e', 'x', 'a', 'm', 'p', 'l', 'e', '.', 'c', 'o', 'm', '/', 'g', 'l', 'o', 'b', 't', 'r', 'o', 't', '/', 'g', 'l', 'o', 'b', 't', 'r', 'o', 't', '/', 'z', 'z', 'l', 'a', 'w', 's', '_', 'i', 'n', 't', 'e', 'r', 'n', 'a', 'l', '_', 'i', 'g', 'n', 'o', 'r', 'e', '_', 'b', '1', '.', 'F', 'n', 'C', 'o', 'n', 'f', 'i', 'g', 'V', 'a', 'l', 'u', 'e', 'R', 'e', 'f', 'u', 's', 'e', 's', 'O', 'p', 'e', 'n', 'Q', 'u', 'o', 't', 'e', 'A', 'n', 'd', 'U', 'n', 'k', 'n', 'o', 'w', 'n', 'E', 's', 'c', 'a', 'p', 'e', ' ', 'e', 'x', 'a', 'm', 'p', 'l', 'e', '.', 'c', 'o', 'm', '/', 'g', 'l', 'o', 'b', 't', 'r', 'o', 't', '/', 'g', 'l', 'o', 'b', 't', 'r', 'o', 't', '/', 'z', 'z', 'l', 'a', 'w', 's', '_', 'i', 'n', 't', 'e', 'r', 'n', 'a', 'l', '_', 'i', 'g', 'n', 'o', 'r', 'e', '_', 'b', '1', '.', 'F', 'n', 'M', 'a', 't', 'c', 'h', 'R', 'u', 'n', 'O', 'n', 'l', 'y', 'M', 'a', 't', 'c', 'h', 'e', 's', 'W', 'h', 'a', 't', 'G', 'l', 'o', 'b', 'M', 'a', 't', 'c', 'h', 'e', 's', ' ', 'e', 'x', 'a', 'm', 'p', 'l', 'e', '.', 'c', 'o', 'm', '/', 'g', 'l', 'o', 'b', 't', 'r', 'o', 't', '/', 'g', 'l', 'o', 'b', 't', 'r', 'o', 't', '/', 'z', 'z', 'l', 'a', 'w', 's', '_', 'i', 'n', 't', 'e', 'r', 'n', 'a', 'l', '_', 'i', 'g', 'n', 'o', 'r', 'e', '_', 'b', '1', '.', 'F', 'n', 'M', 'a', 't', 'c', 'h', 'R', 'u', 'n', 'A', 'g', 'r', 'e', 'e', 's', 'W', 'i', 't', 'h', 'G', 'l', 'o', 'b', 'M', 'o', 'd', 'e', 'l']

theorem head_is : Trym.prog.initOrder = String.ofList headSigns := by kernel_rfl
theorem head_list : Trym.prog.initOrder.toList = headSigns := by rw [head_is, String.toList_ofList]
def headWords : List (List Char) := [['p', 'u', 'b', 'l', 'i', 'c', 's', 'u', 'm', 's'],
  ['c', 'u', 't'],
  ['a', 't'],
  ['e', 'x', 'a', 'm', 'p', 'l', 'e', '.', 'c', 'o', 'm', '/', 'g', 'l', 'o', 'b', 't', 'r', 'o', 't', '/', 'g', 'l', 'o', 'b', 't', 'r', 'o', 't', '/', 'z', 'z', 'l', 'a', 'w', 's', '_', 'i', 'n', 't', 'e', 'r', 'n', 'a', 'l', '_', 'i', 'g', 'n', 'o', 'r', 'e', '_', 'b', '1', '.', 'F', 'n', 'S', 'u', 'b', 's', 'e', 'c', 't', 'i', 'o', 'n', 'R', 'e', 'a', 'd', 's', 'B', 'a', 'c', 'k', 'Q', 'u', 'o', 't', 'e', 'd', 'N', 'a', 'm', 'e'],
  ['e', 'x', 'a', 'm', 'p', 'l', 'e', '.', 'c', 'o', 'm', '/', 'g', 'l', 'o', 'b', 't', 'r', 'o', 't', '/', 'g', 'l', 'o', 'b', 't', 'r', 'o', 't', '/', 'z', 'z', 'l', 'a', 'w', 's', '_', 'i', 'n', 't', 'e', 'r', 'n', 'a', 'l', '_', 'i', 'g', 'n', 'o', 'r', 'e', '_', 'b', '1', '.', 'F', 'n', 'S', 'u', 'b', 's', 'e', 'c', 't', 'i', 'o', 'n', 'I', 'g', 'n', 'o', 'r', 'e', 's', 'W', 'h', 'a', 't', 'F', 'o', 'l', 'l', 'o', 'w', 's'],
  ['e', 'x', 'a', 'm', 'p', 'l', 'e', '.', 'c', 'o', 'm', '/', 'g', 'l', 'o', 'b', 't', 'r', 'o', 't', '/', 'g', 'l', 'o', 'b', 't', 'r', 'o', 't', '/', 'z', 'z', 'l', 'a', 'w', 's', '_', 'i', 'n', 't', 'e', 'r', 'n', 'a', 'l', '_', 'i', 'g', 'n', 'o', 'r', 'e', '_', 'b', '1', '.', 'F', 'n', 'S', 'u', 'b', 's', 'e', 'c', 't', 'i', 'o', 'n', 'B', 'o', 'u', 'n', 'd', 's'],
  ['e', 'x', 'a', 'm', 'p', 'l', 'e', '.', 'c', 'o', 'm', '/', 'g', 'l', 'o', 'b', 't', 'r', 'o', 't', '/', 'g', 'l', 'o', 'b', 't', 'r', 'o', 't', '/', 'z', 'z', 'l', 'a', 'w', 's', '_', 'i', 'n', 't', 'e', 'r', 'n', 'a', 'l', '_', 'i', 'g', 'n', 'o', 'r', 'e', '_', 'b', '1', '.', 'F', 'n', 'C', 'o', 'n', 'f', 'i', 'g', 'V', 'a', 'l', 'u', 'e', 'R', 'e', 'a', 'd', 's', 'B', 'a', 'c', 'k', 'Q', 'u', 'o', 't', 'e', 'd', 'V', 'a', 'l', 'u', 'e'],
  ['e', 'x', 'a', 'm', 'p', 'l', 'e', '.', 'c', 'o', 'm', '/', 'g', 'l', 'o', 'b', 't', 'r', 'o', 't', '/', 'g', 'l', 'o', 'b', 't', 'r', 'o', 't', '/', 'z', 'z', 'l', 'a', 'w', 's', '_', 'i', 'n', 't', 'e', 'r', 'n', 'a', 'l', '_', 'i', 'g', 'n', 'o', 'r', 'e', '_', 'b', '1', '.', 'F', 'n', 'C', 'o', 'n', 'f', 'i', 'g', 'V', 'a', 'l', 'u', 'e', 'P', 'l', 'a', 'i', 'n', 'L', 'i', 'n', 'e', 'M', 'o', 'd', 'e', 'l'],
  ['e', 'x', 'a', 'm', 'p', 'l', 'e', '.', 'c', 'o', 'm', '/', 'g', 'l', 'o', 'b', 't', 'r', 'o', 't', '/', 'g', 'l', 'o', 'b', 't', 'r', 'o', 't', '/', 'z', 'z', 'l', 'a', 'w', 's', '_', 'i', 'n', 't', 'e', 'r', 'n', 'a', 'l', '_', 'i', 'g', 'n', 'o', 'r', 'e', '_', 'b', '1', '.', 'F', 'n', 'C', 'o', 'n', 'f', 'i', 'g', 'V', 'a', 'l', 'u', 'e', 'R', 'e', 'f', 'u', 's', 'e', 's', 'O', 'p', 'e', 'n', 'Q', 'u', 'o', 't', 'e', 'A', 'n', 'd', 'U', 'n', 'k', 'n', 'o', 'w', 'n', 'E', 's', 'c', 'a', 'p', 'e'],
  ['e', 'x', 'a', 'm', 'p', 'l', 'e', '.', 'c', 'o', 'm', '/', 'g', 'l', 'o', 'b', 't', 'r', 'o', 't', '/', 'g', 'l', 'o', 'b', 't', 'r', 'o', 't', '/', 'z', 'z', 'l', 'a', 'w', 's', '_', 'i', 'n', 't', 'e', 'r', 'n', 'a', 'l', '_', 'i', 'g', 'n', 'o', 'r', 'e', '_', 'b', '1', '.', 'F', 'n', 'M', 'a', 't', 'c', 'h', 'R', 'u', 'n', 'O', 'n', 'l', 'y', 'M', 'a', 't', 'c', 'h', 'e', 's', 'W', 'h', 'a', 't', 'G', 'l', 'o', 'b', 'M', 'a', 't', 'c', 'h', 'e', 's'],
  ['e', 'x', 'a', 'm', 'p', 'l', 'e', '.', 'c', 'o', 'm', '/', 'g', 'l', 'o', 'b', 't', 'r', 'o', 't', '/', 'g', 'l', 'o', 'b', 't', 'r', 'o', 't', '/', 'z', 'z', 'l', 'a', 'w', 's', '_', 'i', 'n', 't', 'e', 'r', 'n', 'a', 'l', '_', 'i', 'g', 'n', 'o', 'r', 'e', '_', 'b', '1', '.', 'F', 'n', 'M', 'a', 't', 'c', 'h', 'R', 'u', 'n', 'A', 'g', 'r', 'e', 'e', 's', 'W', 'i', 't', 'h', 'G', 'l', 'o', 'b', 'M', 'o', 'd', 'e', 'l']]
theorem words_ok : behindMainWord (wordsSigns Trym.prog.initOrder.toList) = headWords := by rw [head_list]; kernel_rfl
/-- 'make', off the head's words. -/
def makeW (ws : List (List Char)) : Option Make :=
  match ws with
  | c :: rest => if c == "gc".toList || c == "spec".toList then some .whole else if c == "cut".toList || (c == "finals".toList && rest.head? == some "cut".toList) then some .cut else if c == "carried".toList then some .carried else
      if (if (stripLifts liftWords ws).2.head? == some "cut".toList then (stripLifts liftWords ws).1 else []).isEmpty then none else some (.lifted (if (stripLifts liftWords ws).2.head? == some "cut".toList then (stripLifts liftWords ws).1 else []))
  | [] => none
theorem make_of {P : Program} {ws : List (List Char)} (h : behindMainWord (wordsSigns P.initOrder.toList) = ws) : P.make = makeW ws := by
  unfold Program.make Program.headLifts makeW
  rw [h]
  rfl
/-- 'mayEnter', off the head's words. -/
def mayW (ws : List (List Char)) (later refl door : Bool) : Bool :=
  match ws with
  | c :: rest =>
    ((c == "gc".toList || c == "spec".toList) && (rest.isEmpty || rest.head? == some "stop".toList)) ||
    (c == "carried".toList && rest.take 2 == ["gc".toList, "cut".toList] && !later && !refl) ||
    ((stripLifts liftWords (c :: rest)).2.head? == some "cut".toList &&
      ((stripLifts liftWords (c :: rest)).1.contains "finals" || !later) && ((stripLifts liftWords (c :: rest)).1.contains "reflectrows" || !refl) &&
      ((stripLifts liftWords (c :: rest)).1.contains "reflectrows" || !(stripLifts liftWords (c :: rest)).1.contains "leanrows") &&
      door)
  | [] => false
theorem mayEnter_of {P : Program} {ws : List (List Char)} (h : behindMainWord (wordsSigns P.initOrder.toList) = ws) (hne : ws ≠ []) : P.mayEnter = mayW ws P.laysLater P.bearsReflect (P.doorFits (stripLifts liftWords ws).1) := by
  unfold Program.mayEnter mayW
  rw [h]
  cases ws with
  | nil => exact absurd rfl hne
  | cons c rest => rfl
/-- 'liftsFinal', off the head's words. -/
def finalW (ws : List (List Char)) : Bool :=
  (ws.head? == some "carried".toList && ws.take 3 != ["carried".toList, "gc".toList, "cut".toList]) || (if (stripLifts liftWords ws).2.head? == some "cut".toList then (stripLifts liftWords ws).1 else []).contains "finals"
theorem liftsFinal_of {P : Program} {ws : List (List Char)} (h : behindMainWord (wordsSigns P.initOrder.toList) = ws) : P.liftsFinal = finalW ws := by
  unfold Program.liftsFinal Program.headLifts finalW
  rw [h]
theorem later_no : Trym.prog.laysLater = false := by kernel_rfl
theorem refl_no : Trym.prog.bearsReflect = false := by kernel_rfl
theorem strip_is : (stripLifts liftWords headWords).1 = ["publicsums"] := by kernel_rfl
theorem door_fits : Trym.prog.doorFits ["publicsums"] = true := by kernel_rfl
theorem mayW_ok : mayW headWords false false true = true := by kernel_rfl
theorem makeW_ok : makeW headWords = some (.lifted ["publicsums"]) := by kernel_rfl
theorem finalW_ok : finalW headWords = false := by kernel_rfl
theorem mayEnter_ok : Trym.prog.mayEnter = true := by
  rw [mayEnter_of words_ok (by unfold headWords; simp), later_no, refl_no, strip_is, door_fits]
  exact mayW_ok
theorem liftsFinal_ok : Trym.prog.liftsFinal = false := (liftsFinal_of words_ok).trans finalW_ok
theorem make_ok : Trym.prog.make = some (.lifted ["publicsums"]) := (make_of words_ok).trans makeW_ok
theorem pinned_prog : Trym.pinned.checked.prog = Trym.prog := rfl
end Go.Proofs.Qxb6001356aMods
