import Derived.Test.Qxb6600068aRows
import Derived.JoinedOf
namespace Go.Proofs.Qxb6600068a
set_option linter.unusedVariables false

/-- The words of the program's head. -/
def headW : List (List Char) := [
  ['h', 'a', 'r', 'n', 'e', 's', 's'],
  ['d', 'a', 'e', 'e', '6', 'e', 'e', 'f', '1', '2', '0', 'c', 'f', 'f', '5', '7', 'b', '3', 'a', 'f', 'f', '4', 'e', 'd', 'd', '1', '7', '2', '2', '6', '2', 'c', 'a', '5', '8', '7', '6', '4', 'd', 'c', 'e', '3', 'f', '5', 'b', 'f', 'd', 'f', 'd', 'c', '4', '3', 'd', 'e', 'a', '0', '4', '3', '1', '7', '9', 'e', '8', '7'],
  ['c', 'u', 't'],
  ['a', 't'],
  ['e', 'x', 'a', 'm', 'p', 'l', 'e', '.', 'c', 'o', 'm', '/', 'd', 'i', 'a', 'l', 'e', 'c', 't', '-', 'b', 'r', 'i', 'd', 'g', 'e', '/', 'd', 'i', 'a', 'l', 'e', 'c', 't', '-', 'b', 'r', 'i', 'd', 'g', 'e', '/', 'z', 'z', 'l', 'a', 'w', 's', '_', 'i', 'n', 't', 'e', 'r', 'n', 'a', 'l', '_', 'j', 's', 'o', 'n', 'r', 'e', 'a', 'd', '_', 'b', '1', '.', 'F', 'n', 'N', 'u', 'm', 'b', 'e', 'r', 'A', 'f', 't', 'e', 'r', 'A', 'g', 'r', 'e', 'e', 's', 'W', 'i', 't', 'h', 'G', 'r', 'a', 'm', 'm', 'a', 'r', 'A', 'u', 't', 'o', 'm', 'a', 't', 'o', 'n'],
  ['e', 'x', 'a', 'm', 'p', 'l', 'e', '.', 'c', 'o', 'm', '/', 'd', 'i', 'a', 'l', 'e', 'c', 't', '-', 'b', 'r', 'i', 'd', 'g', 'e', '/', 'd', 'i', 'a', 'l', 'e', 'c', 't', '-', 'b', 'r', 'i', 'd', 'g', 'e', '/', 'z', 'z', 'l', 'a', 'w', 's', '_', 'i', 'n', 't', 'e', 'r', 'n', 'a', 'l', '_', 'j', 's', 'o', 'n', 'r', 'e', 'a', 'd', '_', 'b', '1', '.', 'F', 'n', 'N', 'u', 'm', 'b', 'e', 'r', 'A', 'f', 't', 'e', 'r', 'D', 'e', 'p', 'e', 'n', 'd', 's', 'O', 'n', 'l', 'y', 'O', 'n', 'W', 'h', 'a', 't', 'F', 'o', 'l', 'l', 'o', 'w', 's'],
  ['e', 'x', 'a', 'm', 'p', 'l', 'e', '.', 'c', 'o', 'm', '/', 'd', 'i', 'a', 'l', 'e', 'c', 't', '-', 'b', 'r', 'i', 'd', 'g', 'e', '/', 'd', 'i', 'a', 'l', 'e', 'c', 't', '-', 'b', 'r', 'i', 'd', 'g', 'e', '/', 'z', 'z', 'l', 'a', 'w', 's', '_', 'i', 'n', 't', 'e', 'r', 'n', 'a', 'l', '_', 'j', 's', 'o', 'n', 'r', 'e', 'a', 'd', '_', 'b', '1', '.', 'F', 'n', 'N', 'u', 'm', 'b', 'e', 'r', 'A', 'f', 't', 'e', 'r', 'E', 'n', 'd', 's', 'W', 'h', 'e', 'r', 'e', 'I', 't', 's', 'T', 'e', 'x', 't', 'E', 'n', 'd', 's'],
  ['e', 'x', 'a', 'm', 'p', 'l', 'e', '.', 'c', 'o', 'm', '/', 'd', 'i', 'a', 'l', 'e', 'c', 't', '-', 'b', 'r', 'i', 'd', 'g', 'e', '/', 'd', 'i', 'a', 'l', 'e', 'c', 't', '-', 'b', 'r', 'i', 'd', 'g', 'e', '/', 'z', 'z', 'l', 'a', 'w', 's', '_', 'i', 'n', 't', 'e', 'r', 'n', 'a', 'l', '_', 'j', 's', 'o', 'n', 'r', 'e', 'a', 'd', '_', 'b', '1', '.', 'F', 'n', 'H', 'e', 'x', '4', 'R', 'e', 'a', 'd', 's', 'B', 'a', 'c', 'k', 'T', 'h', 'e', 'D', 'i', 'g', 'i', 't', 's', 'W', 'r', 'i', 't', 't', 'e', 'n'],
  ['e', 'x', 'a', 'm', 'p', 'l', 'e', '.', 'c', 'o', 'm', '/', 'd', 'i', 'a', 'l', 'e', 'c', 't', '-', 'b', 'r', 'i', 'd', 'g', 'e', '/', 'd', 'i', 'a', 'l', 'e', 'c', 't', '-', 'b', 'r', 'i', 'd', 'g', 'e', '/', 'z', 'z', 'l', 'a', 'w', 's', '_', 'i', 'n', 't', 'e', 'r', 'n', 'a', 'l', '_', 'j', 's', 'o', 'n', 'r', 'e', 'a', 'd', '_', 'b', '1', '.', 'F', 'n', 'H', 'e', 'x', '4', 'O', 'f', 'H', 'e', 'x', 'D', 'i', 'g', 'i', 't', 's', 'E', 'n', 'c', 'o', 'd', 'e', 's', 'B', 'a', 'c', 'k', 'T', 'o', 'T', 'h', 'e', 'm'],
  ['e', 'x', 'a', 'm', 'p', 'l', 'e', '.', 'c', 'o', 'm', '/', 'd', 'i', 'a', 'l', 'e', 'c', 't', '-', 'b', 'r', 'i', 'd', 'g', 'e', '/', 'd', 'i', 'a', 'l', 'e', 'c', 't', '-', 'b', 'r', 'i', 'd', 'g', 'e', '/', 'z', 'z', 'l', 'a', 'w', 's', '_', 'i', 'n', 't', 'e', 'r', 'n', 'a', 'l', '_', 'j', 's', 'o', 'n', 'r', 'e', 'a', 'd', '_', 'b', '1', '.', 'F', 'n', 'S', 't', 'r', 'i', 'n', 'g', 'E', 'n', 'd', 'A', 'g', 'r', 'e', 'e', 's', 'W', 'i', 't', 'h', 'E', 's', 'c', 'a', 'p', 'e', 'S', 'c', 'a', 'n', 'n', 'e', 'r'],
  ['e', 'x', 'a', 'm', 'p', 'l', 'e', '.', 'c', 'o', 'm', '/', 'd', 'i', 'a', 'l', 'e', 'c', 't', '-', 'b', 'r', 'i', 'd', 'g', 'e', '/', 'd', 'i', 'a', 'l', 'e', 'c', 't', '-', 'b', 'r', 'i', 'd', 'g', 'e', '/', 'z', 'z', 'l', 'a', 'w', 's', '_', 'i', 'n', 't', 'e', 'r', 'n', 'a', 'l', '_', 'j', 's', 'o', 'n', 'r', 'e', 'a', 'd', '_', 'b', '1', '.', 'F', 'n', 'S', 't', 'r', 'i', 'n', 'g', 'E', 'n', 'd', 'I', 's', 'F', 'i', 'x', 'e', 'd', 'B', 'y', 'T', 'h', 'e', 'B', 'y', 't', 'e', 's', 'U', 'p', 'T', 'o', 'I', 't'],
  ['e', 'x', 'a', 'm', 'p', 'l', 'e', '.', 'c', 'o', 'm', '/', 'd', 'i', 'a', 'l', 'e', 'c', 't', '-', 'b', 'r', 'i', 'd', 'g', 'e', '/', 'd', 'i', 'a', 'l', 'e', 'c', 't', '-', 'b', 'r', 'i', 'd', 'g', 'e', '/', 'z', 'z', 'l', 'a', 'w', 's', '_', 'i', 'n', 't', 'e', 'r', 'n', 'a', 'l', '_', 'j', 's', 'o', 'n', 'r', 'e', 'a', 'd', '_', 'b', '1', '.', 'F', 'n', 'S', 't', 'r', 'i', 'n', 'g', 'E', 'n', 'd', 'F', 'i', 'n', 'd', 's', 'T', 'h', 'e', 'Q', 'u', 'o', 't', 'e', 'A', 'n', 'E', 'n', 'c', 'o', 'd', 'e', 'r', 'C', 'l', 'o', 's', 'e', 's']]
def joinS : List (List Char) → List Char
  | [] => []
  | [w] => w
  | w :: v :: ws => w ++ ' ' :: joinS (v :: ws)

theorem words_one : ∀ w : List Char, ' ' ∉ w → wordsSigns w = [w]
  | [], _ => rfl
  | c :: t, h => by
    have hc : c = ' ' → False := fun e => h (by rw [e]; exact List.mem_cons_self)
    rw [wordsSigns.eq_3 c t hc, words_one t (fun h2 => h (List.mem_cons_of_mem _ h2))]
theorem words_cons (r : List Char) : ∀ w : List Char, ' ' ∉ w → wordsSigns (w ++ ' ' :: r) = w :: wordsSigns r
  | [], _ => rfl
  | c :: t, h => by
    have hc : c = ' ' → False := fun e => h (by rw [e]; exact List.mem_cons_self)
    show wordsSigns (c :: (t ++ ' ' :: r)) = _
    rw [wordsSigns.eq_3 c _ hc, words_cons r t (fun h2 => h (List.mem_cons_of_mem _ h2))]
theorem words_join : ∀ W : List (List Char), W ≠ [] → (∀ w ∈ W, ' ' ∉ w) → wordsSigns (joinS W) = W
  | [], h, _ => absurd rfl h
  | [w], _, h => words_one w (h w (by simp))
  | w :: v :: ws, _, h => by
    show wordsSigns (w ++ ' ' :: joinS (v :: ws)) = _
    rw [words_cons _ w (h w (by simp)), words_join (v :: ws) (by simp) (fun x hx => h x (List.mem_cons_of_mem _ hx))]

theorem head_eq : Try.prog.initOrder = String.ofList (joinS headW) := by kernel_rfl
theorem head_clean : (headW.all fun w => w.all fun c => c != ' ') = true := by kernel_rfl
theorem head_words : wordsSigns Try.prog.initOrder.toList = headW := by
  rw [head_eq, String.toList_ofList]
  refine words_join headW (by simp [headW]) (fun w hw hm => ?_)
  have h := List.all_eq_true.1 (List.all_eq_true.1 head_clean w hw) ' ' hm
  simp at h

/-- What the head of a plain cut says, over any program (so that the kernel need not open this one). -/
theorem make_cut (P : Program) (rest : List (List Char)) (h : behindMainWord (wordsSigns P.initOrder.toList) = ['c', 'u', 't'] :: rest) : P.make = some .cut := by
  unfold Program.make
  rw [h]
  have t1 : (['c', 'u', 't'] == "gc".toList) = false := by kernel_rfl
  have t2 : (['c', 'u', 't'] == "spec".toList) = false := by kernel_rfl
  have t3 : (['c', 'u', 't'] == "cut".toList) = true := by kernel_rfl
  simp only [t1, t2, t3, Bool.or_false, Bool.true_or, if_true, Bool.false_eq_true, if_false]
theorem strip_cut (rest : List (List Char)) : stripLifts liftWords (['c', 'u', 't'] :: rest) = ([], ['c', 'u', 't'] :: rest) := by kernel_rfl
theorem may_cut (P : Program) (rest : List (List Char)) (h : behindMainWord (wordsSigns P.initOrder.toList) = ['c', 'u', 't'] :: rest) (h1 : P.laysLater = false) (h2 : P.bearsReflect = false) (h3 : P.doorFits [] = true) : P.mayEnter = true := by
  unfold Program.mayEnter
  rw [h]
  have t3 : (['c', 'u', 't'] == "cut".toList) = true := by kernel_rfl
  have t4 : ((some ['c', 'u', 't'] : Option (List Char)) == some "cut".toList) = true := by kernel_rfl
  simp only [strip_cut, h1, h2, h3, List.head?_cons, t4, List.contains_nil, Bool.not_false, Bool.or_true, Bool.and_true]

theorem head_cut : behindMainWord (wordsSigns Try.prog.initOrder.toList) = ['c', 'u', 't'] :: headW.drop 3 := by
  rw [head_words]; kernel_rfl
theorem mayE : Try.prog.mayEnter = true := may_cut _ _ head_cut (by kernel_rfl) (by kernel_rfl) (by kernel_rfl)
theorem makeE : Try.prog.make = some .cut := make_cut _ _ head_cut
set_option maxRecDepth 100000 in
theorem liftsE : Try.prog.liftsFinal = false := by
  unfold Program.liftsFinal Program.headLifts
  rw [head_words]
  kernel_rfl
end Go.Proofs.Qxb6600068a
