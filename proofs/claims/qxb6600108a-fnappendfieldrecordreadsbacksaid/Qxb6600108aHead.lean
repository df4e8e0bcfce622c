import Derived.Test.Qxb6600108aRows
import Derived.JoinedOf
namespace Go.Proofs.Qxb6600108a
set_option linter.unusedVariables false

/-- The words of the program's head. -/
def headW : List (List Char) := [
  ['h', 'a', 'r', 'n', 'e', 's', 's'],
  ['a', '3', 'f', '4', '9', '7', '4', '9', '8', 'c', '7', 'b', 'a', '8', 'b', 'd', '0', '6', 'b', '8', '5', '4', 'b', 'b', 'f', '0', 'a', 'd', '8', '7', 'e', '1', 'e', '5', 'd', '4', 'e', 'e', '1', '9', '8', '8', 'e', '3', 'a', '6', '9', '0', 'e', '0', '2', 'b', '2', '1', '4', 'c', '3', '9', '5', 'd', '4', '2', '2', 'a'],
  ['c', 'u', 't'],
  ['a', 't'],
  ['e', 'x', 'a', 'm', 'p', 'l', 'e', '.', 'c', 'o', 'm', '/', 'v', 'e', 's', 't', 'l', 'e', 'd', 'g', 'e', 'r', '/', 'v', 'e', 's', 't', 'l', 'e', 'd', 'g', 'e', 'r', '/', 'z', 'z', 'l', 'a', 'w', 's', '_', 'r', 'e', 'p', 'o', 'r', 't', '_', 'b', '1', '.', 'F', 'n', 'A', 'p', 'p', 'e', 'n', 'd', 'I', 'n', 'd', 'e', 'n', 't', 'e', 'd', 'C', 'o', 'm', 'p', 'a', 'c', 't', 's', 'B', 'a', 'c', 'k'],
  ['e', 'x', 'a', 'm', 'p', 'l', 'e', '.', 'c', 'o', 'm', '/', 'v', 'e', 's', 't', 'l', 'e', 'd', 'g', 'e', 'r', '/', 'v', 'e', 's', 't', 'l', 'e', 'd', 'g', 'e', 'r', '/', 'z', 'z', 'l', 'a', 'w', 's', '_', 'r', 'e', 'p', 'o', 'r', 't', '_', 'b', '1', '.', 'F', 'n', 'A', 'p', 'p', 'e', 'n', 'd', 'I', 'n', 'd', 'e', 'n', 't', 'e', 'd', 'K', 'e', 'e', 'p', 's', 'D', 's', 't'],
  ['e', 'x', 'a', 'm', 'p', 'l', 'e', '.', 'c', 'o', 'm', '/', 'v', 'e', 's', 't', 'l', 'e', 'd', 'g', 'e', 'r', '/', 'v', 'e', 's', 't', 'l', 'e', 'd', 'g', 'e', 'r', '/', 'z', 'z', 'l', 'a', 'w', 's', '_', 'r', 'e', 'p', 'o', 'r', 't', '_', 'b', '1', '.', 'F', 'n', 'A', 'p', 'p', 'e', 'n', 'd', 'I', 'n', 'd', 'e', 'n', 't', 'e', 'd', 'P', 'r', 'e', 'f', 'i', 'x', 'A', 'f', 't', 'e', 'r', 'N', 'e', 'w', 'l', 'i', 'n', 'e', 's'],
  ['e', 'x', 'a', 'm', 'p', 'l', 'e', '.', 'c', 'o', 'm', '/', 'v', 'e', 's', 't', 'l', 'e', 'd', 'g', 'e', 'r', '/', 'v', 'e', 's', 't', 'l', 'e', 'd', 'g', 'e', 'r', '/', 'z', 'z', 'l', 'a', 'w', 's', '_', 'r', 'e', 'p', 'o', 'r', 't', '_', 'b', '1', '.', 'F', 'n', 'A', 'p', 'p', 'e', 'n', 'd', 'F', 'i', 'e', 'l', 'd', 'R', 'e', 'a', 'd', 's', 'B', 'a', 'c', 'k'],
  ['e', 'x', 'a', 'm', 'p', 'l', 'e', '.', 'c', 'o', 'm', '/', 'v', 'e', 's', 't', 'l', 'e', 'd', 'g', 'e', 'r', '/', 'v', 'e', 's', 't', 'l', 'e', 'd', 'g', 'e', 'r', '/', 'z', 'z', 'l', 'a', 'w', 's', '_', 'r', 'e', 'p', 'o', 'r', 't', '_', 'b', '1', '.', 'F', 'n', 'A', 'p', 'p', 'e', 'n', 'd', 'F', 'i', 'e', 'l', 'd', 'R', 'e', 'c', 'o', 'r', 'd', 'R', 'e', 'a', 'd', 's', 'B', 'a', 'c', 'k'],
  ['e', 'x', 'a', 'm', 'p', 'l', 'e', '.', 'c', 'o', 'm', '/', 'v', 'e', 's', 't', 'l', 'e', 'd', 'g', 'e', 'r', '/', 'v', 'e', 's', 't', 'l', 'e', 'd', 'g', 'e', 'r', '/', 'z', 'z', 'l', 'a', 'w', 's', '_', 'r', 'e', 'p', 'o', 'r', 't', '_', 'b', '1', '.', 'F', 'n', 'A', 'p', 'p', 'e', 'n', 'd', 'F', 'i', 'e', 'l', 'd', 'K', 'e', 'e', 'p', 's', 'D', 's', 't']]
def joinS : List (List Char) → List Char
  | [] => []
  | [w] => w
  | w :: v :: ws => w ++ ' ' :: joinS (v :: ws)

theorem words_one : ∀ w : List Char, ' ' ∉ w → wordsSigns w = [w]
  | [], _ => rfl
  | c :: t, h => by
    have hc : c = ' ' → False := fun e => h (by rw [e]; exact List.mem_cons_self)
    rw [wordsSigns.eq_3 c t hc, words_one t (fun h2 => h (List.mem_cons_of_mem _ h2))]
theorem words_cons (r : List Char) : ∀ w : List Char, ' ' ∉ w → wordsSigns (w ++ ' ' :: r) = w :: wordsSigns r
  | [], _ => rfl
  | c :: t, h => by
    have hc : c = ' ' → False := fun e => h (by rw [e]; exact List.mem_cons_self)
    show wordsSigns (c :: (t ++ ' ' :: r)) = _
    rw [wordsSigns.eq_3 c _ hc, words_cons r t (fun h2 => h (List.mem_cons_of_mem _ h2))]
theorem words_join : ∀ W : List (List Char), W ≠ [] → (∀ w ∈ W, ' ' ∉ w) → wordsSigns (joinS W) = W
  | [], h, _ => absurd rfl h
  | [w], _, h => words_one w (h w (by simp))
  | w :: v :: ws, _, h => by
    show wordsSigns (w ++ ' ' :: joinS (v :: ws)) = _
    rw [words_cons _ w (h w (by simp)), words_join (v :: ws) (by simp) (fun x hx => h x (List.mem_cons_of_mem _ hx))]

theorem head_eq : Try.prog.initOrder = String.ofList (joinS headW) := by kernel_rfl
theorem head_clean : (headW.all fun w => w.all fun c => c != ' ') = true := by kernel_rfl
theorem head_words : wordsSigns Try.prog.initOrder.toList = headW := by
  rw [head_eq, String.toList_ofList]
  refine words_join headW (by simp [headW]) (fun w hw hm => ?_)
  have h := List.all_eq_true.1 (List.all_eq_true.1 head_clean w hw) ' ' hm
  simp at h

/-- What the head of a plain cut says, over any program (so that the kernel need not open this one). -/
theorem make_cut (P : Program) (rest : List (List Char)) (h : behindMainWord (wordsSigns P.initOrder.toList) = ['c', 'u', 't'] :: rest) : P.make = some .cut := by
  unfold Program.make
  rw [h]
  have t1 : (['c', 'u', 't'] == "gc".toList) = false := by kernel_rfl
  have t2 : (['c', 'u', 't'] == "spec".toList) = false := by kernel_rfl
  have t3 : (['c', 'u', 't'] == "cut".toList) = true := by kernel_rfl
  simp only [t1, t2, t3, Bool.or_false, Bool.true_or, if_true, Bool.false_eq_true, if_false]
theorem strip_cut (rest : List (List Char)) : stripLifts liftWords (['c', 'u', 't'] :: rest) = ([], ['c', 'u', 't'] :: rest) := by kernel_rfl
theorem may_cut (P : Program) (rest : List (List Char)) (h : behindMainWord (wordsSigns P.initOrder.toList) = ['c', 'u', 't'] :: rest) (h1 : P.laysLater = false) (h2 : P.bearsReflect = false) (h3 : P.doorFits [] = true) : P.mayEnter = true := by
  unfold Program.mayEnter
  rw [h]
  have t3 : (['c', 'u', 't'] == "cut".toList) = true := by kernel_rfl
  have t4 : ((some ['c', 'u', 't'] : Option (List Char)) == some "cut".toList) = true := by kernel_rfl
  simp only [strip_cut, h1, h2, h3, List.head?_cons, t4, List.contains_nil, Bool.not_false, Bool.or_true, Bool.and_true]

theorem head_cut : behindMainWord (wordsSigns Try.prog.initOrder.toList) = ['c', 'u', 't'] :: headW.drop 3 := by
  rw [head_words]; kernel_rfl
theorem mayE : Try.prog.mayEnter = true := may_cut _ _ head_cut (by kernel_rfl) (by kernel_rfl) (by kernel_rfl)
theorem makeE : Try.prog.make = some .cut := make_cut _ _ head_cut
set_option maxRecDepth 100000 in
theorem liftsE : Try.prog.liftsFinal = false := by
  unfold Program.liftsFinal Program.headLifts
  rw [head_words]
  kernel_rfl
end Go.Proofs.Qxb6600108a
