import Derived.Test.Qxb6000643aModsRows
import Derived.WalkKit
import Derived.ProofKit
namespace Go.Proofs.Qxb6000643aMods.Facts

/-! The closed facts of a row that read the head of the program (its first words): reckoned in the kernel at one go each wants more than 10 GB. Here the head's text is opened by its list of signs, and only its first four words are looked at. -/
theorem signs_of {s : String} {l : List Char} (h : s = String.ofList l) : s.toList = l := by rw [h]; exact String.toList_ofList

set_option maxRecDepth 100000 in
/-- The head of the program: its first four words; the rest is left open. -/
theorem headOpen : ∃ t, Trym.checked.prog.initOrder = String.ofList ('h' :: 'a' :: 'r' :: 'n' :: 'e' :: 's' :: 's' :: ' ' :: '8' :: 'a' :: '4' :: '1' :: 'f' :: '7' :: '6' :: '0' :: 'b' :: '7' :: 'e' :: '9' :: 'd' :: 'd' :: '7' :: 'e' :: 'c' :: '5' :: 'c' :: '1' :: 'c' :: '8' :: '6' :: '5' :: '4' :: '1' :: 'a' :: '0' :: '8' :: 'b' :: '4' :: '8' :: '7' :: '1' :: 'a' :: '8' :: '6' :: '5' :: '4' :: '3' :: '3' :: '2' :: 'c' :: 'b' :: '0' :: '3' :: '4' :: 'c' :: 'd' :: '7' :: '6' :: 'f' :: '9' :: 'd' :: '0' :: '0' :: '9' :: '8' :: '6' :: '1' :: '9' :: 'a' :: 'b' :: '4' :: ' ' :: 'p' :: 'u' :: 'b' :: 'l' :: 'i' :: 'c' :: 's' :: 'u' :: 'm' :: 's' :: ' ' :: 'c' :: 'u' :: 't' :: ' ' :: t) := by
  have h : Trym.checked.prog.initOrder = String.ofList _ := rfl
  exact ⟨_, h⟩

theorem headWords (t : List Char) : behindMainWord (wordsSigns ('h' :: 'a' :: 'r' :: 'n' :: 'e' :: 's' :: 's' :: ' ' :: '8' :: 'a' :: '4' :: '1' :: 'f' :: '7' :: '6' :: '0' :: 'b' :: '7' :: 'e' :: '9' :: 'd' :: 'd' :: '7' :: 'e' :: 'c' :: '5' :: 'c' :: '1' :: 'c' :: '8' :: '6' :: '5' :: '4' :: '1' :: 'a' :: '0' :: '8' :: 'b' :: '4' :: '8' :: '7' :: '1' :: 'a' :: '8' :: '6' :: '5' :: '4' :: '3' :: '3' :: '2' :: 'c' :: 'b' :: '0' :: '3' :: '4' :: 'c' :: 'd' :: '7' :: '6' :: 'f' :: '9' :: 'd' :: '0' :: '0' :: '9' :: '8' :: '6' :: '1' :: '9' :: 'a' :: 'b' :: '4' :: ' ' :: 'p' :: 'u' :: 'b' :: 'l' :: 'i' :: 'c' :: 's' :: 'u' :: 'm' :: 's' :: ' ' :: 'c' :: 'u' :: 't' :: ' ' :: t)) = ['p', 'u', 'b', 'l', 'i', 'c', 's', 'u', 'm', 's'] :: ['c', 'u', 't'] :: wordsSigns t := by kernel_rfl

theorem headIs : ∃ ws, behindMainWord (wordsSigns Trym.checked.prog.initOrder.toList) = ['p', 'u', 'b', 'l', 'i', 'c', 's', 'u', 'm', 's'] :: ['c', 'u', 't'] :: ws := by
  obtain ⟨t, ht⟩ := headOpen
  refine ⟨wordsSigns t, ?_⟩
  rw [signs_of ht]
  exact headWords t

/-! Three facts that hang on those words, of whatever program. -/
theorem lifts_fst (ws : List (List Char)) : (stripLifts liftWords (['p', 'u', 'b', 'l', 'i', 'c', 's', 'u', 'm', 's'] :: ['c', 'u', 't'] :: ws)).1 = ["publicsums"] := by kernel_rfl
theorem lifts_snd (ws : List (List Char)) : (stripLifts liftWords (['p', 'u', 'b', 'l', 'i', 'c', 's', 'u', 'm', 's'] :: ['c', 'u', 't'] :: ws)).2.head? = some ['c', 'u', 't'] := by kernel_rfl

theorem mayEnter_of (Q : Program) (ws : List (List Char)) (h : behindMainWord (wordsSigns Q.initOrder.toList) = ['p', 'u', 'b', 'l', 'i', 'c', 's', 'u', 'm', 's'] :: ['c', 'u', 't'] :: ws) (h1 : Q.laysLater = false) (h2 : Q.bearsReflect = false) (h3 : Q.doorFits ["publicsums"] = true) : Q.mayEnter = true := by
  unfold Program.mayEnter
  rw [h]
  simp only [lifts_fst, lifts_snd, h1, h2, h3]
  show _ = true
  kernel_rfl

theorem headLifts_of (Q : Program) (ws : List (List Char)) (h : behindMainWord (wordsSigns Q.initOrder.toList) = ['p', 'u', 'b', 'l', 'i', 'c', 's', 'u', 'm', 's'] :: ['c', 'u', 't'] :: ws) : Q.headLifts = ["publicsums"] := by
  unfold Program.headLifts
  rw [h]
  simp only [lifts_fst, lifts_snd]
  show _ = _
  kernel_rfl

theorem liftsFinal_of (Q : Program) (ws : List (List Char)) (h : behindMainWord (wordsSigns Q.initOrder.toList) = ['p', 'u', 'b', 'l', 'i', 'c', 's', 'u', 'm', 's'] :: ['c', 'u', 't'] :: ws) : Q.liftsFinal = false := by
  unfold Program.liftsFinal
  rw [headLifts_of Q ws h, h]
  show _ = _
  kernel_rfl

theorem make_of (Q : Program) (ws : List (List Char)) (h : behindMainWord (wordsSigns Q.initOrder.toList) = ['p', 'u', 'b', 'l', 'i', 'c', 's', 'u', 'm', 's'] :: ['c', 'u', 't'] :: ws) : Q.make = some (.lifted ["publicsums"]) := by
  unfold Program.make
  rw [headLifts_of Q ws h, h]
  show _ = _
  kernel_rfl

theorem laysLaterIs : Trym.checked.prog.laysLater = false := by kernel_rfl
theorem bearsReflectIs : Trym.checked.prog.bearsReflect = false := by kernel_rfl
theorem doorFitsIs : Trym.checked.prog.doorFits ["publicsums"] = true := by kernel_rfl

theorem mayEnterIs : Trym.checked.prog.mayEnter = true := by
  obtain ⟨ws, h⟩ := headIs
  exact mayEnter_of Trym.checked.prog ws h laysLaterIs bearsReflectIs doorFitsIs
theorem liftsFinalIs : Trym.checked.prog.liftsFinal = false := by
  obtain ⟨ws, h⟩ := headIs
  exact liftsFinal_of Trym.checked.prog ws h
theorem makeIs : Trym.checked.prog.make = some (.lifted ["publicsums"]) := by
  obtain ⟨ws, h⟩ := headIs
  exact make_of Trym.checked.prog ws h

end Go.Proofs.Qxb6000643aMods.Facts
