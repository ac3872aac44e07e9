/-
  THREE CLOSED FACTS ON THE PROGRAM's HEAD, EACH FOR ITSELF (seat b6602448a): 'String.toList' of the long head made the kernel hold 10 GB a fact; told by its letters it takes milliseconds.
-/
import Derived.Test.Qxb6602448aRows
import Derived.WalkKit
import Derived.ProofKit
namespace Go.Proofs.Qxb6602448a
theorem chars_of {s : String} {l : List Char} (h : s = String.ofList l) : s.toList = l := by rw [h, String.toList_ofList]
theorem cons_of_head {α : Type} {c : α} {L : List α} (h : L.head? = some c) : ∃ rest, L = c :: rest := by
  cases L with
  | nil => cases h
  | cons a r => cases h; exact ⟨r, rfl⟩
set_option maxRecDepth 100000 in
theorem head_word : ∃ l, Try.pinned.checked.prog.initOrder.toList = l ∧ (behindMainWord (wordsSigns l)).head? = some "cut".toList :=
  ⟨_, chars_of rfl, by kernel_rfl⟩
theorem head_words : ∃ rest, behindMainWord (wordsSigns Try.pinned.checked.prog.initOrder.toList) = "cut".toList :: rest := by
  obtain ⟨l, h, k⟩ := head_word
  rw [h]
  exact cons_of_head k
theorem strip_cut (rest : List (List Char)) : stripLifts liftWords ("cut".toList :: rest) = ([], "cut".toList :: rest) := by kernel_rfl
/- Over whatever program: so that the kernel has nothing to run. -/
theorem mayEnter_of {P : Program} {rest : List (List Char)} (h : behindMainWord (wordsSigns P.initOrder.toList) = "cut".toList :: rest)
    (h1 : P.laysLater = false) (h2 : P.bearsReflect = false) (h3 : P.doorFits [] = true) : P.mayEnter = true := by
  unfold Program.mayEnter
  rw [h]
  simp only [strip_cut, h1, h2, h3]
  kernel_rfl
theorem headLifts_of {P : Program} {rest : List (List Char)} (h : behindMainWord (wordsSigns P.initOrder.toList) = "cut".toList :: rest) : P.headLifts = [] := by
  unfold Program.headLifts
  rw [h]
  simp only [strip_cut]
  kernel_rfl
theorem liftsFinal_of {P : Program} {rest : List (List Char)} (h : behindMainWord (wordsSigns P.initOrder.toList) = "cut".toList :: rest) : P.liftsFinal = false := by
  unfold Program.liftsFinal
  rw [headLifts_of h, h]
  kernel_rfl
theorem make_of {P : Program} {rest : List (List Char)} (h : behindMainWord (wordsSigns P.initOrder.toList) = "cut".toList :: rest) : P.make = some .cut := by
  unfold Program.make
  rw [h]
  kernel_rfl
theorem laysLater_ok : Try.pinned.checked.prog.laysLater = false := by kernel_rfl
theorem bearsReflect_ok : Try.pinned.checked.prog.bearsReflect = false := by kernel_rfl
theorem doorFits_ok : Try.pinned.checked.prog.doorFits [] = true := by kernel_rfl
theorem mayEnter_ok : Try.pinned.checked.prog.mayEnter = true := by
  obtain ⟨rest, h⟩ := head_words
  exact mayEnter_of h laysLater_ok bearsReflect_ok doorFits_ok
theorem liftsFinal_ok : Try.pinned.checked.prog.liftsFinal = false := by
  obtain ⟨rest, h⟩ := head_words
  exact liftsFinal_of h
theorem make_ok : Try.pinned.checked.prog.make = some .cut := by
  obtain ⟨rest, h⟩ := head_words
  exact make_of h
end Go.Proofs.Qxb6602448a
