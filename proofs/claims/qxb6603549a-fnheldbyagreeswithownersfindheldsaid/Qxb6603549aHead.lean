/-
  THREE CLOSED FACTS ON THE PROGRAM's HEAD, cheaply: the head's words are split at their blanks ahead of the kernel's reckoning (in one piece they are dear).
-/
import Derived.Test.Qxb6603549aRows
import Derived.ProofKit
namespace Go.Proofs.Qxb6603549a.Hd

theorem words_cons (w r : List Char) (h : w.all (· != ' ') = true) : wordsSigns (w ++ ' ' :: r) = w :: wordsSigns r := by
  induction w with
  | nil => rfl
  | cons c w ih =>
    simp only [List.all_cons, Bool.and_eq_true, bne_iff_ne] at h
    have ih' := ih h.2
    rw [List.cons_append, wordsSigns, ih']
    exact h.1

theorem cut_at (l : List Char) (n : Nat) (h : l[n]? = some ' ') : l = l.take n ++ ' ' :: l.drop (n + 1) := by
  obtain ⟨hn, e⟩ := List.getElem?_eq_some_iff.1 h
  rw [← e, ← List.drop_eq_getElem_cons hn, List.take_append_drop]

/-- The head opens with a word, a sum and the word 'cut', a blank behind each. -/
def opens (l : List Char) : Bool :=
  l.take 7 == ['h', 'a', 'r', 'n', 'e', 's', 's'] && l[7]? == some ' ' && isSumSigns ((l.drop 8).take 64) && ((l.drop 8).take 64).all (· != ' ') && (l.drop 8)[64]? == some ' ' &&
    (l.drop 73).take 3 == ['c', 'u', 't'] && (l.drop 73)[3]? == some ' '

set_option maxRecDepth 1000000 in
set_option maxHeartbeats 4000000 in
theorem head_io : ∃ l : List Char, Try.prog.initOrder.toList = l ∧ opens l = true := by
  have h : Try.prog.initOrder.toList = _ := (congrArg String.toList (show Try.prog.initOrder = String.ofList _ from rfl)).trans String.toList_ofList
  refine ⟨_, h, ?_⟩
  show _ = true
  kernel_rfl

theorem behind (s : List Char) (ws : List (List Char)) (h : isSumSigns s = true) : behindMainWord (['h', 'a', 'r', 'n', 'e', 's', 's'] :: s :: ws) = ws := by
  simp only [behindMainWord, h, Bool.and_true]
  rw [if_pos (by kernel_rfl)]

theorem head_words : ∃ ws : List (List Char), behindMainWord (wordsSigns Try.prog.initOrder.toList) = ['c', 'u', 't'] :: ws := by
  obtain ⟨l, h, ho⟩ := head_io
  simp only [opens, Bool.and_eq_true, beq_iff_eq] at ho
  obtain ⟨⟨⟨⟨⟨⟨h1, h2⟩, h3⟩, h4⟩, h5⟩, h6⟩, h7⟩ := ho
  refine ⟨wordsSigns (l.drop 77), ?_⟩
  have e1 := cut_at l 7 h2
  have e2 := cut_at (l.drop 8) 64 h5
  have e3 := cut_at (l.drop 73) 3 h7
  rw [List.drop_drop] at e2 e3
  rw [h1] at e1
  rw [h6] at e3
  have e4 : l.drop 77 = List.drop (73 + (3 + 1)) l := rfl
  rw [h, e4]
  generalize hr : List.drop (73 + (3 + 1)) l = r at *
  generalize hs : List.take 64 (List.drop 8 l) = s at *
  have e5 : List.drop 73 l = List.drop (8 + (64 + 1)) l := rfl
  rw [← e5, e3] at e2
  have e6 : List.drop 8 l = List.drop (7 + 1) l := rfl
  rw [← e6, e2] at e1
  rw [e1, words_cons _ _ (by decide), words_cons _ _ h4, words_cons _ _ (by decide)]
  exact behind _ _ h3

theorem strip1 (ws : List (List Char)) : (stripLifts liftWords (['c', 'u', 't'] :: ws)).1 = [] := by kernel_rfl
theorem strip2 (ws : List (List Char)) : (stripLifts liftWords (['c', 'u', 't'] :: ws)).2 = ['c', 'u', 't'] :: ws := by kernel_rfl

theorem may_of (P : Program) (ws : List (List Char)) (h : behindMainWord (wordsSigns P.initOrder.toList) = ['c', 'u', 't'] :: ws) (h1 : P.laysLater = false) (h2 : P.bearsReflect = false) (h3 : P.doorFits [] = true) : P.mayEnter = true := by
  unfold Program.mayEnter
  rw [h]
  simp [h1, h2, h3, strip1, strip2]

theorem lifts_of (P : Program) (ws : List (List Char)) (h : behindMainWord (wordsSigns P.initOrder.toList) = ['c', 'u', 't'] :: ws) : P.liftsFinal = false := by
  unfold Program.liftsFinal Program.headLifts
  rw [h]
  simp [strip1, strip2]

theorem make_of (P : Program) (ws : List (List Char)) (h : behindMainWord (wordsSigns P.initOrder.toList) = ['c', 'u', 't'] :: ws) : P.make = some .cut := by
  unfold Program.make
  rw [h]
  simp

theorem mayE : Try.prog.mayEnter = true := by
  obtain ⟨ws, h⟩ := head_words
  exact may_of Try.prog ws h (by kernel_rfl) (by kernel_rfl) (by kernel_rfl)

theorem liftsF : Try.prog.liftsFinal = false := by
  obtain ⟨ws, h⟩ := head_words
  exact lifts_of Try.prog ws h

theorem makeF : Try.prog.make = some .cut := by
  obtain ⟨ws, h⟩ := head_words
  exact make_of Try.prog ws h

end Go.Proofs.Qxb6603549a.Hd
