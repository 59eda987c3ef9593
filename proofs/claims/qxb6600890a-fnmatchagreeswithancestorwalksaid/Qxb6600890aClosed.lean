/-
  The closed facts of the row's form that look into the head's words ('harness <sum> cut at ..'): by words, not by a run over the whole long text (by the kernel's run alone each of them wants 14 GB at this seat's head of nine roots).
-/
import Derived.Test.Qxb6600890aRows
import Derived.JoinedOf
namespace Go.Proofs.Qxb6600890a
open Go
set_option maxRecDepth 100000

theorem words_cons (c : Char) (r : List Char) (hc : c ≠ ' ') : wordsSigns (c :: r) = match wordsSigns r with | w :: ws => (c :: w) :: ws | [] => [[c]] := by
  rw [wordsSigns]
  · rfl
  · exact fun e => hc e
theorem words_cut (u r : List Char) (h : ∀ c ∈ u, c ≠ ' ') : wordsSigns (u ++ ' ' :: r) = u :: wordsSigns r := by
  induction u with
  | nil => rfl
  | cons c u ih => rw [List.cons_append, words_cons c _ (h c (by simp)), ih (fun d hd => h d (by simp [hd]))]
theorem words_of {s : String} {h m c r : List Char} (hs : s = String.ofList (h ++ ' ' :: (m ++ ' ' :: (c ++ ' ' :: r)))) (hh : ∀ x ∈ h, x ≠ ' ') (hm : ∀ x ∈ m, x ≠ ' ') (hc : ∀ x ∈ c, x ≠ ' ') :
    wordsSigns s.toList = h :: m :: c :: wordsSigns r := by
  rw [hs, String.toList_ofList, words_cut h _ hh, words_cut m _ hm, words_cut c _ hc]

def harnessSigns : List Char := ['h', 'a', 'r', 'n', 'e', 's', 's']
def sumSigns : List Char := ['f', '7', '2', 'e', '6', 'b', 'd', '7', 'b', 'c', 'f', '0', 'e', 'f', 'f', 'f', '4', '9', '4', '8', 'd', 'b', '3', '8', '5', 'd', '3', '5', '0', 'f', 'b', '0', '6', '4', 'e', 'b', '2', 'd', 'e', '0', 'a', '7', '7', '3', 'd', '7', '5', '6', '8', '0', 'f', 'a', '5', '7', 'd', '7', 'f', '6', '2', '2', '7', 'b', 'd', '7']
def cutSigns : List Char := ['c', 'u', 't']

theorem harness_is : "harness".toList = harnessSigns := by decide +kernel
theorem cut_is : "cut".toList = cutSigns := by decide +kernel
theorem sum_ok : isSumSigns sumSigns = true := by decide +kernel

theorem head_words : ∃ r, wordsSigns Try.pinned.checked.prog.initOrder.toList = harnessSigns :: sumSigns :: cutSigns :: r :=
  ⟨_, words_of (h := harnessSigns) (m := sumSigns) (c := cutSigns) rfl (by decide) (by decide) (by decide)⟩
theorem behind_of {P : Program} {r : List (List Char)} (hr : wordsSigns P.initOrder.toList = harnessSigns :: sumSigns :: cutSigns :: r) : behindMainWord (wordsSigns P.initOrder.toList) = cutSigns :: r := by
  rw [hr]
  unfold behindMainWord
  simp only [harness_is, sum_ok]
  simp

theorem strip_cut (r : List (List Char)) : stripLifts liftWords (cutSigns :: r) = ([], cutSigns :: r) := by
  have h : ∀ o ∈ liftWords, (cutSigns == o.toList) = false := by decide +kernel
  have g : ∀ l : List String, (∀ o ∈ l, (cutSigns == o.toList) = false) → stripLifts l (cutSigns :: r) = ([], cutSigns :: r) := by
    intro l
    induction l with
    | nil => intro _; rfl
    | cons o os ih =>
      intro hl
      unfold stripLifts
      rw [if_neg (by rw [hl o (by simp)]; simp)]
      exact ih (fun x hx => hl x (by simp [hx]))
  exact g _ h

theorem headLifts_of {P : Program} {r : List (List Char)} (hr : behindMainWord (wordsSigns P.initOrder.toList) = cutSigns :: r) : P.headLifts = [] := by
  unfold Program.headLifts
  rw [hr, strip_cut]
  simp

theorem not_gc : (cutSigns == "gc".toList) = false := by decide +kernel
theorem not_spec : (cutSigns == "spec".toList) = false := by decide +kernel
theorem not_carried : (cutSigns == "carried".toList) = false := by decide +kernel
theorem not_carried' : (some cutSigns == some "carried".toList) = false := by decide +kernel

theorem mayEnter_of {P : Program} {r : List (List Char)} (hr : behindMainWord (wordsSigns P.initOrder.toList) = cutSigns :: r) (h1 : P.laysLater = false) (h2 : P.bearsReflect = false) (h3 : P.doorFits [] = true) : P.mayEnter = true := by
  unfold Program.mayEnter
  rw [hr]
  simp only [strip_cut, not_gc, not_spec, not_carried, h1, h2, h3, cut_is]
  simp
theorem liftsFinal_of {P : Program} {r : List (List Char)} (hr : behindMainWord (wordsSigns P.initOrder.toList) = cutSigns :: r) : P.liftsFinal = false := by
  unfold Program.liftsFinal
  simp only [hr, headLifts_of hr, List.head?_cons, not_carried', Bool.false_and, Bool.false_or]
  rfl
theorem make_of {P : Program} {r : List (List Char)} (hr : behindMainWord (wordsSigns P.initOrder.toList) = cutSigns :: r) : P.make = some .cut := by
  unfold Program.make
  rw [hr]
  simp only [not_gc, not_spec, cut_is]
  simp

theorem later_none : Try.pinned.checked.prog.laysLater = false := by kernel_rfl
theorem reflect_none : Try.pinned.checked.prog.bearsReflect = false := by kernel_rfl
theorem door_fits : Try.pinned.checked.prog.doorFits [] = true := by kernel_rfl
theorem mayEnter : Try.pinned.checked.prog.mayEnter = true := by
  obtain ⟨r, hr⟩ := head_words
  exact mayEnter_of (behind_of hr) later_none reflect_none door_fits
theorem liftsFinal_none : Try.pinned.checked.prog.liftsFinal = false := by
  obtain ⟨r, hr⟩ := head_words
  exact liftsFinal_of (behind_of hr)
theorem make_cut : Try.pinned.checked.prog.make = some .cut := by
  obtain ⟨r, hr⟩ := head_words
  exact make_of (behind_of hr)
theorem lifted_ok {b : Bool} (h : b = false) : (b == Try.pinned.checked.prog.liftsFinal) = true := by rw [liftsFinal_none, h]; rfl
theorem make_ok {m : Make} (h : m = .cut) : (Try.pinned.checked.prog.make == some m) = true := by rw [make_cut, h]; rfl

/-- The row's closed facts at function 4 (FnMatchExactNamesOnlyBaseTreeWidensAndDescends). -/
theorem closed4 : joinedFacts Try.pinned.checked.prog 4 Try.f4 Rows.fnMatchExactNamesOnlyBaseTreeWidensAndDescendsSpec Rows.fnMatchExactNamesOnlyBaseTreeWidensAndDescendsRow = true := by
  simp only [joinedFacts, Bool.and_eq_true]
  exact ⟨⟨⟨⟨⟨⟨⟨⟨⟨⟨⟨⟨⟨⟨⟨⟨⟨⟨⟨⟨⟨⟨⟨⟨⟨⟨⟨⟨⟨⟨⟨(by as_aux_lemma => kernel_rfl), (by as_aux_lemma => kernel_rfl)⟩, (by as_aux_lemma => kernel_rfl)⟩, (by as_aux_lemma => kernel_rfl)⟩, (by as_aux_lemma => kernel_rfl)⟩, (by as_aux_lemma => kernel_rfl)⟩, (by as_aux_lemma => kernel_rfl)⟩, (by as_aux_lemma => kernel_rfl)⟩, (by as_aux_lemma => kernel_rfl)⟩, (by as_aux_lemma => kernel_rfl)⟩, (by as_aux_lemma => kernel_rfl)⟩, (by as_aux_lemma => kernel_rfl)⟩, (by as_aux_lemma => kernel_rfl)⟩, (by as_aux_lemma => kernel_rfl)⟩, (by as_aux_lemma => kernel_rfl)⟩, (by as_aux_lemma => kernel_rfl)⟩, (by as_aux_lemma => kernel_rfl)⟩, (by as_aux_lemma => kernel_rfl)⟩, (by as_aux_lemma => kernel_rfl)⟩, (by as_aux_lemma => kernel_rfl)⟩, (by as_aux_lemma => kernel_rfl)⟩, (by as_aux_lemma => kernel_rfl)⟩, (by as_aux_lemma => kernel_rfl)⟩, (by as_aux_lemma => kernel_rfl)⟩, (by as_aux_lemma => kernel_rfl)⟩, mayEnter⟩, (lifted_ok rfl)⟩, (make_ok rfl)⟩, (by as_aux_lemma => kernel_rfl)⟩, (by as_aux_lemma => kernel_rfl)⟩, (by as_aux_lemma => kernel_rfl)⟩, (by as_aux_lemma => kernel_rfl)⟩
/-- The row's closed facts at function 3 (FnMatchAgreesWithAncestorWalk). -/
theorem closed3 : joinedFacts Try.pinned.checked.prog 3 Try.f3 Rows.fnMatchAgreesWithAncestorWalkSpec Rows.fnMatchAgreesWithAncestorWalkRow = true := by
  simp only [joinedFacts, Bool.and_eq_true]
  exact ⟨⟨⟨⟨⟨⟨⟨⟨⟨⟨⟨⟨⟨⟨⟨⟨⟨⟨⟨⟨⟨⟨⟨⟨⟨⟨⟨⟨⟨⟨⟨(by as_aux_lemma => kernel_rfl), (by as_aux_lemma => kernel_rfl)⟩, (by as_aux_lemma => kernel_rfl)⟩, (by as_aux_lemma => kernel_rfl)⟩, (by as_aux_lemma => kernel_rfl)⟩, (by as_aux_lemma => kernel_rfl)⟩, (by as_aux_lemma => kernel_rfl)⟩, (by as_aux_lemma => kernel_rfl)⟩, (by as_aux_lemma => kernel_rfl)⟩, (by as_aux_lemma => kernel_rfl)⟩, (by as_aux_lemma => kernel_rfl)⟩, (by as_aux_lemma => kernel_rfl)⟩, (by as_aux_lemma => kernel_rfl)⟩, (by as_aux_lemma => kernel_rfl)⟩, (by as_aux_lemma => kernel_rfl)⟩, (by as_aux_lemma => kernel_rfl)⟩, (by as_aux_lemma => kernel_rfl)⟩, (by as_aux_lemma => kernel_rfl)⟩, (by as_aux_lemma => kernel_rfl)⟩, (by as_aux_lemma => kernel_rfl)⟩, (by as_aux_lemma => kernel_rfl)⟩, (by as_aux_lemma => kernel_rfl)⟩, (by as_aux_lemma => kernel_rfl)⟩, (by as_aux_lemma => kernel_rfl)⟩, (by as_aux_lemma => kernel_rfl)⟩, mayEnter⟩, (lifted_ok rfl)⟩, (make_ok rfl)⟩, (by as_aux_lemma => kernel_rfl)⟩, (by as_aux_lemma => kernel_rfl)⟩, (by as_aux_lemma => kernel_rfl)⟩, (by as_aux_lemma => kernel_rfl)⟩
end Go.Proofs.Qxb6600890a
