/-
  The head's words of this cut, read cheaply: the string as a list of signs, then its first three words; and with them three closed facts on the program.
-/
import Derived.Test.Qxb6001663aRows
import Derived.KernelRfl
import Derived.JoinedOf
namespace Go.Proofs.Qxb6001663a.Head
set_option maxRecDepth 100000

def rest : List Char := ['a', 't', ' ', 'e', 'x', 'a', 'm', 'p', 'l', 'e', '.', 'c', 'o', 'm', '/', 'c', 'h', 'a', 'i', 'n', 'w', 'r', 'i', 'g', 'h', 't', '/', 'c', 'h', 'a', 'i', 'n', 'w', 'r', 'i', 'g', 'h', 't', '/', 'z', 'z', 'l', 'a', 'w', 's', '_', 'p', 'k', 'g', '_', 'r', 'u', 'l', 'e', 's', 'e', 't', '_', 'g', '1', '.', 'F', 'n', 'T', 'e', 'x', 't', 'S', 'i', 'z', 'e', 'A', 'd', 'd', 'i', 't', 'i', 'v', 'e', 'O', 'r', 'd', 'e', 'r', 'F', 'r', 'e', 'e', 'G', 'r', 'o', 'w', 'i', 'n', 'g', ' ', 'e', 'x', 'a', 'm', 'p', 'l', 'e', '.', 'c', 'o', 'm', '/', 'c', 'h', 'a', 'i', 'n', 'w', 'r', 'i', 'g', 'h', 't', '/', 'c', 'h', 'a', 'i', 'n', 'w', 'r', 'i', 'g', 'h', 't', '/', 'z', 'z', 'l', 'a', 'w', 's', '_', 'p', 'k', 'g', '_', 'r', 'u', 'l', 'e', 's', 'e', 't', '_', 'g', '1', '.', 'F', 'n', 'T', 'a', 'b', 'l', 'e', 'C', 'h', 'a', 'i', 'n', 'A', 'd', 'd', 's', 'E', 'a', 'c', 'h', 'N', 'a', 'm', 'e', 'O', 'n', 'c', 'e', ' ', 'e', 'x', 'a', 'm', 'p', 'l', 'e', '.', 'c', 'o', 'm', '/', 'c', 'h', 'a', 'i', 'n', 'w', 'r', 'i', 'g', 'h', 't', '/', 'c', 'h', 'a', 'i', 'n', 'w', 'r', 'i', 'g', 'h', 't', '/', 'z', 'z', 'l', 'a', 'w', 's', '_', 'p', 'k', 'g', '_', 'r', 'u', 'l', 'e', 's', 'e', 't', '_', 'g', '1', '.', 'F', 'n', 'R', 'u', 'l', 'e', 's', 'e', 't', 'S', 'e', 't', 'A', 'd', 'd', 's', 'E', 'a', 'c', 'h', 'N', 'a', 'm', 'e', 'O', 'n', 'c', 'e', ' ', 'e', 'x', 'a', 'm', 'p', 'l', 'e', '.', 'c', 'o', 'm', '/', 'c', 'h', 'a', 'i', 'n', 'w', 'r', 'i', 'g', 'h', 't', '/', 'c', 'h', 'a', 'i', 'n', 'w', 'r', 'i', 'g', 'h', 't', '/', 'z', 'z', 'l', 'a', 'w', 's', '_', 'p', 'k', 'g', '_', 'r', 'u', 'l', 'e', 's', 'e', 't', '_', 'g', '1', '.', 'F', 'n', 'N', 'f', 't', 'E', 'l', 'e', 'm', 'e', 'n', 't', 'S', 't', 'r', 'i', 'n', 'g', 'P', 'a', 'r', 's', 'e', 's', 'B', 'a', 'c', 'k', ' ', 'e', 'x', 'a', 'm', 'p', 'l', 'e', '.', 'c', 'o', 'm', '/', 'c', 'h', 'a', 'i', 'n', 'w', 'r', 'i', 'g', 'h', 't', '/', 'c', 'h', 'a', 'i', 'n', 'w', 'r', 'i', 'g', 'h', 't', '/', 'z', 'z', 'l', 'a', 'w', 's', '_', 'p', 'k', 'g', '_', 'r', 'u', 'l', 'e', 's', 'e', 't', '_', 'g', '1', '.', 'F', 'n', 'C', 'h', 'a', 'n', 'g', 'e', 'd', 'S', 'e', 't', 'N', 'a', 'm', 'e', 's', 'E', 'x', 'a', 'c', 't', 'l', 'y', 'T', 'h', 'o', 's', 'e', 'S', 'e', 't', ' ', 'e', 'x', 'a', 'm', 'p', 'l', 'e', '.', 'c', 'o', 'm', '/', 'c', 'h', 'a', 'i', 'n', 'w', 'r', 'i', 'g', 'h', 't', '/', 'c', 'h', 'a', 'i', 'n', 'w', 'r', 'i', 'g', 'h', 't', '/', 'z', 'z', 'l', 'a', 'w', 's', '_', 'p', 'k', 'g', '_', 'r', 'u', 'l', 'e', 's', 'e', 't', '_', 'g', '2', '.', 'F', 'n', 'N', 'f', 't', 'T', 'a', 'b', 'l', 'e', 'S', 'e', 't', 'C', 'h', 'a', 'i', 'n', 'F', 'i', 'r', 's', 't', 'A', 'p', 'p', 'e', 'a', 'r', 'a', 'n', 'c', 'e', ' ', 'e', 'x', 'a', 'm', 'p', 'l', 'e', '.', 'c', 'o', 'm', '/', 'c', 'h', 'a', 'i', 'n', 'w', 'r', 'i', 'g', 'h', 't', '/', 'c', 'h', 'a', 'i', 'n', 'w', 'r', 'i', 'g', 'h', 't', '/', 'z', 'z', 'l', 'a', 'w', 's', '_', 'p', 'k', 'g', '_', 'r', 'u', 'l', 'e', 's', 'e', 't', '_', 'g', '2', '.', 'F', 'n', 'R', 'u', 'l', 'e', 's', 'e', 't', 'T', 'a', 'b', 'l', 'e', 'L', 'o', 'o', 'k', 'u', 'p', ' ', 'e', 'x', 'a', 'm', 'p', 'l', 'e', '.', 'c', 'o', 'm', '/', 'c', 'h', 'a', 'i', 'n', 'w', 'r', 'i', 'g', 'h', 't', '/', 'c', 'h', 'a', 'i', 'n', 'w', 'r', 'i', 'g', 'h', 't', '/', 'z', 'z', 'l', 'a', 'w', 's', '_', 'p', 'k', 'g', '_', 'r', 'u', 'l', 'e', 's', 'e', 't', '_', 'g', '2', '.', 'F', 'n', 'E', 'd', 'i', 't', 'T', 'a', 'b', 'l', 'e', 'A', 'g', 'r', 'e', 'e', 's', 'W', 'i', 't', 'h', 'R', 'u', 'l', 'e', 's', 'e', 't']
def sm : List Char := ['c', '5', 'd', '2', '1', '6', '1', '7', '8', 'c', '8', 'd', '2', 'f', 'd', 'e', '4', '4', '0', '3', '6', '1', 'a', '0', 'b', '2', 'b', 'e', '2', '1', '3', 'c', '3', 'a', '9', 'c', 'a', 'e', 'c', '1', '2', 'e', '3', 'b', '9', 'e', '7', 'b', 'a', 'f', 'd', '2', '5', '2', 'a', '2', 'b', 'f', '5', 'd', '4', 'a', '9', '8']
def cutW : List Char := ['c', 'u', 't']
def harnessW : List Char := ['h', 'a', 'r', 'n', 'e', 's', 's']

theorem io_str : Try.prog.initOrder = String.ofList (harnessW ++ ' ' :: (sm ++ ' ' :: (cutW ++ ' ' :: rest))) := by kernel_rfl
theorem io_list : Try.prog.initOrder.toList = harnessW ++ ' ' :: (sm ++ ' ' :: (cutW ++ ' ' :: rest)) := by rw [io_str]; exact String.toList_ofList

theorem words_split (w r : List Char) (h : w.all (fun c => c != ' ') = true) : wordsSigns (w ++ ' ' :: r) = w :: wordsSigns r := by
  induction w with
  | nil => simp [wordsSigns]
  | cons c w ih =>
    simp only [List.all_cons, Bool.and_eq_true, bne_iff_ne] at h
    have e := ih (by simpa using h.2)
    rw [List.cons_append, wordsSigns, e]
    exact h.1

theorem words : behindMainWord (wordsSigns Try.prog.initOrder.toList) = cutW :: wordsSigns rest := by
  rw [io_list, words_split _ _ (by kernel_rfl), words_split _ _ (by kernel_rfl), words_split _ _ (by kernel_rfl)]
  have e1 : (harnessW == "harness".toList || harnessW == "ownmain".toList) = true := by kernel_rfl
  have e2 : isSumSigns sm = true := by kernel_rfl
  rw [behindMainWord, e1, e2]
  rfl

theorem eGc : (cutW == "gc".toList) = false := by kernel_rfl
theorem eSpec : (cutW == "spec".toList) = false := by kernel_rfl
theorem eCut : (cutW == "cut".toList) = true := by kernel_rfl
theorem eCarried : (cutW == "carried".toList) = false := by kernel_rfl

theorem strip_none (os : List String) (h : os.all (fun o => !(cutW == o.toList)) = true) (r : List (List Char)) : stripLifts os (cutW :: r) = ([], cutW :: r) := by
  induction os with
  | nil => rfl
  | cons o os ih =>
    simp only [List.all_cons, Bool.and_eq_true, Bool.not_eq_true'] at h
    rw [stripLifts, h.1]
    exact ih (by simpa using h.2)

theorem strip (r : List (List Char)) : stripLifts liftWords (cutW :: r) = ([], cutW :: r) := strip_none _ (by kernel_rfl) r

theorem make_of (P : Program) (r : List (List Char)) (h : behindMainWord (wordsSigns P.initOrder.toList) = cutW :: r) : (P.make == some .cut) = true := by
  unfold Program.make
  rw [h]
  simp only [eGc, eSpec, eCut, Bool.or_self, Bool.true_or, if_true, Bool.false_eq_true, if_false]
  rfl

theorem lifts_of (P : Program) (r : List (List Char)) (h : behindMainWord (wordsSigns P.initOrder.toList) = cutW :: r) : (false == P.liftsFinal) = true := by
  unfold Program.liftsFinal Program.headLifts
  simp only [h, strip, List.head?_cons]
  have e1 : (some cutW == some "carried".toList) = false := by kernel_rfl
  simp only [e1, Bool.false_and, Bool.false_or]
  split <;> rfl

theorem enter_of (P : Program) (r : List (List Char)) (h : behindMainWord (wordsSigns P.initOrder.toList) = cutW :: r) (e2 : P.laysLater = false) (e3 : P.bearsReflect = false) (e4 : P.doorFits [] = true) : P.mayEnter = true := by
  unfold Program.mayEnter
  simp only [h, strip, List.head?_cons]
  have e1 : (some cutW == some "cut".toList) = true := by kernel_rfl
  simp only [eGc, eSpec, eCarried, e1, e2, e3, e4]
  rfl

theorem lays : Try.prog.laysLater = false := by kernel_rfl
theorem bears : Try.prog.bearsReflect = false := by kernel_rfl
theorem door : Try.prog.doorFits [] = true := by kernel_rfl
theorem make_is : (Try.prog.make == some .cut) = true := make_of _ _ words
theorem lifts_is : (false == Try.prog.liftsFinal) = true := lifts_of _ _ words
theorem enter_is : Try.prog.mayEnter = true := enter_of _ _ words lays bears door
theorem laid_is : laidOutB Try.prog = true := by kernel_rfl
theorem rowed_is : mapsRowed Try.prog = true := by kernel_rfl
theorem stops_is : (Try.prog.stops == []) = true := by kernel_rfl
theorem knobs_is : (Try.prog.stopKnobs == []) = true := by kernel_rfl
theorem heard_is : Try.prog.stopsHeard = true := by kernel_rfl

/-- The closed facts of a row over this program, those on the program alone paid. -/
theorem joined (f : FuncId) (fn : Func) (s : ChangeSpec) (c : OpenClaim) (hm : c.make = .cut) (hl : c.lifted = false) (h0 : c.wf (OpenSpec.ofChange s) = true)
    (h3 : fn.params.all (Try.prog.readableRec ·) = true) (h4 : namedTie Try.prog c.named s.vars = true) (h5 : (c.stops == []) = true) (h7 : (c.knobs == []) = true)
    (h9 : (c.inPlace == Try.prog.inPlace f) = true) (h10 : (c.unfollowed == Try.prog.unfollowed f) = true) (h11 : (c.recurses == Try.prog.recurses f) = true) (h12 : (c.named == Try.prog.varsNamed f) = true)
    (hr : ((c.maps == (fn.params.toList ++ s.plain.varTypes Try.prog).any (Try.prog.mapsRec ·)) && (c.ifaces == (fn.params.toList ++ s.plain.varTypes Try.prog).any (Try.prog.ifacesRec ·)) && (c.mapsOut == Try.prog.mapsAmong fn.resultTypes.toList) &&
      (c.loops == (fn.params.toList ++ s.plain.varTypes Try.prog).any (Try.prog.loopsFrom ·)) && (c.wideKeys == (fn.params.toList ++ s.plain.varTypes Try.prog ++ fn.resultTypes.toList).any (Try.prog.wideKeysFrom ·)) &&
      s.vars.all (Try.prog.varReadable ·) && fn.resultTypes.all (fun t => Try.prog.readableRec t && decide (t < Try.prog.types.size)) && (c.ifacesOut == fn.resultTypes.toList.any (Try.prog.ifacesRec ·)) && (c.loopsOut == fn.resultTypes.toList.any (Try.prog.loopsFrom ·))) = true)
    (h22 : (c.plainKeys == Try.prog.plainKeys) = true) (h23 : c.shortTexts.isNone = true)
    (h28 : (c.kinds == (if c.domain.isEmpty then [] else fn.params.toList.map fun t => match Try.prog.underlying t with | some (.int k) => some k | _ => none)) = true) (h29 : (c.pinned == c.pinnedBy) = true)
    (h30 : (c.veiled == (fn.params.toList ++ s.plain.varTypes Try.prog ++ fn.resultTypes.toList).any (Try.prog.veiledRec ·)) = true) (h31 : c.veiledFits Try.prog fn.params.toList (fn.params.toList ++ s.plain.varTypes Try.prog ++ fn.resultTypes.toList) = true) :
    joinedFacts Try.prog f fn s c = true := by
  unfold joinedFacts
  simp only [Bool.and_eq_true] at hr
  obtain ⟨⟨⟨⟨⟨⟨⟨⟨r13, r14⟩, r15⟩, r16⟩, r17⟩, r18⟩, r19⟩, r20⟩, r21⟩ := hr
  rw [hm, hl, h0, laid_is, rowed_is, h3, h4, h5, stops_is, h7, knobs_is, h9, h10, h11, h12, r13, r14, r15, r16, r17, r18, r20, r21, h22, h23, heard_is, enter_is, lifts_is, make_is]
  simp only [Bool.true_and, Bool.and_true, Bool.and_eq_true]
  exact ⟨⟨⟨⟨r19, h28⟩, h29⟩, h30⟩, h31⟩
end Go.Proofs.Qxb6001663a.Head
