/-
  The dump's head, word by word: three closed facts over the whole program (mayEnter, liftsFinal, make), by a road on which the kernel does not decode the long head.
-/
import Derived.Test.Qxb6604394aRows
import Derived.JoinedOf
namespace Go.Proofs.Qxb6604394a
set_option maxRecDepth 100000

/-- The signs of the head's words, by their numbers. -/
def wordOne : List Char := [
  104, 97, 114, 110, 101, 115, 115].map Char.ofNat
def wordSum : List Char := [
  97, 54, 55, 48, 50, 56, 50, 99, 48, 52, 53, 102, 48, 97, 57, 53, 49, 55, 102, 50, 52, 102, 101, 56, 52, 49, 97, 102, 53, 48, 54, 100, 102, 54, 54, 100, 101, 97, 52, 54,
  99, 48, 48, 102, 102, 56, 55, 54, 101, 98, 53, 51, 54, 48, 100, 100, 57, 56, 98, 101, 52, 100, 50, 100].map Char.ofNat
def wordCut : List Char := [
  99, 117, 116].map Char.ofNat
def headRest : List Char := [
  97, 116, 32, 101, 120, 97, 109, 112, 108, 101, 46, 99, 111, 109, 47, 99, 104, 97, 110, 108, 111, 99, 107, 47, 99, 104, 97, 110, 108, 111, 99, 107, 47, 122, 122, 108, 97, 119, 115, 95,
  105, 110, 116, 101, 114, 110, 97, 108, 95, 109, 111, 100, 101, 108, 95, 98, 49, 46, 70, 110, 77, 101, 97, 115, 117, 114, 101, 67, 111, 117, 110, 116, 115, 66, 121, 87, 101, 105, 103, 104,
  116, 101, 100, 78, 111, 100, 101, 115, 32, 101, 120, 97, 109, 112, 108, 101, 46, 99, 111, 109, 47, 99, 104, 97, 110, 108, 111, 99, 107, 47, 99, 104, 97, 110, 108, 111, 99, 107, 47, 122,
  122, 108, 97, 119, 115, 95, 105, 110, 116, 101, 114, 110, 97, 108, 95, 109, 111, 100, 101, 108, 95, 98, 49, 46, 70, 110, 77, 101, 97, 115, 117, 114, 101, 73, 103, 110, 111, 114, 101, 115,
  87, 104, 97, 116, 70, 111, 108, 108, 111, 119, 115, 32, 101, 120, 97, 109, 112, 108, 101, 46, 99, 111, 109, 47, 99, 104, 97, 110, 108, 111, 99, 107, 47, 99, 104, 97, 110, 108, 111, 99,
  107, 47, 122, 122, 108, 97, 119, 115, 95, 105, 110, 116, 101, 114, 110, 97, 108, 95, 109, 111, 100, 101, 108, 95, 98, 49, 46, 70, 110, 87, 97, 108, 107, 86, 105, 115, 105, 116, 115, 69,
  120, 97, 99, 116, 108, 121, 84, 104, 101, 82, 101, 97, 99, 104, 97, 98, 108, 101, 32, 101, 120, 97, 109, 112, 108, 101, 46, 99, 111, 109, 47, 99, 104, 97, 110, 108, 111, 99, 107, 47,
  99, 104, 97, 110, 108, 111, 99, 107, 47, 122, 122, 108, 97, 119, 115, 95, 105, 110, 116, 101, 114, 110, 97, 108, 95, 109, 111, 100, 101, 108, 95, 98, 49, 46, 70, 110, 87, 97, 108, 107,
  73, 115, 67, 108, 111, 115, 101, 100, 65, 110, 100, 73, 100, 101, 109, 112, 111, 116, 101, 110, 116].map Char.ofNat

theorem head_is : Try.prog.initOrder = String.ofList (wordOne ++ ' ' :: (wordSum ++ ' ' :: (wordCut ++ ' ' :: headRest))) := by kernel_rfl
theorem head_list : Try.prog.initOrder.toList = wordOne ++ ' ' :: (wordSum ++ ' ' :: (wordCut ++ ' ' :: headRest)) := by rw [head_is, String.toList_ofList]

theorem words_word : ∀ (w r : List Char), (w.all fun c => c != ' ') = true → wordsSigns (w ++ ' ' :: r) = w :: wordsSigns r
  | [], r, _ => by rw [List.nil_append, wordsSigns]
  | c :: w, r, h => by
    rw [List.all_cons, Bool.and_eq_true] at h
    have hc : c ≠ ' ' := by simpa using h.1
    rw [List.cons_append, wordsSigns, words_word w r h.2]
    exact hc

theorem words_is : behindMainWord (wordsSigns Try.prog.initOrder.toList) = wordCut :: wordsSigns headRest := by
  rw [head_list, words_word _ _ (by kernel_rfl), words_word _ _ (by kernel_rfl), words_word _ _ (by kernel_rfl)]
  generalize wordsSigns headRest = R
  kernel_rfl

theorem lays_later : Try.prog.laysLater = false := by kernel_rfl
theorem bears_reflect : Try.prog.bearsReflect = false := by kernel_rfl
theorem door_rows : Try.prog.doorRows = [] := by kernel_rfl
theorem strip_is (R : List (List Char)) : stripLifts liftWords (wordCut :: R) = ([], wordCut :: R) := by kernel_rfl
theorem cut_is : wordCut = "cut".toList := by kernel_rfl
theorem door_fits : Try.prog.doorFits [] = true := by
  unfold Program.doorFits
  rw [door_rows]
  kernel_rfl

theorem may_enter_of (P : Program) (R : List (List Char)) (h : behindMainWord (wordsSigns P.initOrder.toList) = wordCut :: R) (h1 : P.laysLater = false) (h2 : P.bearsReflect = false) (h3 : P.doorFits [] = true) : P.mayEnter = true := by
  unfold Program.mayEnter
  rw [h]
  simp only [strip_is, h1, h2, h3]
  kernel_rfl
theorem may_enter : Try.prog.mayEnter = true := may_enter_of _ _ words_is lays_later bears_reflect door_fits
theorem head_lifts : Try.prog.headLifts = [] := by
  unfold Program.headLifts
  rw [words_is]
  generalize wordsSigns headRest = R
  rw [strip_is]
  kernel_rfl
theorem lifts_final : Try.prog.liftsFinal = false := by
  unfold Program.liftsFinal
  rw [words_is, head_lifts]
  generalize wordsSigns headRest = R
  kernel_rfl
theorem made_of (P : Program) (R : List (List Char)) (h : behindMainWord (wordsSigns P.initOrder.toList) = wordCut :: R) : P.make = some Make.cut := by
  unfold Program.make
  rw [h]
  generalize P.headLifts = L
  kernel_rfl
theorem made : Try.prog.make = some Make.cut := made_of _ _ words_is


/-- The builder's closed facts, one by one. -/
theorem joined_of (P : Program) (f : FuncId) (fn : Func) (s : ChangeSpec) (c : OpenClaim) (k1 : (c.wf (OpenSpec.ofChange s) : Bool) = true) (k2 : (laidOutB P : Bool) = true) (k3 : (mapsRowed P : Bool) = true) (k4 : (fn.params.all (P.readableRec ·) : Bool) = true) (k5 : (namedTie P c.named s.vars : Bool) = true) (k6 : ((c.stops == []) : Bool) = true) (k7 : ((P.stops == []) : Bool) = true) (k8 : ((c.knobs == []) : Bool) = true) (k9 : ((P.stopKnobs == []) : Bool) = true) (k10 : ((c.inPlace == P.inPlace f) : Bool) = true) (k11 : ((c.unfollowed == P.unfollowed f) : Bool) = true) (k12 : ((c.recurses == P.recurses f) : Bool) = true) (k13 : ((c.named == P.varsNamed f) : Bool) = true) (k14 : ((c.maps == (fn.params.toList ++ s.plain.varTypes P).any (P.mapsRec ·)) : Bool) = true) (k15 : ((c.ifaces == (fn.params.toList ++ s.plain.varTypes P).any (P.ifacesRec ·)) : Bool) = true) (k16 : ((c.mapsOut == P.mapsAmong fn.resultTypes.toList) : Bool) = true) (k17 : ((c.loops == (fn.params.toList ++ s.plain.varTypes P).any (P.loopsFrom ·)) : Bool) = true) (k18 : ((c.wideKeys == (fn.params.toList ++ s.plain.varTypes P ++ fn.resultTypes.toList).any (P.wideKeysFrom ·)) : Bool) = true) (k19 : (s.vars.all (P.varReadable ·) : Bool) = true) (k20 : (fn.resultTypes.all (fun t => P.readableRec t && decide (t < P.types.size)) : Bool) = true) (k21 : ((c.ifacesOut == fn.resultTypes.toList.any (P.ifacesRec ·)) : Bool) = true) (k22 : ((c.loopsOut == fn.resultTypes.toList.any (P.loopsFrom ·)) : Bool) = true) (k23 : ((c.plainKeys == P.plainKeys) : Bool) = true) (k24 : (c.shortTexts.isNone : Bool) = true) (k25 : (P.stopsHeard : Bool) = true) (k29 : ((c.kinds == (if c.domain.isEmpty then [] else fn.params.toList.map fun t => match P.underlying t with | some (.int k) => some k | _ => none)) : Bool) = true) (k30 : ((c.pinned == c.pinnedBy) : Bool) = true) (k31 : ((c.veiled == (fn.params.toList ++ s.plain.varTypes P ++ fn.resultTypes.toList).any (P.veiledRec ·)) : Bool) = true) (k32 : (c.veiledFits P fn.params.toList (fn.params.toList ++ s.plain.varTypes P ++ fn.resultTypes.toList) : Bool) = true) (hm : P.mayEnter = true) (hl : P.liftsFinal = false) (hk : P.make = some Make.cut) (hcl : c.lifted = false) (hcm : c.make = Make.cut) : joinedFacts P f fn s c = true := by
  have k26 := hm
  have k27 : (c.lifted == P.liftsFinal) = true := by rw [hl, hcl]; rfl
  have k28 : (P.make == some c.make) = true := by rw [hk, hcm]; rfl
  simp only [joinedFacts, Bool.and_eq_true]
  exact ⟨⟨⟨⟨⟨⟨⟨⟨⟨⟨⟨⟨⟨⟨⟨⟨⟨⟨⟨⟨⟨⟨⟨⟨⟨⟨⟨⟨⟨⟨⟨k1, k2⟩, k3⟩, k4⟩, k5⟩, k6⟩, k7⟩, k8⟩, k9⟩, k10⟩, k11⟩, k12⟩, k13⟩, k14⟩, k15⟩, k16⟩, k17⟩, k18⟩, k19⟩, k20⟩, k21⟩, k22⟩, k23⟩, k24⟩, k25⟩, k26⟩, k27⟩, k28⟩, k29⟩, k30⟩, k31⟩, k32⟩

end Go.Proofs.Qxb6604394a
