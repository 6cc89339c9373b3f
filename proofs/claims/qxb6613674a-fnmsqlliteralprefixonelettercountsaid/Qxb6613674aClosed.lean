/-
  THE CLOSED FACTS OF A ROW, ONE BY ONE. 'joinedFacts' as one closed fact outgrows the memory lid at this cut: three of its limbs (mayEnter, liftsFinal, make) read the program's head word by word off a string of 612 signs, and the kernel decodes it anew each time.
  Here that string is turned into a list of signs once, by 'String.toList_ofList'; the three limbs are then drawn by laws over whatever program, so that the kernel never decodes the string.
-/
import Derived.Test.Qxb6613674aRows
import Derived.JoinedOf
import Derived.KernelRfl
namespace Go.Proofs.Qxb6613674a

theorem stringL (s : String) (L : List Char) (h : s = String.ofList L) : s.toList = L := by subst h; exact String.toList_ofList

/-- The signs of the program's head. -/
def initCodes : List Nat := [104, 97, 114, 110, 101, 115, 115, 32, 48, 50, 50, 48, 97, 57, 52, 49, 56, 49, 99, 99, 57, 51, 55, 52, 98, 56, 53, 98, 97, 98, 50, 100, 97, 48, 100, 99, 53, 55, 54, 49, 99, 51, 56, 100, 98, 48, 97, 55, 57, 97, 52, 49, 55, 97, 49, 100, 56, 99, 102, 97, 97, 56, 50, 100, 100, 102, 49, 57, 102, 49, 54, 57, 32, 99, 117, 116, 32, 97, 116, 32, 101, 120, 97, 109, 112, 108, 101, 46, 99, 111, 109, 47, 108, 101, 120, 119, 114, 105, 103, 104, 116, 47, 108, 101, 120, 119, 114, 105, 103, 104, 116, 47, 122, 122, 108, 97, 119, 115, 95, 114, 111, 111, 116, 95, 98, 49, 46, 70, 110, 77, 115, 113, 108, 76, 105, 116, 101, 114, 97, 108, 80, 114, 101, 102, 105, 120, 65, 103, 114, 101, 101, 115, 87, 105, 116, 104, 87, 111, 114, 100, 75, 101, 121, 32, 101, 120, 97, 109, 112, 108, 101, 46, 99, 111, 109, 47, 108, 101, 120, 119, 114, 105, 103, 104, 116, 47, 108, 101, 120, 119, 114, 105, 103, 104, 116, 47, 122, 122, 108, 97, 119, 115, 95, 114, 111, 111, 116, 95, 98, 49, 46, 70, 110, 77, 115, 113, 108, 76, 105, 116, 101, 114, 97, 108, 80, 114, 101, 102, 105, 120, 79, 110, 101, 76, 101, 116, 116, 101, 114, 67, 111, 117, 110, 116, 32, 101, 120, 97, 109, 112, 108, 101, 46, 99, 111, 109, 47, 108, 101, 120, 119, 114, 105, 103, 104, 116, 47, 108, 101, 120, 119, 114, 105, 103, 104, 116, 47, 122, 122, 108, 97, 119, 115, 95, 114, 111, 111, 116, 95, 98, 49, 46, 70, 110, 75, 105, 110, 100, 73, 115, 76, 105, 116, 101, 114, 97, 108, 79, 110, 101, 82, 117, 110, 79, 102, 84, 119, 111, 32, 101, 120, 97, 109, 112, 108, 101, 46, 99, 111, 109, 47, 108, 101, 120, 119, 114, 105, 103, 104, 116, 47, 108, 101, 120, 119, 114, 105, 103, 104, 116, 47, 122, 122, 108, 97, 119, 115, 95, 114, 111, 111, 116, 95, 98, 49, 46, 70, 110, 75, 105, 110, 100, 73, 115, 76, 105, 116, 101, 114, 97, 108, 67, 111, 117, 110, 116, 66, 101, 108, 111, 119, 32, 101, 120, 97, 109, 112, 108, 101, 46, 99, 111, 109, 47, 108, 101, 120, 119, 114, 105, 103, 104, 116, 47, 108, 101, 120, 119, 114, 105, 103, 104, 116, 47, 122, 122, 108, 97, 119, 115, 95, 114, 111, 111, 116, 95, 98, 49, 46, 70, 110, 69, 110, 100, 115, 87, 111, 114, 100, 83, 112, 108, 105, 116, 115, 65, 116, 73, 116, 115, 69, 110, 100, 32, 101, 120, 97, 109, 112, 108, 101, 46, 99, 111, 109, 47, 108, 101, 120, 119, 114, 105, 103, 104, 116, 47, 108, 101, 120, 119, 114, 105, 103, 104, 116, 47, 122, 122, 108, 97, 119, 115, 95, 114, 111, 111, 116, 95, 98, 49, 46, 70, 110, 69, 110, 100, 115, 87, 111, 114, 100, 70, 111, 108, 108, 111, 119, 67, 111, 117, 110, 116, 32, 101, 120, 97, 109, 112, 108, 101, 46, 99, 111, 109, 47, 108, 101, 120, 119, 114, 105, 103, 104, 116, 47, 108, 101, 120, 119, 114, 105, 103, 104, 116, 47, 122, 122, 108, 97, 119, 115, 95, 114, 111, 111, 116, 95, 98, 49, 46, 70, 110, 85, 110, 113, 117, 111, 116, 101, 72, 97, 108, 118, 101, 115, 68, 111, 117, 98, 108, 101, 100, 68, 101, 108, 105, 109, 105, 116, 101, 114, 115]
set_option maxRecDepth 100000 in
theorem initL : Try.prog.initOrder.toList = initCodes.map Char.ofNat := stringL _ _ (by kernel_rfl)
set_option maxRecDepth 100000 in
theorem behind0 : behindMainWord (wordsSigns (initCodes.map Char.ofNat)) = ['c', 'u', 't'] :: (wordsSigns (initCodes.map Char.ofNat)).drop 3 := by kernel_rfl
theorem behind_of {P : Program} {L : List Char} {l : List (List Char)} (h : P.initOrder.toList = L) (k : behindMainWord (wordsSigns L) = l) : behindMainWord (wordsSigns P.initOrder.toList) = l := by rw [h]; exact k
theorem behind : behindMainWord (wordsSigns Try.prog.initOrder.toList) = ['c', 'u', 't'] :: (wordsSigns (initCodes.map Char.ofNat)).drop 3 := behind_of initL behind0

theorem strip_cut (r : List (List Char)) : stripLifts liftWords (['c', 'u', 't'] :: r) = ([], ['c', 'u', 't'] :: r) := by kernel_rfl
theorem cut_cut : (some ['c', 'u', 't'] == some "cut".toList) = true := by kernel_rfl
theorem cut_eq : (['c', 'u', 't'] == "cut".toList) = true := by kernel_rfl
theorem cut_gc : (['c', 'u', 't'] == "gc".toList) = false := by kernel_rfl
theorem cut_spec : (['c', 'u', 't'] == "spec".toList) = false := by kernel_rfl
theorem cut_carried : (['c', 'u', 't'] == "carried".toList) = false := by kernel_rfl
theorem cut_carried' : (some ['c', 'u', 't'] == some "carried".toList) = false := by kernel_rfl

theorem make_of {P : Program} {r : List (List Char)} (h : behindMainWord (wordsSigns P.initOrder.toList) = ['c', 'u', 't'] :: r) : P.make = some .cut := by
  unfold Program.make
  rw [h]
  simp only [cut_gc, cut_spec, cut_eq, Bool.or_self, Bool.true_or, if_true, Bool.false_eq_true, if_false]

theorem headLifts_of {P : Program} {r : List (List Char)} (h : behindMainWord (wordsSigns P.initOrder.toList) = ['c', 'u', 't'] :: r) : P.headLifts = [] := by
  unfold Program.headLifts
  rw [h, strip_cut]
  simp

theorem lifts_of {P : Program} {r : List (List Char)} (h : behindMainWord (wordsSigns P.initOrder.toList) = ['c', 'u', 't'] :: r) : P.liftsFinal = false := by
  unfold Program.liftsFinal
  rw [headLifts_of h, h]
  simp only [List.head?_cons, cut_carried', Bool.false_and, Bool.false_or]
  rfl

theorem may_of {P : Program} {r : List (List Char)} (h : behindMainWord (wordsSigns P.initOrder.toList) = ['c', 'u', 't'] :: r) (h1 : P.laysLater = false) (h2 : P.bearsReflect = false) (h3 : P.doorFits [] = true) : P.mayEnter = true := by
  unfold Program.mayEnter
  rw [h]
  simp only [strip_cut, List.head?_cons, cut_gc, cut_spec, cut_carried, cut_cut, h1, h2, h3, Bool.or_self, Bool.false_and, Bool.not_false, Bool.or_true, Bool.and_true, List.contains_nil, Bool.and_self]

theorem may : Try.prog.mayEnter = true := may_of behind (by kernel_rfl) (by kernel_rfl) (by kernel_rfl)

/-- The closed facts, a hypothesis each. -/
theorem closed_of {P : Program} {f : FuncId} {fn : Func} {s : ChangeSpec} {c : OpenClaim} {r : List (List Char)}
    (hb : behindMainWord (wordsSigns P.initOrder.toList) = ['c', 'u', 't'] :: r) (hmay : P.mayEnter = true) (hlift : c.lifted = false) (hmake : c.make = .cut)
    (k1 : c.wf (OpenSpec.ofChange s) = true) (k2 : laidOutB P = true) (k3 : mapsRowed P = true) (k4 : fn.params.all (P.readableRec ·) = true) (k5 : namedTie P c.named s.vars = true)
    (k6 : (c.stops == []) = true) (k7 : (P.stops == []) = true) (k8 : (c.knobs == []) = true) (k9 : (P.stopKnobs == []) = true)
    (k10 : (c.inPlace == P.inPlace f) = true) (k11 : (c.unfollowed == P.unfollowed f) = true) (k12 : (c.recurses == P.recurses f) = true) (k13 : (c.named == P.varsNamed f) = true)
    (k14 : (c.maps == (fn.params.toList ++ s.plain.varTypes P).any (P.mapsRec ·)) = true) (k15 : (c.ifaces == (fn.params.toList ++ s.plain.varTypes P).any (P.ifacesRec ·)) = true) (k16 : (c.mapsOut == P.mapsAmong fn.resultTypes.toList) = true)
    (k17 : (c.loops == (fn.params.toList ++ s.plain.varTypes P).any (P.loopsFrom ·)) = true) (k18 : (c.wideKeys == (fn.params.toList ++ s.plain.varTypes P ++ fn.resultTypes.toList).any (P.wideKeysFrom ·)) = true)
    (k19 : s.vars.all (P.varReadable ·) = true) (k20 : fn.resultTypes.all (fun t => P.readableRec t && decide (t < P.types.size)) = true) (k21 : (c.ifacesOut == fn.resultTypes.toList.any (P.ifacesRec ·)) = true) (k22 : (c.loopsOut == fn.resultTypes.toList.any (P.loopsFrom ·)) = true)
    (k23 : (c.plainKeys == P.plainKeys) = true) (k24 : c.shortTexts.isNone = true) (k25 : P.stopsHeard = true)
    (k29 : (c.kinds == (if c.domain.isEmpty then [] else fn.params.toList.map fun t => match P.underlying t with | some (.int k) => some k | _ => none)) = true) (k30 : (c.pinned == c.pinnedBy) = true)
    (k31 : (c.veiled == (fn.params.toList ++ s.plain.varTypes P ++ fn.resultTypes.toList).any (P.veiledRec ·)) = true) (k32 : c.veiledFits P fn.params.toList (fn.params.toList ++ s.plain.varTypes P ++ fn.resultTypes.toList) = true) :
    joinedFacts P f fn s c = true := by
  have k27 : (c.lifted == P.liftsFinal) = true := by rw [hlift, lifts_of hb]; rfl
  have k28 : (P.make == some c.make) = true := by rw [hmake, make_of hb]; rfl
  have a : ∀ {x y : Bool}, x = true → y = true → (x && y) = true := by intro x y h1 h2; rw [h1, h2]; rfl
  unfold joinedFacts
  exact (a (a (a (a (a (a (a (a (a (a (a (a (a (a (a (a (a (a (a (a (a (a (a (a (a (a (a (a (a (a (a k1 k2) k3) k4) k5) k6) k7) k8) k9) k10) k11) k12) k13) k14) k15) k16) k17) k18) k19) k20) k21) k22) k23) k24) k25) hmay) k27) k28) k29) k30) k31) k32)

theorem p2 : laidOutB Try.prog = true := by kernel_rfl
theorem p3 : mapsRowed Try.prog = true := by kernel_rfl
theorem p7 : (Try.prog.stops == []) = true := by kernel_rfl
theorem p9 : (Try.prog.stopKnobs == []) = true := by kernel_rfl
theorem p25 : Try.prog.stopsHeard = true := by kernel_rfl
#print axioms may
end Go.Proofs.Qxb6613674a
