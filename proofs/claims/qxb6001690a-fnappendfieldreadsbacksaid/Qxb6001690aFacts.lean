/-
  THE ROW's CLOSED FACTS, ONE A THEOREM: the kernel asked all of them at once outgrows its lid at this program (the head's long line of words: 'initOrder').
-/
import Derived.Test.Qxb6001690aRows
import Derived.JoinedOf
import Derived.KernelRfl
namespace Go.Proofs.Qxb6001690a.Facts
open Go
set_option linter.unusedVariables false
theorem words_cons : ∀ (a r : List Char), ' ' ∉ a → wordsSigns (a ++ ' ' :: r) = a :: wordsSigns r
  | [], r, _ => by simp [wordsSigns]
  | c :: a, r, h => by
    have hc : c ≠ ' ' := fun e => h (by simp [e])
    have ih := words_cons a r (fun e => h (by simp [e]))
    rw [List.cons_append, wordsSigns.eq_def]
    split
    · rename_i e; cases e
    · rename_i r' e; simp at e; exact absurd e.1 hc
    · rename_i c' r' _ e
      simp at e
      obtain ⟨rfl, rfl⟩ := e
      rw [ih]
theorem make_of {P : Program} {R : List (List Char)} (h : behindMainWord (wordsSigns P.initOrder.toList) = "cut".toList :: R) : P.make = some .cut := by
  unfold Program.make
  rw [h]
  kernel_rfl
theorem strip_cut (R : List (List Char)) : stripLifts liftWords ("cut".toList :: R) = ([], "cut".toList :: R) := by kernel_rfl
theorem enter_of {P : Program} {R : List (List Char)} (h : behindMainWord (wordsSigns P.initOrder.toList) = "cut".toList :: R) (h1 : P.laysLater = false) (h2 : P.bearsReflect = false) (h3 : P.doorFits [] = true) : P.mayEnter = true := by
  unfold Program.mayEnter
  rw [h]
  show ((("cut".toList == "gc".toList || "cut".toList == "spec".toList) && (R.isEmpty || R.head? == some "stop".toList)) ||
    ("cut".toList == "carried".toList && R.take 2 == ["gc".toList, "cut".toList] && !P.laysLater && !P.bearsReflect) ||
    ((stripLifts liftWords ("cut".toList :: R)).2.head? == some "cut".toList &&
      ((stripLifts liftWords ("cut".toList :: R)).1.contains "finals" || !P.laysLater) && ((stripLifts liftWords ("cut".toList :: R)).1.contains "reflectrows" || !P.bearsReflect) &&
      ((stripLifts liftWords ("cut".toList :: R)).1.contains "reflectrows" || !(stripLifts liftWords ("cut".toList :: R)).1.contains "leanrows") &&
      P.doorFits (stripLifts liftWords ("cut".toList :: R)).1)) = true
  rw [strip_cut, h1, h2, h3]
  kernel_rfl
theorem lifts_of {P : Program} {R : List (List Char)} (h : behindMainWord (wordsSigns P.initOrder.toList) = "cut".toList :: R) : P.liftsFinal = false := by
  have h2 : P.headLifts = [] := by
    unfold Program.headLifts
    rw [h]
    kernel_rfl
  have h3 : P.liftsFinal = (((behindMainWord (wordsSigns P.initOrder.toList)).head? == some "carried".toList && (behindMainWord (wordsSigns P.initOrder.toList)).take 3 != ["carried".toList, "gc".toList, "cut".toList]) || P.headLifts.contains "finals") := rfl
  rw [h3, h, h2]
  have h4 : (("cut".toList :: R).head? == some "carried".toList) = false := by kernel_rfl
  rw [h4]
  rfl
theorem band {a b : Bool} (ha : a = true) (hb : b = true) : (a && b) = true := by rw [ha, hb]; rfl
theorem joined_of {P : Program} {f : FuncId} {fn : Func} {s : ChangeSpec} {c : OpenClaim} (h1 : (c.wf (OpenSpec.ofChange s)) = true) (h2 : (laidOutB P) = true) (h3 : (mapsRowed P) = true) (h4 : (fn.params.all (P.readableRec ·)) = true) (h5 : (namedTie P c.named s.vars) = true) (h6 : ((c.stops == [])) = true) (h7 : ((P.stops == [])) = true) (h8 : ((c.knobs == [])) = true) (h9 : ((P.stopKnobs == [])) = true) (h10 : ((c.inPlace == P.inPlace f)) = true) (h11 : ((c.unfollowed == P.unfollowed f)) = true) (h12 : ((c.recurses == P.recurses f)) = true) (h13 : ((c.named == P.varsNamed f)) = true) (h14 : ((c.maps == (fn.params.toList ++ s.plain.varTypes P).any (P.mapsRec ·))) = true) (h15 : ((c.ifaces == (fn.params.toList ++ s.plain.varTypes P).any (P.ifacesRec ·))) = true) (h16 : ((c.mapsOut == P.mapsAmong fn.resultTypes.toList)) = true) (h17 : ((c.loops == (fn.params.toList ++ s.plain.varTypes P).any (P.loopsFrom ·))) = true) (h18 : ((c.wideKeys == (fn.params.toList ++ s.plain.varTypes P ++ fn.resultTypes.toList).any (P.wideKeysFrom ·))) = true) (h19 : (s.vars.all (P.varReadable ·)) = true) (h20 : (fn.resultTypes.all (fun t => P.readableRec t && decide (t < P.types.size))) = true) (h21 : ((c.ifacesOut == fn.resultTypes.toList.any (P.ifacesRec ·))) = true) (h22 : ((c.loopsOut == fn.resultTypes.toList.any (P.loopsFrom ·))) = true) (h23 : ((c.plainKeys == P.plainKeys)) = true) (h24 : (c.shortTexts.isNone) = true) (h25 : (P.stopsHeard) = true) (h26 : (P.mayEnter) = true) (h27 : ((c.lifted == P.liftsFinal)) = true) (h28 : ((P.make == some c.make)) = true) (h29 : ((c.kinds == (if c.domain.isEmpty then [] else fn.params.toList.map fun t => match P.underlying t with | some (.int k) => some k | _ => none))) = true) (h30 : ((c.pinned == c.pinnedBy)) = true) (h31 : ((c.veiled == (fn.params.toList ++ s.plain.varTypes P ++ fn.resultTypes.toList).any (P.veiledRec ·))) = true) (h32 : (c.veiledFits P fn.params.toList (fn.params.toList ++ s.plain.varTypes P ++ fn.resultTypes.toList)) = true) : joinedFacts P f fn s c = true := by
  unfold joinedFacts
  exact band (band (band (band (band (band (band (band (band (band (band (band (band (band (band (band (band (band (band (band (band (band (band (band (band (band (band (band (band (band (band (h1) h2) h3) h4) h5) h6) h7) h8) h9) h10) h11) h12) h13) h14) h15) h16) h17) h18) h19) h20) h21) h22) h23) h24) h25) h26) h27) h28) h29) h30) h31) h32
def codes : List Nat := [104, 97, 114, 110, 101, 115, 115, 32, 56, 53, 102, 55, 48, 54, 99, 52, 99, 56, 48, 53, 50, 53, 98, 54, 100, 48, 102, 100, 56, 98, 57, 54, 102, 51, 55, 51, 53, 49, 98, 56, 102, 98, 54, 97, 102, 99, 101, 102, 48, 100, 54, 99, 56, 54, 48, 101, 54, 98, 101, 99, 102, 49, 54, 50, 100, 49, 50, 54, 102, 99, 53, 97, 32, 99, 117, 116, 32, 97, 116, 32, 101, 120, 97, 109, 112, 108, 101, 46, 99, 111, 109, 47, 108, 101, 97, 102, 47, 108, 101, 97, 102, 47, 122, 122, 108, 97, 119, 115, 95, 114, 111, 111, 116, 95, 103, 49, 46, 70, 110, 65, 114, 109, 111, 117, 114, 82, 111, 117, 110, 100, 84, 114, 105, 112, 32, 101, 120, 97, 109, 112, 108, 101, 46, 99, 111, 109, 47, 108, 101, 97, 102, 47, 108, 101, 97, 102, 47, 122, 122, 108, 97, 119, 115, 95, 114, 111, 111, 116, 95, 103, 49, 46, 70, 110, 65, 114, 109, 111, 117, 114, 80, 97, 114, 116, 115, 79, 110, 108, 121, 77, 111, 118, 101, 70, 111, 114, 119, 97, 114, 100, 32, 101, 120, 97, 109, 112, 108, 101, 46, 99, 111, 109, 47, 108, 101, 97, 102, 47, 108, 101, 97, 102, 47, 122, 122, 108, 97, 119, 115, 95, 114, 111, 111, 116, 95, 103, 49, 46, 70, 110, 65, 112, 112, 101, 110, 100, 70, 105, 101, 108, 100, 82, 101, 97, 100, 115, 66, 97, 99, 107, 32, 101, 120, 97, 109, 112, 108, 101, 46, 99, 111, 109, 47, 108, 101, 97, 102, 47, 108, 101, 97, 102, 47, 122, 122, 108, 97, 119, 115, 95, 114, 111, 111, 116, 95, 103, 49, 46, 70, 110, 70, 105, 101, 108, 100, 70, 105, 110, 100, 115, 70, 105, 114, 115, 116, 79, 102, 78, 97, 109, 101, 32, 101, 120, 97, 109, 112, 108, 101, 46, 99, 111, 109, 47, 108, 101, 97, 102, 47, 108, 101, 97, 102, 47, 122, 122, 108, 97, 119, 115, 95, 114, 111, 111, 116, 95, 103, 49, 46, 70, 110, 69, 97, 114, 108, 105, 101, 114, 65, 103, 114, 101, 101, 115, 87, 105, 116, 104, 83, 101, 97, 114, 99, 104, 65, 110, 100, 85, 110, 105, 113, 117, 101, 32, 101, 120, 97, 109, 112, 108, 101, 46, 99, 111, 109, 47, 108, 101, 97, 102, 47, 108, 101, 97, 102, 47, 122, 122, 108, 97, 119, 115, 95, 114, 111, 111, 116, 95, 103, 50, 46, 70, 110, 65, 114, 109, 111, 117, 114, 80, 108, 97, 105, 110, 73, 110, 112, 117, 116, 80, 97, 115, 115, 101, 115, 84, 104, 114, 111, 117, 103, 104, 85, 110, 99, 104, 97, 110, 103, 101, 100, 32, 101, 120, 97, 109, 112, 108, 101, 46, 99, 111, 109, 47, 108, 101, 97, 102, 47, 108, 101, 97, 102, 47, 122, 122, 108, 97, 119, 115, 95, 114, 111, 111, 116, 95, 103, 50, 46, 70, 110, 84, 114, 105, 109, 66, 108, 97, 110, 107, 69, 110, 100, 83, 116, 111, 112, 115, 65, 116, 83, 116, 97, 114, 116, 65, 110, 100, 73, 115, 73, 100, 101, 109, 112, 111, 116, 101, 110, 116, 32, 101, 120, 97, 109, 112, 108, 101, 46, 99, 111, 109, 47, 108, 101, 97, 102, 47, 108, 101, 97, 102, 47, 122, 122, 108, 97, 119, 115, 95, 114, 111, 111, 116, 95, 103, 49, 46, 70, 110, 83, 101, 116, 76, 105, 110, 101, 115, 82, 111, 117, 110, 100, 84, 114, 105, 112, 32, 101, 120, 97, 109, 112, 108, 101, 46, 99, 111, 109, 47, 108, 101, 97, 102, 47, 108, 101, 97, 102, 47, 122, 122, 108, 97, 119, 115, 95, 114, 111, 111, 116, 95, 103, 49, 46, 70, 110, 68, 101, 108, 101, 116, 101, 65, 108, 108, 82, 101, 109, 111, 118, 101, 115, 69, 120, 97, 99, 116, 108, 121, 84, 104, 101, 78, 97, 109, 101, 100, 32, 101, 120, 97, 109, 112, 108, 101, 46, 99, 111, 109, 47, 108, 101, 97, 102, 47, 108, 101, 97, 102, 47, 122, 122, 108, 97, 119, 115, 95, 114, 111, 111, 116, 95, 103, 49, 46, 70, 110, 80, 114, 111, 98, 108, 101, 109, 76, 105, 115, 116, 68, 101, 99, 111, 100, 101, 115, 66, 97, 99, 107, 32, 101, 120, 97, 109, 112, 108, 101, 46, 99, 111, 109, 47, 108, 101, 97, 102, 47, 108, 101, 97, 102, 47, 122, 122, 108, 97, 119, 115, 95, 114, 111, 111, 116, 95, 103, 50, 46, 70, 110, 83, 116, 97, 110, 122, 97, 83, 101, 116, 76, 105, 110, 101, 115, 82, 111, 117, 110, 100, 84, 114, 105, 112, 115, 84, 104, 114, 111, 117, 103, 104, 70, 105, 101, 108, 100, 76, 105, 110, 101, 115, 32, 101, 120, 97, 109, 112, 108, 101, 46, 99, 111, 109, 47, 108, 101, 97, 102, 47, 108, 101, 97, 102, 47, 122, 122, 108, 97, 119, 115, 95, 114, 111, 111, 116, 95, 103, 50, 46, 70, 110, 83, 116, 97, 110, 122, 97, 68, 101, 108, 101, 116, 101, 65, 108, 108, 75, 101, 101, 112, 115, 69, 97, 99, 104, 82, 101, 109, 97, 105, 110, 105, 110, 103, 70, 105, 101, 108, 100, 115, 76, 105, 110, 101]
def rest : List Char := (codes.drop 77).map Char.ofNat
def sum : List Char := ((codes.drop 8).take 64).map Char.ofNat
theorem ord : Try.prog.initOrder = String.ofList (codes.map Char.ofNat) := by kernel_rfl
theorem cuts : codes.map Char.ofNat = "harness".toList ++ ' ' :: (sum ++ ' ' :: ("cut".toList ++ ' ' :: rest)) := by kernel_rfl
theorem ordL : Try.prog.initOrder.toList = "harness".toList ++ ' ' :: (sum ++ ' ' :: ("cut".toList ++ ' ' :: rest)) := by rw [ord, String.toList_ofList, cuts]
theorem behind : behindMainWord (wordsSigns Try.prog.initOrder.toList) = "cut".toList :: wordsSigns rest := by
  rw [ordL, words_cons _ _ (by decide), words_cons sum _ (by decide +kernel), words_cons _ _ (by decide)]
  rw [behindMainWord, if_pos (by kernel_rfl)]
theorem d1 : Try.prog.laysLater = false := by kernel_rfl
theorem d2 : Try.prog.bearsReflect = false := by kernel_rfl
theorem d3 : Try.prog.doorFits [] = true := by kernel_rfl
theorem k1 : (fun (P : Program) (f : FuncId) (fn : Func) (s : ChangeSpec) (c : OpenClaim) => (c.wf (OpenSpec.ofChange s) : Bool)) Try.prog 5 Try.f5 Rows.fnAppendFieldReadsBackSpec Rows.fnAppendFieldReadsBackRow = true := by kernel_rfl
theorem k2 : (fun (P : Program) (f : FuncId) (fn : Func) (s : ChangeSpec) (c : OpenClaim) => (laidOutB P : Bool)) Try.prog 5 Try.f5 Rows.fnAppendFieldReadsBackSpec Rows.fnAppendFieldReadsBackRow = true := by kernel_rfl
theorem k3 : (fun (P : Program) (f : FuncId) (fn : Func) (s : ChangeSpec) (c : OpenClaim) => (mapsRowed P : Bool)) Try.prog 5 Try.f5 Rows.fnAppendFieldReadsBackSpec Rows.fnAppendFieldReadsBackRow = true := by kernel_rfl
theorem k4 : (fun (P : Program) (f : FuncId) (fn : Func) (s : ChangeSpec) (c : OpenClaim) => (fn.params.all (P.readableRec ·) : Bool)) Try.prog 5 Try.f5 Rows.fnAppendFieldReadsBackSpec Rows.fnAppendFieldReadsBackRow = true := by kernel_rfl
theorem k5 : (fun (P : Program) (f : FuncId) (fn : Func) (s : ChangeSpec) (c : OpenClaim) => (namedTie P c.named s.vars : Bool)) Try.prog 5 Try.f5 Rows.fnAppendFieldReadsBackSpec Rows.fnAppendFieldReadsBackRow = true := by kernel_rfl
theorem k6 : (fun (P : Program) (f : FuncId) (fn : Func) (s : ChangeSpec) (c : OpenClaim) => ((c.stops == []) : Bool)) Try.prog 5 Try.f5 Rows.fnAppendFieldReadsBackSpec Rows.fnAppendFieldReadsBackRow = true := by kernel_rfl
theorem k7 : (fun (P : Program) (f : FuncId) (fn : Func) (s : ChangeSpec) (c : OpenClaim) => ((P.stops == []) : Bool)) Try.prog 5 Try.f5 Rows.fnAppendFieldReadsBackSpec Rows.fnAppendFieldReadsBackRow = true := by kernel_rfl
theorem k8 : (fun (P : Program) (f : FuncId) (fn : Func) (s : ChangeSpec) (c : OpenClaim) => ((c.knobs == []) : Bool)) Try.prog 5 Try.f5 Rows.fnAppendFieldReadsBackSpec Rows.fnAppendFieldReadsBackRow = true := by kernel_rfl
theorem k9 : (fun (P : Program) (f : FuncId) (fn : Func) (s : ChangeSpec) (c : OpenClaim) => ((P.stopKnobs == []) : Bool)) Try.prog 5 Try.f5 Rows.fnAppendFieldReadsBackSpec Rows.fnAppendFieldReadsBackRow = true := by kernel_rfl
theorem k10 : (fun (P : Program) (f : FuncId) (fn : Func) (s : ChangeSpec) (c : OpenClaim) => ((c.inPlace == P.inPlace f) : Bool)) Try.prog 5 Try.f5 Rows.fnAppendFieldReadsBackSpec Rows.fnAppendFieldReadsBackRow = true := by kernel_rfl
theorem k11 : (fun (P : Program) (f : FuncId) (fn : Func) (s : ChangeSpec) (c : OpenClaim) => ((c.unfollowed == P.unfollowed f) : Bool)) Try.prog 5 Try.f5 Rows.fnAppendFieldReadsBackSpec Rows.fnAppendFieldReadsBackRow = true := by kernel_rfl
theorem k12 : (fun (P : Program) (f : FuncId) (fn : Func) (s : ChangeSpec) (c : OpenClaim) => ((c.recurses == P.recurses f) : Bool)) Try.prog 5 Try.f5 Rows.fnAppendFieldReadsBackSpec Rows.fnAppendFieldReadsBackRow = true := by kernel_rfl
theorem k13 : (fun (P : Program) (f : FuncId) (fn : Func) (s : ChangeSpec) (c : OpenClaim) => ((c.named == P.varsNamed f) : Bool)) Try.prog 5 Try.f5 Rows.fnAppendFieldReadsBackSpec Rows.fnAppendFieldReadsBackRow = true := by kernel_rfl
theorem k14 : (fun (P : Program) (f : FuncId) (fn : Func) (s : ChangeSpec) (c : OpenClaim) => ((c.maps == (fn.params.toList ++ s.plain.varTypes P).any (P.mapsRec ·)) : Bool)) Try.prog 5 Try.f5 Rows.fnAppendFieldReadsBackSpec Rows.fnAppendFieldReadsBackRow = true := by kernel_rfl
theorem k15 : (fun (P : Program) (f : FuncId) (fn : Func) (s : ChangeSpec) (c : OpenClaim) => ((c.ifaces == (fn.params.toList ++ s.plain.varTypes P).any (P.ifacesRec ·)) : Bool)) Try.prog 5 Try.f5 Rows.fnAppendFieldReadsBackSpec Rows.fnAppendFieldReadsBackRow = true := by kernel_rfl
theorem k16 : (fun (P : Program) (f : FuncId) (fn : Func) (s : ChangeSpec) (c : OpenClaim) => ((c.mapsOut == P.mapsAmong fn.resultTypes.toList) : Bool)) Try.prog 5 Try.f5 Rows.fnAppendFieldReadsBackSpec Rows.fnAppendFieldReadsBackRow = true := by kernel_rfl
theorem k17 : (fun (P : Program) (f : FuncId) (fn : Func) (s : ChangeSpec) (c : OpenClaim) => ((c.loops == (fn.params.toList ++ s.plain.varTypes P).any (P.loopsFrom ·)) : Bool)) Try.prog 5 Try.f5 Rows.fnAppendFieldReadsBackSpec Rows.fnAppendFieldReadsBackRow = true := by kernel_rfl
theorem k18 : (fun (P : Program) (f : FuncId) (fn : Func) (s : ChangeSpec) (c : OpenClaim) => ((c.wideKeys == (fn.params.toList ++ s.plain.varTypes P ++ fn.resultTypes.toList).any (P.wideKeysFrom ·)) : Bool)) Try.prog 5 Try.f5 Rows.fnAppendFieldReadsBackSpec Rows.fnAppendFieldReadsBackRow = true := by kernel_rfl
theorem k19 : (fun (P : Program) (f : FuncId) (fn : Func) (s : ChangeSpec) (c : OpenClaim) => (s.vars.all (P.varReadable ·) : Bool)) Try.prog 5 Try.f5 Rows.fnAppendFieldReadsBackSpec Rows.fnAppendFieldReadsBackRow = true := by kernel_rfl
theorem k20 : (fun (P : Program) (f : FuncId) (fn : Func) (s : ChangeSpec) (c : OpenClaim) => (fn.resultTypes.all (fun t => P.readableRec t && decide (t < P.types.size)) : Bool)) Try.prog 5 Try.f5 Rows.fnAppendFieldReadsBackSpec Rows.fnAppendFieldReadsBackRow = true := by kernel_rfl
theorem k21 : (fun (P : Program) (f : FuncId) (fn : Func) (s : ChangeSpec) (c : OpenClaim) => ((c.ifacesOut == fn.resultTypes.toList.any (P.ifacesRec ·)) : Bool)) Try.prog 5 Try.f5 Rows.fnAppendFieldReadsBackSpec Rows.fnAppendFieldReadsBackRow = true := by kernel_rfl
theorem k22 : (fun (P : Program) (f : FuncId) (fn : Func) (s : ChangeSpec) (c : OpenClaim) => ((c.loopsOut == fn.resultTypes.toList.any (P.loopsFrom ·)) : Bool)) Try.prog 5 Try.f5 Rows.fnAppendFieldReadsBackSpec Rows.fnAppendFieldReadsBackRow = true := by kernel_rfl
theorem k23 : (fun (P : Program) (f : FuncId) (fn : Func) (s : ChangeSpec) (c : OpenClaim) => ((c.plainKeys == P.plainKeys) : Bool)) Try.prog 5 Try.f5 Rows.fnAppendFieldReadsBackSpec Rows.fnAppendFieldReadsBackRow = true := by kernel_rfl
theorem k24 : (fun (P : Program) (f : FuncId) (fn : Func) (s : ChangeSpec) (c : OpenClaim) => (c.shortTexts.isNone : Bool)) Try.prog 5 Try.f5 Rows.fnAppendFieldReadsBackSpec Rows.fnAppendFieldReadsBackRow = true := by kernel_rfl
theorem k25 : (fun (P : Program) (f : FuncId) (fn : Func) (s : ChangeSpec) (c : OpenClaim) => (P.stopsHeard : Bool)) Try.prog 5 Try.f5 Rows.fnAppendFieldReadsBackSpec Rows.fnAppendFieldReadsBackRow = true := by kernel_rfl
theorem k26 : (fun (P : Program) (f : FuncId) (fn : Func) (s : ChangeSpec) (c : OpenClaim) => (P.mayEnter : Bool)) Try.prog 5 Try.f5 Rows.fnAppendFieldReadsBackSpec Rows.fnAppendFieldReadsBackRow = true := enter_of behind d1 d2 d3
theorem k27 : (fun (P : Program) (f : FuncId) (fn : Func) (s : ChangeSpec) (c : OpenClaim) => ((c.lifted == P.liftsFinal) : Bool)) Try.prog 5 Try.f5 Rows.fnAppendFieldReadsBackSpec Rows.fnAppendFieldReadsBackRow = true := by
  show (Rows.fnAppendFieldReadsBackRow.lifted == Try.prog.liftsFinal) = true
  rw [lifts_of behind]
  kernel_rfl
theorem k28 : (fun (P : Program) (f : FuncId) (fn : Func) (s : ChangeSpec) (c : OpenClaim) => ((P.make == some c.make) : Bool)) Try.prog 5 Try.f5 Rows.fnAppendFieldReadsBackSpec Rows.fnAppendFieldReadsBackRow = true := by
  show (Try.prog.make == some Rows.fnAppendFieldReadsBackRow.make) = true
  rw [make_of behind]
  kernel_rfl
theorem k29 : (fun (P : Program) (f : FuncId) (fn : Func) (s : ChangeSpec) (c : OpenClaim) => ((c.kinds == (if c.domain.isEmpty then [] else fn.params.toList.map fun t => match P.underlying t with | some (.int k) => some k | _ => none)) : Bool)) Try.prog 5 Try.f5 Rows.fnAppendFieldReadsBackSpec Rows.fnAppendFieldReadsBackRow = true := by kernel_rfl
theorem k30 : (fun (P : Program) (f : FuncId) (fn : Func) (s : ChangeSpec) (c : OpenClaim) => ((c.pinned == c.pinnedBy) : Bool)) Try.prog 5 Try.f5 Rows.fnAppendFieldReadsBackSpec Rows.fnAppendFieldReadsBackRow = true := by kernel_rfl
theorem k31 : (fun (P : Program) (f : FuncId) (fn : Func) (s : ChangeSpec) (c : OpenClaim) => ((c.veiled == (fn.params.toList ++ s.plain.varTypes P ++ fn.resultTypes.toList).any (P.veiledRec ·)) : Bool)) Try.prog 5 Try.f5 Rows.fnAppendFieldReadsBackSpec Rows.fnAppendFieldReadsBackRow = true := by kernel_rfl
theorem k32 : (fun (P : Program) (f : FuncId) (fn : Func) (s : ChangeSpec) (c : OpenClaim) => (c.veiledFits P fn.params.toList (fn.params.toList ++ s.plain.varTypes P ++ fn.resultTypes.toList) : Bool)) Try.prog 5 Try.f5 Rows.fnAppendFieldReadsBackSpec Rows.fnAppendFieldReadsBackRow = true := by kernel_rfl
theorem all : joinedFacts Try.prog 5 Try.f5 Rows.fnAppendFieldReadsBackSpec Rows.fnAppendFieldReadsBackRow = true := joined_of k1 k2 k3 k4 k5 k6 k7 k8 k9 k10 k11 k12 k13 k14 k15 k16 k17 k18 k19 k20 k21 k22 k23 k24 k25 k26 k27 k28 k29 k30 k31 k32
end Go.Proofs.Qxb6001690a.Facts
