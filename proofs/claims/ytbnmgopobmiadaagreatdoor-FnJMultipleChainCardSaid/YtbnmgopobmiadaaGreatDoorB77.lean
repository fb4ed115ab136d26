/- FnJMultipleChain's row: the closed facts, one by one. -/
import Derived.Test.YtbnmgopobmiadaaGreatDoorRows
import Derived.JoinedOf

set_option linter.unusedSimpArgs false
set_option linter.unusedVariables false

namespace Go.Proofs.YtbnmgopobmiadaaGreatDoor
open Go

theorem joined_of (P : Program) (f : FuncId) (fn : Func) (s : ChangeSpec) (c : OpenClaim)
    (k0 : (c.wf (OpenSpec.ofChange s)) = true)
    (k1 : (laidOutB P) = true)
    (k2 : (mapsRowed P) = true)
    (k3 : (fn.params.all (P.readableRec ·)) = true)
    (k4 : (namedTie P c.named s.vars) = true)
    (k5 : ((c.stops == [])) = true)
    (k6 : ((P.stops == [])) = true)
    (k7 : ((c.knobs == [])) = true)
    (k8 : ((P.stopKnobs == [])) = true)
    (k9 : ((c.inPlace == P.inPlace f)) = true)
    (k10 : ((c.unfollowed == P.unfollowed f)) = true)
    (k11 : ((c.recurses == P.recurses f)) = true)
    (k12 : ((c.named == P.varsNamed f)) = true)
    (k13 : ((c.maps == (fn.params.toList ++ s.plain.varTypes P).any (P.mapsRec ·))) = true)
    (k14 : ((c.ifaces == (fn.params.toList ++ s.plain.varTypes P).any (P.ifacesRec ·))) = true)
    (k15 : ((c.mapsOut == P.mapsAmong fn.resultTypes.toList)) = true)
    (k16 : ((c.loops == (fn.params.toList ++ s.plain.varTypes P).any (P.loopsFrom ·))) = true)
    (k17 : ((c.wideKeys == (fn.params.toList ++ s.plain.varTypes P ++ fn.resultTypes.toList).any (P.wideKeysFrom ·))) = true)
    (k18 : (s.vars.all (P.varReadable ·)) = true)
    (k19 : (fn.resultTypes.all (fun t => P.readableRec t && decide (t < P.types.size))) = true)
    (k20 : ((c.ifacesOut == fn.resultTypes.toList.any (P.ifacesRec ·))) = true)
    (k21 : ((c.loopsOut == fn.resultTypes.toList.any (P.loopsFrom ·))) = true)
    (k22 : ((c.plainKeys == P.plainKeys)) = true)
    (k23 : (c.shortTexts.isNone) = true)
    (k24 : (P.stopsHeard) = true)
    (k25 : (P.mayEnter) = true)
    (k26 : ((c.lifted == P.liftsFinal)) = true)
    (k27 : ((P.make == some c.make)) = true)
    (k28 : ((c.kinds == [])) = true)
    (k29 : ((c.pinned == c.pinnedBy)) = true)
    (k30 : ((c.veiled == (fn.params.toList ++ s.plain.varTypes P ++ fn.resultTypes.toList).any (P.veiledRec ·))) = true)
    (k31 : (c.veiledFits P fn.params.toList (fn.params.toList ++ s.plain.varTypes P ++ fn.resultTypes.toList)) = true) (kd : c.domain.isEmpty = true) : joinedFacts P f fn s c = true := by
  unfold joinedFacts
  rw [k0, k1, k2, k3, k4, k5, k6, k7, k8, k9, k10, k11, k12, k13, k14, k15, k16, k17, k18, k19, k20, k21, k22, k23, k24, k25, k26, k27, if_pos kd, k28, k29, k30, k31]
  rfl

theorem jf0 : (Rows.fnJMultipleChainRow.wf (OpenSpec.ofChange Rows.fnJMultipleChainSpec)) = true := by kernel_rfl
theorem jf1 : (laidOutB Tryz.prog) = true := by kernel_rfl
theorem jf2 : (mapsRowed Tryz.prog) = true := by kernel_rfl
theorem jf3 : (Tryz.f3.params.all (Tryz.prog.readableRec ·)) = true := by kernel_rfl
theorem jf4 : (namedTie Tryz.prog Rows.fnJMultipleChainRow.named Rows.fnJMultipleChainSpec.vars) = true := by kernel_rfl
theorem jf5 : ((Rows.fnJMultipleChainRow.stops == [])) = true := by kernel_rfl
theorem jf6 : ((Tryz.prog.stops == [])) = true := by kernel_rfl
theorem jf7 : ((Rows.fnJMultipleChainRow.knobs == [])) = true := by kernel_rfl
theorem jf8 : ((Tryz.prog.stopKnobs == [])) = true := by kernel_rfl
theorem jf9 : ((Rows.fnJMultipleChainRow.inPlace == Tryz.prog.inPlace 3)) = true := by kernel_rfl
theorem jf10 : ((Rows.fnJMultipleChainRow.unfollowed == Tryz.prog.unfollowed 3)) = true := by kernel_rfl
theorem jf11 : ((Rows.fnJMultipleChainRow.recurses == Tryz.prog.recurses 3)) = true := by kernel_rfl
theorem jf12 : ((Rows.fnJMultipleChainRow.named == Tryz.prog.varsNamed 3)) = true := by kernel_rfl
theorem jf13 : ((Rows.fnJMultipleChainRow.maps == (Tryz.f3.params.toList ++ Rows.fnJMultipleChainSpec.plain.varTypes Tryz.prog).any (Tryz.prog.mapsRec ·))) = true := by kernel_rfl
theorem jf14 : ((Rows.fnJMultipleChainRow.ifaces == (Tryz.f3.params.toList ++ Rows.fnJMultipleChainSpec.plain.varTypes Tryz.prog).any (Tryz.prog.ifacesRec ·))) = true := by kernel_rfl
theorem jf15 : ((Rows.fnJMultipleChainRow.mapsOut == Tryz.prog.mapsAmong Tryz.f3.resultTypes.toList)) = true := by kernel_rfl
theorem jf16 : ((Rows.fnJMultipleChainRow.loops == (Tryz.f3.params.toList ++ Rows.fnJMultipleChainSpec.plain.varTypes Tryz.prog).any (Tryz.prog.loopsFrom ·))) = true := by kernel_rfl
theorem jf17 : ((Rows.fnJMultipleChainRow.wideKeys == (Tryz.f3.params.toList ++ Rows.fnJMultipleChainSpec.plain.varTypes Tryz.prog ++ Tryz.f3.resultTypes.toList).any (Tryz.prog.wideKeysFrom ·))) = true := by kernel_rfl
theorem jf18 : (Rows.fnJMultipleChainSpec.vars.all (Tryz.prog.varReadable ·)) = true := by kernel_rfl
theorem jf19 : (Tryz.f3.resultTypes.all (fun t => Tryz.prog.readableRec t && decide (t < Tryz.prog.types.size))) = true := by kernel_rfl
theorem jf20 : ((Rows.fnJMultipleChainRow.ifacesOut == Tryz.f3.resultTypes.toList.any (Tryz.prog.ifacesRec ·))) = true := by kernel_rfl
theorem jf21 : ((Rows.fnJMultipleChainRow.loopsOut == Tryz.f3.resultTypes.toList.any (Tryz.prog.loopsFrom ·))) = true := by kernel_rfl
theorem jf22 : ((Rows.fnJMultipleChainRow.plainKeys == Tryz.prog.plainKeys)) = true := by kernel_rfl
theorem jf23 : (Rows.fnJMultipleChainRow.shortTexts.isNone) = true := by kernel_rfl
theorem jf24 : (Tryz.prog.stopsHeard) = true := by kernel_rfl
theorem jf25 : (Tryz.prog.mayEnter) = true := by kernel_rfl
theorem jf26 : ((Rows.fnJMultipleChainRow.lifted == Tryz.prog.liftsFinal)) = true := by kernel_rfl
theorem jf27 : ((Tryz.prog.make == some Rows.fnJMultipleChainRow.make)) = true := by kernel_rfl
theorem jf28 : ((Rows.fnJMultipleChainRow.kinds == [])) = true := by kernel_rfl
theorem jf29 : ((Rows.fnJMultipleChainRow.pinned == Rows.fnJMultipleChainRow.pinnedBy)) = true := by kernel_rfl
theorem jf30 : ((Rows.fnJMultipleChainRow.veiled == (Tryz.f3.params.toList ++ Rows.fnJMultipleChainSpec.plain.varTypes Tryz.prog ++ Tryz.f3.resultTypes.toList).any (Tryz.prog.veiledRec ·))) = true := by kernel_rfl
theorem jf31 : (Rows.fnJMultipleChainRow.veiledFits Tryz.prog Tryz.f3.params.toList (Tryz.f3.params.toList ++ Rows.fnJMultipleChainSpec.plain.varTypes Tryz.prog ++ Tryz.f3.resultTypes.toList)) = true := by kernel_rfl
theorem joinedAll : joinedFacts Tryz.prog 3 Tryz.f3 Rows.fnJMultipleChainSpec Rows.fnJMultipleChainRow = true :=
  joined_of _ _ _ _ _ jf0 jf1 jf2 jf3 jf4 jf5 jf6 jf7 jf8 jf9 jf10 jf11 jf12 jf13 jf14 jf15 jf16 jf17 jf18 jf19 jf20 jf21 jf22 jf23 jf24 jf25 jf26 jf27 jf28 jf29 jf30 jf31 (by kernel_rfl)
end Go.Proofs.YtbnmgopobmiadaaGreatDoor
