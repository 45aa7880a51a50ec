import Derived.Test.YtoejpgjanoideaaGreatDoorCards
import Derived.JoinedCond
namespace Go.Proofs.YtoejpgjanoideaaGreatDoor.F
theorem j7_0 : (Rows.fnGjEscapeOftenRow.wf (OpenSpec.ofChange (OpenSpec.ofChange Rows.fnGjEscapeOftenSpec).bare)) = true := by kernel_rfl
theorem j7_1 : (laidOutB Tryz.checked.prog) = true := by kernel_rfl
theorem j7_2 : (mapsRowed Tryz.checked.prog) = true := by kernel_rfl
theorem j7_3 : (Tryz.f7.params.all (Tryz.checked.prog.readableRec ·)) = true := by kernel_rfl
theorem j7_4 : (namedTie Tryz.checked.prog Rows.fnGjEscapeOftenRow.named (OpenSpec.ofChange Rows.fnGjEscapeOftenSpec).bare.vars) = true := by kernel_rfl
theorem j7_5 : ((Rows.fnGjEscapeOftenRow.stops == [])) = true := by kernel_rfl
theorem j7_6 : ((Tryz.checked.prog.stops == [])) = true := by kernel_rfl
theorem j7_7 : ((Rows.fnGjEscapeOftenRow.knobs == [])) = true := by kernel_rfl
theorem j7_8 : ((Tryz.checked.prog.stopKnobs == [])) = true := by kernel_rfl
theorem j7_9 : ((Rows.fnGjEscapeOftenRow.inPlace == Tryz.checked.prog.inPlace 7)) = true := by kernel_rfl
theorem j7_10 : ((Rows.fnGjEscapeOftenRow.unfollowed == Tryz.checked.prog.unfollowed 7)) = true := by kernel_rfl
theorem j7_11 : ((Rows.fnGjEscapeOftenRow.recurses == Tryz.checked.prog.recurses 7)) = true := by kernel_rfl
theorem j7_12 : ((Rows.fnGjEscapeOftenRow.named == Tryz.checked.prog.varsNamed 7)) = true := by kernel_rfl
theorem j7_13 : ((Rows.fnGjEscapeOftenRow.maps == (Tryz.f7.params.toList ++ (OpenSpec.ofChange Rows.fnGjEscapeOftenSpec).bare.plain.varTypes Tryz.checked.prog).any (Tryz.checked.prog.mapsRec ·))) = true := by kernel_rfl
theorem j7_14 : ((Rows.fnGjEscapeOftenRow.ifaces == (Tryz.f7.params.toList ++ (OpenSpec.ofChange Rows.fnGjEscapeOftenSpec).bare.plain.varTypes Tryz.checked.prog).any (Tryz.checked.prog.ifacesRec ·))) = true := by kernel_rfl
theorem j7_15 : ((Rows.fnGjEscapeOftenRow.mapsOut == Tryz.checked.prog.mapsAmong Tryz.f7.resultTypes.toList)) = true := by kernel_rfl
theorem j7_16 : ((Rows.fnGjEscapeOftenRow.loops == (Tryz.f7.params.toList ++ (OpenSpec.ofChange Rows.fnGjEscapeOftenSpec).bare.plain.varTypes Tryz.checked.prog).any (Tryz.checked.prog.loopsFrom ·))) = true := by kernel_rfl
theorem j7_17 : ((Rows.fnGjEscapeOftenRow.wideKeys == (Tryz.f7.params.toList ++ (OpenSpec.ofChange Rows.fnGjEscapeOftenSpec).bare.plain.varTypes Tryz.checked.prog ++ Tryz.f7.resultTypes.toList).any (Tryz.checked.prog.wideKeysFrom ·))) = true := by kernel_rfl
theorem j7_18 : ((OpenSpec.ofChange Rows.fnGjEscapeOftenSpec).bare.vars.all (Tryz.checked.prog.varReadable ·)) = true := by kernel_rfl
theorem j7_19 : (Tryz.f7.resultTypes.all (fun t => Tryz.checked.prog.readableRec t && decide (t < Tryz.checked.prog.types.size))) = true := by kernel_rfl
theorem j7_20 : ((Rows.fnGjEscapeOftenRow.ifacesOut == Tryz.f7.resultTypes.toList.any (Tryz.checked.prog.ifacesRec ·))) = true := by kernel_rfl
theorem j7_21 : ((Rows.fnGjEscapeOftenRow.loopsOut == Tryz.f7.resultTypes.toList.any (Tryz.checked.prog.loopsFrom ·))) = true := by kernel_rfl
theorem j7_22 : ((Rows.fnGjEscapeOftenRow.plainKeys == Tryz.checked.prog.plainKeys)) = true := by kernel_rfl
theorem j7_23 : (Rows.fnGjEscapeOftenRow.shortTexts.isNone) = true := by kernel_rfl
theorem j7_24 : (Tryz.checked.prog.stopsHeard) = true := by kernel_rfl
theorem j7_25 : (Tryz.checked.prog.mayEnter) = true := by kernel_rfl
theorem j7_26 : ((Rows.fnGjEscapeOftenRow.lifted == Tryz.checked.prog.liftsFinal)) = true := by kernel_rfl
theorem j7_27 : ((Tryz.checked.prog.make == some Rows.fnGjEscapeOftenRow.make)) = true := by kernel_rfl
theorem j7_28 : ((Rows.fnGjEscapeOftenRow.kinds == (if Rows.fnGjEscapeOftenRow.domain.isEmpty then [] else Tryz.f7.params.toList.map fun t => match Tryz.checked.prog.underlying t with | some (.int k) => some k | _ => none))) = true := by kernel_rfl
theorem j7_29 : ((Rows.fnGjEscapeOftenRow.pinned == Rows.fnGjEscapeOftenRow.pinnedBy)) = true := by kernel_rfl
theorem j7_30 : ((Rows.fnGjEscapeOftenRow.veiled == (Tryz.f7.params.toList ++ (OpenSpec.ofChange Rows.fnGjEscapeOftenSpec).bare.plain.varTypes Tryz.checked.prog ++ Tryz.f7.resultTypes.toList).any (Tryz.checked.prog.veiledRec ·))) = true := by kernel_rfl
theorem j7_31 : (Rows.fnGjEscapeOftenRow.veiledFits Tryz.checked.prog Tryz.f7.params.toList (Tryz.f7.params.toList ++ (OpenSpec.ofChange Rows.fnGjEscapeOftenSpec).bare.plain.varTypes Tryz.checked.prog ++ Tryz.f7.resultTypes.toList)) = true := by kernel_rfl
theorem and2 {a b : Bool} (h : a = true) (g : b = true) : (a && b) = true := by rw [h, g]; rfl
set_option maxRecDepth 100000 in
theorem closed7 : joinedFacts Tryz.checked.prog 7 Tryz.f7 (OpenSpec.ofChange Rows.fnGjEscapeOftenSpec).bare Rows.fnGjEscapeOftenRow = true := by
  unfold joinedFacts
  refine and2 ?_ j7_31
  refine and2 ?_ j7_30
  refine and2 ?_ j7_29
  refine and2 ?_ j7_28
  refine and2 ?_ j7_27
  refine and2 ?_ j7_26
  refine and2 ?_ j7_25
  refine and2 ?_ j7_24
  refine and2 ?_ j7_23
  refine and2 ?_ j7_22
  refine and2 ?_ j7_21
  refine and2 ?_ j7_20
  refine and2 ?_ j7_19
  refine and2 ?_ j7_18
  refine and2 ?_ j7_17
  refine and2 ?_ j7_16
  refine and2 ?_ j7_15
  refine and2 ?_ j7_14
  refine and2 ?_ j7_13
  refine and2 ?_ j7_12
  refine and2 ?_ j7_11
  refine and2 ?_ j7_10
  refine and2 ?_ j7_9
  refine and2 ?_ j7_8
  refine and2 ?_ j7_7
  refine and2 ?_ j7_6
  refine and2 ?_ j7_5
  refine and2 ?_ j7_4
  refine and2 ?_ j7_3
  refine and2 ?_ j7_2
  refine and2 ?_ j7_1
  exact j7_0
end Go.Proofs.YtoejpgjanoideaaGreatDoor.F
