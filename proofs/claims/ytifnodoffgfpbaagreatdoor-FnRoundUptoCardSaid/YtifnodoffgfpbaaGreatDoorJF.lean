/- The row's closed facts, each by itself. -/
import Derived.Test.YtifnodoffgfpbaaGreatDoorCards
import Derived.JoinedCond
namespace Go.Proofs.YtifnodoffgfpbaaGreatDoor
namespace lawRound
open Go
set_option maxRecDepth 100000
theorem jf1 : (Rows.fnRoundUptoRow.wf (OpenSpec.ofChange (Rows.OpenSpec.upto Rows.fnRoundSpec).bare)) = true := by kernel_rfl
theorem jf2 : (laidOutB Tryz.prog) = true := by kernel_rfl
theorem jf3 : (mapsRowed Tryz.prog) = true := by kernel_rfl
theorem jf4 : (Tryz.f3.params.all (Tryz.prog.readableRec ·)) = true := by kernel_rfl
theorem jf5 : (namedTie Tryz.prog Rows.fnRoundUptoRow.named (Rows.OpenSpec.upto Rows.fnRoundSpec).bare.vars) = true := by kernel_rfl
theorem jf6 : ((Rows.fnRoundUptoRow.stops == [])) = true := by kernel_rfl
theorem jf7 : ((Tryz.prog.stops == [])) = true := by kernel_rfl
theorem jf8 : ((Rows.fnRoundUptoRow.knobs == [])) = true := by kernel_rfl
theorem jf9 : ((Tryz.prog.stopKnobs == [])) = true := by kernel_rfl
theorem jf10 : ((Rows.fnRoundUptoRow.inPlace == Tryz.prog.inPlace 3)) = true := by kernel_rfl
theorem jf11 : ((Rows.fnRoundUptoRow.unfollowed == Tryz.prog.unfollowed 3)) = true := by kernel_rfl
theorem jf12 : ((Rows.fnRoundUptoRow.recurses == Tryz.prog.recurses 3)) = true := by kernel_rfl
theorem jf13 : ((Rows.fnRoundUptoRow.named == Tryz.prog.varsNamed 3)) = true := by kernel_rfl
theorem jf14 : ((Rows.fnRoundUptoRow.maps == (Tryz.f3.params.toList ++ (Rows.OpenSpec.upto Rows.fnRoundSpec).bare.plain.varTypes Tryz.prog).any (Tryz.prog.mapsRec ·))) = true := by kernel_rfl
theorem jf15 : ((Rows.fnRoundUptoRow.ifaces == (Tryz.f3.params.toList ++ (Rows.OpenSpec.upto Rows.fnRoundSpec).bare.plain.varTypes Tryz.prog).any (Tryz.prog.ifacesRec ·))) = true := by kernel_rfl
theorem jf16 : ((Rows.fnRoundUptoRow.mapsOut == Tryz.prog.mapsAmong Tryz.f3.resultTypes.toList)) = true := by kernel_rfl
theorem jf17 : ((Rows.fnRoundUptoRow.loops == (Tryz.f3.params.toList ++ (Rows.OpenSpec.upto Rows.fnRoundSpec).bare.plain.varTypes Tryz.prog).any (Tryz.prog.loopsFrom ·))) = true := by kernel_rfl
theorem jf18 : ((Rows.fnRoundUptoRow.wideKeys == (Tryz.f3.params.toList ++ (Rows.OpenSpec.upto Rows.fnRoundSpec).bare.plain.varTypes Tryz.prog ++ Tryz.f3.resultTypes.toList).any (Tryz.prog.wideKeysFrom ·))) = true := by kernel_rfl
theorem jf19 : ((Rows.OpenSpec.upto Rows.fnRoundSpec).bare.vars.all (Tryz.prog.varReadable ·)) = true := by kernel_rfl
theorem jf20 : (Tryz.f3.resultTypes.all (fun t => Tryz.prog.readableRec t && decide (t < Tryz.prog.types.size))) = true := by kernel_rfl
theorem jf21 : ((Rows.fnRoundUptoRow.ifacesOut == Tryz.f3.resultTypes.toList.any (Tryz.prog.ifacesRec ·))) = true := by kernel_rfl
theorem jf22 : ((Rows.fnRoundUptoRow.loopsOut == Tryz.f3.resultTypes.toList.any (Tryz.prog.loopsFrom ·))) = true := by kernel_rfl
theorem jf23 : ((Rows.fnRoundUptoRow.plainKeys == Tryz.prog.plainKeys)) = true := by kernel_rfl
theorem jf24 : (Rows.fnRoundUptoRow.shortTexts.isNone) = true := by kernel_rfl
theorem jf25 : (Tryz.prog.stopsHeard) = true := by kernel_rfl
theorem jf26 : (Tryz.prog.mayEnter) = true := by kernel_rfl
theorem jf27 : ((Rows.fnRoundUptoRow.lifted == Tryz.prog.liftsFinal)) = true := by kernel_rfl
theorem jf28 : ((Tryz.prog.make == some Rows.fnRoundUptoRow.make)) = true := by kernel_rfl
theorem jf29 : ((Rows.fnRoundUptoRow.pinned == Rows.fnRoundUptoRow.pinnedBy)) = true := by kernel_rfl
theorem jf30 : ((Rows.fnRoundUptoRow.veiled == (Tryz.f3.params.toList ++ (Rows.OpenSpec.upto Rows.fnRoundSpec).bare.plain.varTypes Tryz.prog ++ Tryz.f3.resultTypes.toList).any (Tryz.prog.veiledRec ·))) = true := by kernel_rfl
theorem jf31 : (Rows.fnRoundUptoRow.veiledFits Tryz.prog Tryz.f3.params.toList (Tryz.f3.params.toList ++ (Rows.OpenSpec.upto Rows.fnRoundSpec).bare.plain.varTypes Tryz.prog ++ Tryz.f3.resultTypes.toList)) = true := by kernel_rfl
theorem jall : joinedFacts Tryz.prog 3 Tryz.f3 (Rows.OpenSpec.upto Rows.fnRoundSpec).bare Rows.fnRoundUptoRow = true := by
  unfold joinedFacts
  rw [jf1, jf2, jf3, jf4, jf5, jf6, jf7, jf8, jf9, jf10, jf11, jf12, jf13, jf14, jf15, jf16, jf17, jf18, jf19, jf20, jf21, jf22, jf23, jf24, jf25, jf26, jf27, jf28, jf29, jf30, jf31]
  kernel_rfl
end lawRound
end Go.Proofs.YtifnodoffgfpbaaGreatDoor
