import Derived.Test.Qxb6000643aModsHead
namespace Go.Proofs.Qxb6000643aMods.Facts.f4

theorem j0 : (Rows.fnNextBlockHoldsTheByteAfterTheLineAndGrowsWithItRow.wf (OpenSpec.ofChange Rows.fnNextBlockHoldsTheByteAfterTheLineAndGrowsWithItSpec)) = true := by kernel_rfl
theorem j1 : (laidOutB Trym.checked.prog) = true := by kernel_rfl
theorem j2 : (mapsRowed Trym.checked.prog) = true := by kernel_rfl
theorem j3 : (Trym.f4.params.all (Trym.checked.prog.readableRec ·)) = true := by kernel_rfl
theorem j4 : (namedTie Trym.checked.prog Rows.fnNextBlockHoldsTheByteAfterTheLineAndGrowsWithItRow.named Rows.fnNextBlockHoldsTheByteAfterTheLineAndGrowsWithItSpec.vars) = true := by kernel_rfl
theorem j5 : ((Rows.fnNextBlockHoldsTheByteAfterTheLineAndGrowsWithItRow.stops == [])) = true := by kernel_rfl
theorem j6 : ((Trym.checked.prog.stops == [])) = true := by kernel_rfl
theorem j7 : ((Rows.fnNextBlockHoldsTheByteAfterTheLineAndGrowsWithItRow.knobs == [])) = true := by kernel_rfl
theorem j8 : ((Trym.checked.prog.stopKnobs == [])) = true := by kernel_rfl
theorem j9 : ((Rows.fnNextBlockHoldsTheByteAfterTheLineAndGrowsWithItRow.inPlace == Trym.checked.prog.inPlace 4)) = true := by kernel_rfl
theorem j10 : ((Rows.fnNextBlockHoldsTheByteAfterTheLineAndGrowsWithItRow.unfollowed == Trym.checked.prog.unfollowed 4)) = true := by kernel_rfl
theorem j11 : ((Rows.fnNextBlockHoldsTheByteAfterTheLineAndGrowsWithItRow.recurses == Trym.checked.prog.recurses 4)) = true := by kernel_rfl
theorem j12 : ((Rows.fnNextBlockHoldsTheByteAfterTheLineAndGrowsWithItRow.named == Trym.checked.prog.varsNamed 4)) = true := by kernel_rfl
theorem j13 : ((Rows.fnNextBlockHoldsTheByteAfterTheLineAndGrowsWithItRow.maps == (Trym.f4.params.toList ++ Rows.fnNextBlockHoldsTheByteAfterTheLineAndGrowsWithItSpec.plain.varTypes Trym.checked.prog).any (Trym.checked.prog.mapsRec ·))) = true := by kernel_rfl
theorem j14 : ((Rows.fnNextBlockHoldsTheByteAfterTheLineAndGrowsWithItRow.ifaces == (Trym.f4.params.toList ++ Rows.fnNextBlockHoldsTheByteAfterTheLineAndGrowsWithItSpec.plain.varTypes Trym.checked.prog).any (Trym.checked.prog.ifacesRec ·))) = true := by kernel_rfl
theorem j15 : ((Rows.fnNextBlockHoldsTheByteAfterTheLineAndGrowsWithItRow.mapsOut == Trym.checked.prog.mapsAmong Trym.f4.resultTypes.toList)) = true := by kernel_rfl
theorem j16 : ((Rows.fnNextBlockHoldsTheByteAfterTheLineAndGrowsWithItRow.loops == (Trym.f4.params.toList ++ Rows.fnNextBlockHoldsTheByteAfterTheLineAndGrowsWithItSpec.plain.varTypes Trym.checked.prog).any (Trym.checked.prog.loopsFrom ·))) = true := by kernel_rfl
theorem j17 : ((Rows.fnNextBlockHoldsTheByteAfterTheLineAndGrowsWithItRow.wideKeys == (Trym.f4.params.toList ++ Rows.fnNextBlockHoldsTheByteAfterTheLineAndGrowsWithItSpec.plain.varTypes Trym.checked.prog ++ Trym.f4.resultTypes.toList).any (Trym.checked.prog.wideKeysFrom ·))) = true := by kernel_rfl
theorem j18 : (Rows.fnNextBlockHoldsTheByteAfterTheLineAndGrowsWithItSpec.vars.all (Trym.checked.prog.varReadable ·)) = true := by kernel_rfl
theorem j19 : (Trym.f4.resultTypes.all (fun t => Trym.checked.prog.readableRec t && decide (t < Trym.checked.prog.types.size))) = true := by kernel_rfl
theorem j20 : ((Rows.fnNextBlockHoldsTheByteAfterTheLineAndGrowsWithItRow.ifacesOut == Trym.f4.resultTypes.toList.any (Trym.checked.prog.ifacesRec ·))) = true := by kernel_rfl
theorem j21 : ((Rows.fnNextBlockHoldsTheByteAfterTheLineAndGrowsWithItRow.loopsOut == Trym.f4.resultTypes.toList.any (Trym.checked.prog.loopsFrom ·))) = true := by kernel_rfl
theorem j22 : ((Rows.fnNextBlockHoldsTheByteAfterTheLineAndGrowsWithItRow.plainKeys == Trym.checked.prog.plainKeys)) = true := by kernel_rfl
theorem j23 : (Rows.fnNextBlockHoldsTheByteAfterTheLineAndGrowsWithItRow.shortTexts.isNone) = true := by kernel_rfl
theorem j24 : (Trym.checked.prog.stopsHeard) = true := by kernel_rfl
theorem j25 : (Trym.checked.prog.mayEnter) = true := mayEnterIs
theorem j26 : ((Rows.fnNextBlockHoldsTheByteAfterTheLineAndGrowsWithItRow.lifted == Trym.checked.prog.liftsFinal)) = true := by
  rw [liftsFinalIs]
  kernel_rfl
theorem j27 : ((Trym.checked.prog.make == some Rows.fnNextBlockHoldsTheByteAfterTheLineAndGrowsWithItRow.make)) = true := by
  rw [makeIs]
  kernel_rfl
theorem j28 : ((Rows.fnNextBlockHoldsTheByteAfterTheLineAndGrowsWithItRow.kinds == (if Rows.fnNextBlockHoldsTheByteAfterTheLineAndGrowsWithItRow.domain.isEmpty then [] else Trym.f4.params.toList.map fun t => match Trym.checked.prog.underlying t with | some (.int k) => some k | _ => none))) = true := by kernel_rfl
theorem j29 : ((Rows.fnNextBlockHoldsTheByteAfterTheLineAndGrowsWithItRow.pinned == Rows.fnNextBlockHoldsTheByteAfterTheLineAndGrowsWithItRow.pinnedBy)) = true := by kernel_rfl
theorem j30 : ((Rows.fnNextBlockHoldsTheByteAfterTheLineAndGrowsWithItRow.veiled == (Trym.f4.params.toList ++ Rows.fnNextBlockHoldsTheByteAfterTheLineAndGrowsWithItSpec.plain.varTypes Trym.checked.prog ++ Trym.f4.resultTypes.toList).any (Trym.checked.prog.veiledRec ·))) = true := by kernel_rfl
theorem j31 : (Rows.fnNextBlockHoldsTheByteAfterTheLineAndGrowsWithItRow.veiledFits Trym.checked.prog Trym.f4.params.toList (Trym.f4.params.toList ++ Rows.fnNextBlockHoldsTheByteAfterTheLineAndGrowsWithItSpec.plain.varTypes Trym.checked.prog ++ Trym.f4.resultTypes.toList)) = true := by kernel_rfl
theorem closed : joinedFacts Trym.checked.prog 4 Trym.f4 Rows.fnNextBlockHoldsTheByteAfterTheLineAndGrowsWithItSpec Rows.fnNextBlockHoldsTheByteAfterTheLineAndGrowsWithItRow = true := by
  simp only [joinedFacts, Bool.and_eq_true]
  exact ⟨⟨⟨⟨⟨⟨⟨⟨⟨⟨⟨⟨⟨⟨⟨⟨⟨⟨⟨⟨⟨⟨⟨⟨⟨⟨⟨⟨⟨⟨⟨j0, j1⟩, j2⟩, j3⟩, j4⟩, j5⟩, j6⟩, j7⟩, j8⟩, j9⟩, j10⟩, j11⟩, j12⟩, j13⟩, j14⟩, j15⟩, j16⟩, j17⟩, j18⟩, j19⟩, j20⟩, j21⟩, j22⟩, j23⟩, j24⟩, j25⟩, j26⟩, j27⟩, j28⟩, j29⟩, j30⟩, j31⟩

end Go.Proofs.Qxb6000643aMods.Facts.f4
