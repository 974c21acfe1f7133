import Derived.Test.Qxb6000643aModsHead
namespace Go.Proofs.Qxb6000643aMods.Facts.f6

theorem j0 : (Rows.fnCutAtLineFeedsIsFreeOfEveryBreakRow.wf (OpenSpec.ofChange Rows.fnCutAtLineFeedsIsFreeOfEveryBreakSpec)) = true := by kernel_rfl
theorem j1 : (laidOutB Trym.checked.prog) = true := by kernel_rfl
theorem j2 : (mapsRowed Trym.checked.prog) = true := by kernel_rfl
theorem j3 : (Trym.f6.params.all (Trym.checked.prog.readableRec ·)) = true := by kernel_rfl
theorem j4 : (namedTie Trym.checked.prog Rows.fnCutAtLineFeedsIsFreeOfEveryBreakRow.named Rows.fnCutAtLineFeedsIsFreeOfEveryBreakSpec.vars) = true := by kernel_rfl
theorem j5 : ((Rows.fnCutAtLineFeedsIsFreeOfEveryBreakRow.stops == [])) = true := by kernel_rfl
theorem j6 : ((Trym.checked.prog.stops == [])) = true := by kernel_rfl
theorem j7 : ((Rows.fnCutAtLineFeedsIsFreeOfEveryBreakRow.knobs == [])) = true := by kernel_rfl
theorem j8 : ((Trym.checked.prog.stopKnobs == [])) = true := by kernel_rfl
theorem j9 : ((Rows.fnCutAtLineFeedsIsFreeOfEveryBreakRow.inPlace == Trym.checked.prog.inPlace 6)) = true := by kernel_rfl
theorem j10 : ((Rows.fnCutAtLineFeedsIsFreeOfEveryBreakRow.unfollowed == Trym.checked.prog.unfollowed 6)) = true := by kernel_rfl
theorem j11 : ((Rows.fnCutAtLineFeedsIsFreeOfEveryBreakRow.recurses == Trym.checked.prog.recurses 6)) = true := by kernel_rfl
theorem j12 : ((Rows.fnCutAtLineFeedsIsFreeOfEveryBreakRow.named == Trym.checked.prog.varsNamed 6)) = true := by kernel_rfl
theorem j13 : ((Rows.fnCutAtLineFeedsIsFreeOfEveryBreakRow.maps == (Trym.f6.params.toList ++ Rows.fnCutAtLineFeedsIsFreeOfEveryBreakSpec.plain.varTypes Trym.checked.prog).any (Trym.checked.prog.mapsRec ·))) = true := by kernel_rfl
theorem j14 : ((Rows.fnCutAtLineFeedsIsFreeOfEveryBreakRow.ifaces == (Trym.f6.params.toList ++ Rows.fnCutAtLineFeedsIsFreeOfEveryBreakSpec.plain.varTypes Trym.checked.prog).any (Trym.checked.prog.ifacesRec ·))) = true := by kernel_rfl
theorem j15 : ((Rows.fnCutAtLineFeedsIsFreeOfEveryBreakRow.mapsOut == Trym.checked.prog.mapsAmong Trym.f6.resultTypes.toList)) = true := by kernel_rfl
theorem j16 : ((Rows.fnCutAtLineFeedsIsFreeOfEveryBreakRow.loops == (Trym.f6.params.toList ++ Rows.fnCutAtLineFeedsIsFreeOfEveryBreakSpec.plain.varTypes Trym.checked.prog).any (Trym.checked.prog.loopsFrom ·))) = true := by kernel_rfl
theorem j17 : ((Rows.fnCutAtLineFeedsIsFreeOfEveryBreakRow.wideKeys == (Trym.f6.params.toList ++ Rows.fnCutAtLineFeedsIsFreeOfEveryBreakSpec.plain.varTypes Trym.checked.prog ++ Trym.f6.resultTypes.toList).any (Trym.checked.prog.wideKeysFrom ·))) = true := by kernel_rfl
theorem j18 : (Rows.fnCutAtLineFeedsIsFreeOfEveryBreakSpec.vars.all (Trym.checked.prog.varReadable ·)) = true := by kernel_rfl
theorem j19 : (Trym.f6.resultTypes.all (fun t => Trym.checked.prog.readableRec t && decide (t < Trym.checked.prog.types.size))) = true := by kernel_rfl
theorem j20 : ((Rows.fnCutAtLineFeedsIsFreeOfEveryBreakRow.ifacesOut == Trym.f6.resultTypes.toList.any (Trym.checked.prog.ifacesRec ·))) = true := by kernel_rfl
theorem j21 : ((Rows.fnCutAtLineFeedsIsFreeOfEveryBreakRow.loopsOut == Trym.f6.resultTypes.toList.any (Trym.checked.prog.loopsFrom ·))) = true := by kernel_rfl
theorem j22 : ((Rows.fnCutAtLineFeedsIsFreeOfEveryBreakRow.plainKeys == Trym.checked.prog.plainKeys)) = true := by kernel_rfl
theorem j23 : (Rows.fnCutAtLineFeedsIsFreeOfEveryBreakRow.shortTexts.isNone) = true := by kernel_rfl
theorem j24 : (Trym.checked.prog.stopsHeard) = true := by kernel_rfl
theorem j25 : (Trym.checked.prog.mayEnter) = true := mayEnterIs
theorem j26 : ((Rows.fnCutAtLineFeedsIsFreeOfEveryBreakRow.lifted == Trym.checked.prog.liftsFinal)) = true := by
  rw [liftsFinalIs]
  kernel_rfl
theorem j27 : ((Trym.checked.prog.make == some Rows.fnCutAtLineFeedsIsFreeOfEveryBreakRow.make)) = true := by
  rw [makeIs]
  kernel_rfl
theorem j28 : ((Rows.fnCutAtLineFeedsIsFreeOfEveryBreakRow.kinds == (if Rows.fnCutAtLineFeedsIsFreeOfEveryBreakRow.domain.isEmpty then [] else Trym.f6.params.toList.map fun t => match Trym.checked.prog.underlying t with | some (.int k) => some k | _ => none))) = true := by kernel_rfl
theorem j29 : ((Rows.fnCutAtLineFeedsIsFreeOfEveryBreakRow.pinned == Rows.fnCutAtLineFeedsIsFreeOfEveryBreakRow.pinnedBy)) = true := by kernel_rfl
theorem j30 : ((Rows.fnCutAtLineFeedsIsFreeOfEveryBreakRow.veiled == (Trym.f6.params.toList ++ Rows.fnCutAtLineFeedsIsFreeOfEveryBreakSpec.plain.varTypes Trym.checked.prog ++ Trym.f6.resultTypes.toList).any (Trym.checked.prog.veiledRec ·))) = true := by kernel_rfl
theorem j31 : (Rows.fnCutAtLineFeedsIsFreeOfEveryBreakRow.veiledFits Trym.checked.prog Trym.f6.params.toList (Trym.f6.params.toList ++ Rows.fnCutAtLineFeedsIsFreeOfEveryBreakSpec.plain.varTypes Trym.checked.prog ++ Trym.f6.resultTypes.toList)) = true := by kernel_rfl
theorem closed : joinedFacts Trym.checked.prog 6 Trym.f6 Rows.fnCutAtLineFeedsIsFreeOfEveryBreakSpec Rows.fnCutAtLineFeedsIsFreeOfEveryBreakRow = true := by
  simp only [joinedFacts, Bool.and_eq_true]
  exact ⟨⟨⟨⟨⟨⟨⟨⟨⟨⟨⟨⟨⟨⟨⟨⟨⟨⟨⟨⟨⟨⟨⟨⟨⟨⟨⟨⟨⟨⟨⟨j0, j1⟩, j2⟩, j3⟩, j4⟩, j5⟩, j6⟩, j7⟩, j8⟩, j9⟩, j10⟩, j11⟩, j12⟩, j13⟩, j14⟩, j15⟩, j16⟩, j17⟩, j18⟩, j19⟩, j20⟩, j21⟩, j22⟩, j23⟩, j24⟩, j25⟩, j26⟩, j27⟩, j28⟩, j29⟩, j30⟩, j31⟩

end Go.Proofs.Qxb6000643aMods.Facts.f6
