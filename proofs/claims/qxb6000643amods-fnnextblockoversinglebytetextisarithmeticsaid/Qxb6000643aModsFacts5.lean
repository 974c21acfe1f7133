import Derived.Test.Qxb6000643aModsHead
namespace Go.Proofs.Qxb6000643aMods.Facts.f5

theorem j0 : (Rows.fnNextBlockOverSingleByteTextIsArithmeticRow.wf (OpenSpec.ofChange Rows.fnNextBlockOverSingleByteTextIsArithmeticSpec)) = true := by kernel_rfl
theorem j1 : (laidOutB Trym.checked.prog) = true := by kernel_rfl
theorem j2 : (mapsRowed Trym.checked.prog) = true := by kernel_rfl
theorem j3 : (Trym.f5.params.all (Trym.checked.prog.readableRec ·)) = true := by kernel_rfl
theorem j4 : (namedTie Trym.checked.prog Rows.fnNextBlockOverSingleByteTextIsArithmeticRow.named Rows.fnNextBlockOverSingleByteTextIsArithmeticSpec.vars) = true := by kernel_rfl
theorem j5 : ((Rows.fnNextBlockOverSingleByteTextIsArithmeticRow.stops == [])) = true := by kernel_rfl
theorem j6 : ((Trym.checked.prog.stops == [])) = true := by kernel_rfl
theorem j7 : ((Rows.fnNextBlockOverSingleByteTextIsArithmeticRow.knobs == [])) = true := by kernel_rfl
theorem j8 : ((Trym.checked.prog.stopKnobs == [])) = true := by kernel_rfl
theorem j9 : ((Rows.fnNextBlockOverSingleByteTextIsArithmeticRow.inPlace == Trym.checked.prog.inPlace 5)) = true := by kernel_rfl
theorem j10 : ((Rows.fnNextBlockOverSingleByteTextIsArithmeticRow.unfollowed == Trym.checked.prog.unfollowed 5)) = true := by kernel_rfl
theorem j11 : ((Rows.fnNextBlockOverSingleByteTextIsArithmeticRow.recurses == Trym.checked.prog.recurses 5)) = true := by kernel_rfl
theorem j12 : ((Rows.fnNextBlockOverSingleByteTextIsArithmeticRow.named == Trym.checked.prog.varsNamed 5)) = true := by kernel_rfl
theorem j13 : ((Rows.fnNextBlockOverSingleByteTextIsArithmeticRow.maps == (Trym.f5.params.toList ++ Rows.fnNextBlockOverSingleByteTextIsArithmeticSpec.plain.varTypes Trym.checked.prog).any (Trym.checked.prog.mapsRec ·))) = true := by kernel_rfl
theorem j14 : ((Rows.fnNextBlockOverSingleByteTextIsArithmeticRow.ifaces == (Trym.f5.params.toList ++ Rows.fnNextBlockOverSingleByteTextIsArithmeticSpec.plain.varTypes Trym.checked.prog).any (Trym.checked.prog.ifacesRec ·))) = true := by kernel_rfl
theorem j15 : ((Rows.fnNextBlockOverSingleByteTextIsArithmeticRow.mapsOut == Trym.checked.prog.mapsAmong Trym.f5.resultTypes.toList)) = true := by kernel_rfl
theorem j16 : ((Rows.fnNextBlockOverSingleByteTextIsArithmeticRow.loops == (Trym.f5.params.toList ++ Rows.fnNextBlockOverSingleByteTextIsArithmeticSpec.plain.varTypes Trym.checked.prog).any (Trym.checked.prog.loopsFrom ·))) = true := by kernel_rfl
theorem j17 : ((Rows.fnNextBlockOverSingleByteTextIsArithmeticRow.wideKeys == (Trym.f5.params.toList ++ Rows.fnNextBlockOverSingleByteTextIsArithmeticSpec.plain.varTypes Trym.checked.prog ++ Trym.f5.resultTypes.toList).any (Trym.checked.prog.wideKeysFrom ·))) = true := by kernel_rfl
theorem j18 : (Rows.fnNextBlockOverSingleByteTextIsArithmeticSpec.vars.all (Trym.checked.prog.varReadable ·)) = true := by kernel_rfl
theorem j19 : (Trym.f5.resultTypes.all (fun t => Trym.checked.prog.readableRec t && decide (t < Trym.checked.prog.types.size))) = true := by kernel_rfl
theorem j20 : ((Rows.fnNextBlockOverSingleByteTextIsArithmeticRow.ifacesOut == Trym.f5.resultTypes.toList.any (Trym.checked.prog.ifacesRec ·))) = true := by kernel_rfl
theorem j21 : ((Rows.fnNextBlockOverSingleByteTextIsArithmeticRow.loopsOut == Trym.f5.resultTypes.toList.any (Trym.checked.prog.loopsFrom ·))) = true := by kernel_rfl
theorem j22 : ((Rows.fnNextBlockOverSingleByteTextIsArithmeticRow.plainKeys == Trym.checked.prog.plainKeys)) = true := by kernel_rfl
theorem j23 : (Rows.fnNextBlockOverSingleByteTextIsArithmeticRow.shortTexts.isNone) = true := by kernel_rfl
theorem j24 : (Trym.checked.prog.stopsHeard) = true := by kernel_rfl
theorem j25 : (Trym.checked.prog.mayEnter) = true := mayEnterIs
theorem j26 : ((Rows.fnNextBlockOverSingleByteTextIsArithmeticRow.lifted == Trym.checked.prog.liftsFinal)) = true := by
  rw [liftsFinalIs]
  kernel_rfl
theorem j27 : ((Trym.checked.prog.make == some Rows.fnNextBlockOverSingleByteTextIsArithmeticRow.make)) = true := by
  rw [makeIs]
  kernel_rfl
theorem j28 : ((Rows.fnNextBlockOverSingleByteTextIsArithmeticRow.kinds == (if Rows.fnNextBlockOverSingleByteTextIsArithmeticRow.domain.isEmpty then [] else Trym.f5.params.toList.map fun t => match Trym.checked.prog.underlying t with | some (.int k) => some k | _ => none))) = true := by kernel_rfl
theorem j29 : ((Rows.fnNextBlockOverSingleByteTextIsArithmeticRow.pinned == Rows.fnNextBlockOverSingleByteTextIsArithmeticRow.pinnedBy)) = true := by kernel_rfl
theorem j30 : ((Rows.fnNextBlockOverSingleByteTextIsArithmeticRow.veiled == (Trym.f5.params.toList ++ Rows.fnNextBlockOverSingleByteTextIsArithmeticSpec.plain.varTypes Trym.checked.prog ++ Trym.f5.resultTypes.toList).any (Trym.checked.prog.veiledRec ·))) = true := by kernel_rfl
theorem j31 : (Rows.fnNextBlockOverSingleByteTextIsArithmeticRow.veiledFits Trym.checked.prog Trym.f5.params.toList (Trym.f5.params.toList ++ Rows.fnNextBlockOverSingleByteTextIsArithmeticSpec.plain.varTypes Trym.checked.prog ++ Trym.f5.resultTypes.toList)) = true := by kernel_rfl
theorem closed : joinedFacts Trym.checked.prog 5 Trym.f5 Rows.fnNextBlockOverSingleByteTextIsArithmeticSpec Rows.fnNextBlockOverSingleByteTextIsArithmeticRow = true := by
  simp only [joinedFacts, Bool.and_eq_true]
  exact ⟨⟨⟨⟨⟨⟨⟨⟨⟨⟨⟨⟨⟨⟨⟨⟨⟨⟨⟨⟨⟨⟨⟨⟨⟨⟨⟨⟨⟨⟨⟨j0, j1⟩, j2⟩, j3⟩, j4⟩, j5⟩, j6⟩, j7⟩, j8⟩, j9⟩, j10⟩, j11⟩, j12⟩, j13⟩, j14⟩, j15⟩, j16⟩, j17⟩, j18⟩, j19⟩, j20⟩, j21⟩, j22⟩, j23⟩, j24⟩, j25⟩, j26⟩, j27⟩, j28⟩, j29⟩, j30⟩, j31⟩

end Go.Proofs.Qxb6000643aMods.Facts.f5
