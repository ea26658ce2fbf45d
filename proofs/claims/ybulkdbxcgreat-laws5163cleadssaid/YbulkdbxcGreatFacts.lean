/-
  The closed facts of the row, one theorem each, so that the kernel gives its memory back behind each (the one on the types' layout in thirteen parts).
-/
import Derived.Test.YbulkdbxcGreatRows
import Derived.JoinedOf
import Derived.KernelRfl
namespace Go.Proofs.YbulkdbxcGreat.Facts
theorem k1 : (Rows.lawS5163CLeadsRow.wf (OpenSpec.ofChange Rows.lawS5163CLeadsSpec) : Bool) = true := by kernel_rfl
theorem size : Ybaz.prog.types.size = 724 := by kernel_rfl
theorem r0 : (List.range' 0 60).all (rowFine Ybaz.prog) = true := by kernel_rfl
theorem r1 : (List.range' 60 60).all (rowFine Ybaz.prog) = true := by kernel_rfl
theorem r2 : (List.range' 120 60).all (rowFine Ybaz.prog) = true := by kernel_rfl
theorem r3 : (List.range' 180 60).all (rowFine Ybaz.prog) = true := by kernel_rfl
theorem r4 : (List.range' 240 60).all (rowFine Ybaz.prog) = true := by kernel_rfl
theorem r5 : (List.range' 300 60).all (rowFine Ybaz.prog) = true := by kernel_rfl
theorem r6 : (List.range' 360 60).all (rowFine Ybaz.prog) = true := by kernel_rfl
theorem r7 : (List.range' 420 60).all (rowFine Ybaz.prog) = true := by kernel_rfl
theorem r8 : (List.range' 480 60).all (rowFine Ybaz.prog) = true := by kernel_rfl
theorem r9 : (List.range' 540 60).all (rowFine Ybaz.prog) = true := by kernel_rfl
theorem r10 : (List.range' 600 60).all (rowFine Ybaz.prog) = true := by kernel_rfl
theorem r11 : (List.range' 660 60).all (rowFine Ybaz.prog) = true := by kernel_rfl
theorem r12 : (List.range' 720 4).all (rowFine Ybaz.prog) = true := by kernel_rfl
theorem in_chunk {p : Nat → Bool} {a n i : Nat} (h : (List.range' a n).all p = true) (h1 : a ≤ i) (h2 : i < a + n) : p i = true :=
  List.all_eq_true.1 h i (List.mem_range'_1.2 ⟨h1, h2⟩)
theorem g1 : (List.range Ybaz.prog.types.size).all (rowFine Ybaz.prog) = true := by
  rw [size, List.all_eq_true]
  intro i hi
  rw [List.mem_range] at hi
  by_cases h0 : i < 60
  · exact in_chunk r0 (by omega) (by omega)
  by_cases h1 : i < 120
  · exact in_chunk r1 (by omega) (by omega)
  by_cases h2 : i < 180
  · exact in_chunk r2 (by omega) (by omega)
  by_cases h3 : i < 240
  · exact in_chunk r3 (by omega) (by omega)
  by_cases h4 : i < 300
  · exact in_chunk r4 (by omega) (by omega)
  by_cases h5 : i < 360
  · exact in_chunk r5 (by omega) (by omega)
  by_cases h6 : i < 420
  · exact in_chunk r6 (by omega) (by omega)
  by_cases h7 : i < 480
  · exact in_chunk r7 (by omega) (by omega)
  by_cases h8 : i < 540
  · exact in_chunk r8 (by omega) (by omega)
  by_cases h9 : i < 600
  · exact in_chunk r9 (by omega) (by omega)
  by_cases h10 : i < 660
  · exact in_chunk r10 (by omega) (by omega)
  by_cases h11 : i < 720
  · exact in_chunk r11 (by omega) (by omega)
  exact in_chunk r12 (by omega) (by omega)
theorem g2 : Ybaz.prog.globals.all (fun g => decide (g.type < Ybaz.prog.types.size)) = true := by kernel_rfl
theorem g3 : Ybaz.prog.funcs.all (fun f => f.params.all fun t => decide (t < Ybaz.prog.types.size)) = true := by kernel_rfl
theorem both {a b : Bool} (ha : a = true) (hb : b = true) : (a && b) = true := by rw [ha, hb]; rfl
theorem k2 : (laidOutB Ybaz.prog : Bool) = true := both (both g1 g2) g3
theorem k3 : (mapsRowed Ybaz.prog : Bool) = true := by kernel_rfl
theorem k4 : (Ybaz.f3.params.all (Ybaz.prog.readableRec ·) : Bool) = true := by kernel_rfl
theorem k5 : (namedTie Ybaz.prog Rows.lawS5163CLeadsRow.named Rows.lawS5163CLeadsSpec.vars : Bool) = true := by kernel_rfl
theorem k6 : ((Rows.lawS5163CLeadsRow.stops == []) : Bool) = true := by kernel_rfl
theorem k7 : ((Ybaz.prog.stops == []) : Bool) = true := by kernel_rfl
theorem k8 : ((Rows.lawS5163CLeadsRow.knobs == []) : Bool) = true := by kernel_rfl
theorem k9 : ((Ybaz.prog.stopKnobs == []) : Bool) = true := by kernel_rfl
theorem k10 : ((Rows.lawS5163CLeadsRow.inPlace == Ybaz.prog.inPlace 3) : Bool) = true := by kernel_rfl
theorem k11 : ((Rows.lawS5163CLeadsRow.unfollowed == Ybaz.prog.unfollowed 3) : Bool) = true := by kernel_rfl
theorem k12 : ((Rows.lawS5163CLeadsRow.recurses == Ybaz.prog.recurses 3) : Bool) = true := by kernel_rfl
theorem k13 : ((Rows.lawS5163CLeadsRow.named == Ybaz.prog.varsNamed 3) : Bool) = true := by kernel_rfl
theorem k14 : ((Rows.lawS5163CLeadsRow.maps == (Ybaz.f3.params.toList ++ Rows.lawS5163CLeadsSpec.plain.varTypes Ybaz.prog).any (Ybaz.prog.mapsRec ·)) : Bool) = true := by kernel_rfl
theorem k15 : ((Rows.lawS5163CLeadsRow.ifaces == (Ybaz.f3.params.toList ++ Rows.lawS5163CLeadsSpec.plain.varTypes Ybaz.prog).any (Ybaz.prog.ifacesRec ·)) : Bool) = true := by kernel_rfl
theorem k16 : ((Rows.lawS5163CLeadsRow.mapsOut == Ybaz.prog.mapsAmong Ybaz.f3.resultTypes.toList) : Bool) = true := by kernel_rfl
theorem k17 : ((Rows.lawS5163CLeadsRow.loops == (Ybaz.f3.params.toList ++ Rows.lawS5163CLeadsSpec.plain.varTypes Ybaz.prog).any (Ybaz.prog.loopsFrom ·)) : Bool) = true := by kernel_rfl
theorem k18 : ((Rows.lawS5163CLeadsRow.wideKeys == (Ybaz.f3.params.toList ++ Rows.lawS5163CLeadsSpec.plain.varTypes Ybaz.prog ++ Ybaz.f3.resultTypes.toList).any (Ybaz.prog.wideKeysFrom ·)) : Bool) = true := by kernel_rfl
theorem k19 : (Rows.lawS5163CLeadsSpec.vars.all (Ybaz.prog.varReadable ·) : Bool) = true := by kernel_rfl
theorem k20 : (Ybaz.f3.resultTypes.all (fun t => Ybaz.prog.readableRec t && decide (t < Ybaz.prog.types.size)) : Bool) = true := by kernel_rfl
theorem k21 : ((Rows.lawS5163CLeadsRow.ifacesOut == Ybaz.f3.resultTypes.toList.any (Ybaz.prog.ifacesRec ·)) : Bool) = true := by kernel_rfl
theorem k22 : ((Rows.lawS5163CLeadsRow.loopsOut == Ybaz.f3.resultTypes.toList.any (Ybaz.prog.loopsFrom ·)) : Bool) = true := by kernel_rfl
theorem k23 : ((Rows.lawS5163CLeadsRow.plainKeys == Ybaz.prog.plainKeys) : Bool) = true := by kernel_rfl
theorem k24 : (Rows.lawS5163CLeadsRow.shortTexts.isNone : Bool) = true := by kernel_rfl
theorem k25 : (Ybaz.prog.stopsHeard : Bool) = true := by kernel_rfl
theorem k26 : (Ybaz.prog.mayEnter : Bool) = true := by kernel_rfl
theorem k27 : ((Rows.lawS5163CLeadsRow.lifted == Ybaz.prog.liftsFinal) : Bool) = true := by kernel_rfl
theorem k28 : ((Ybaz.prog.make == some Rows.lawS5163CLeadsRow.make) : Bool) = true := by kernel_rfl
theorem k29 : ((Rows.lawS5163CLeadsRow.kinds == (if Rows.lawS5163CLeadsRow.domain.isEmpty then [] else Ybaz.f3.params.toList.map fun t => match Ybaz.prog.underlying t with | some (.int k) => some k | _ => none)) : Bool) = true := by kernel_rfl
theorem k30 : ((Rows.lawS5163CLeadsRow.pinned == Rows.lawS5163CLeadsRow.pinnedBy) : Bool) = true := by kernel_rfl
theorem k31 : ((Rows.lawS5163CLeadsRow.veiled == (Ybaz.f3.params.toList ++ Rows.lawS5163CLeadsSpec.plain.varTypes Ybaz.prog ++ Ybaz.f3.resultTypes.toList).any (Ybaz.prog.veiledRec ·)) : Bool) = true := by kernel_rfl
theorem k32 : (Rows.lawS5163CLeadsRow.veiledFits Ybaz.prog Ybaz.f3.params.toList (Ybaz.f3.params.toList ++ Rows.lawS5163CLeadsSpec.plain.varTypes Ybaz.prog ++ Ybaz.f3.resultTypes.toList) : Bool) = true := by kernel_rfl
set_option maxRecDepth 10000 in
theorem closed : joinedFacts Ybaz.prog 3 Ybaz.f3 Rows.lawS5163CLeadsSpec Rows.lawS5163CLeadsRow = true := both (both (both (both (both (both (both (both (both (both (both (both (both (both (both (both (both (both (both (both (both (both (both (both (both (both (both (both (both (both (both k1 k2) k3) k4) k5) k6) k7) k8) k9) k10) k11) k12) k13) k14) k15) k16) k17) k18) k19) k20) k21) k22) k23) k24) k25) k26) k27) k28) k29) k30) k31) k32
end Go.Proofs.YbulkdbxcGreat.Facts
