/- The closed facts that the row of laws.FnPutAny asks of the program hold, one by one. No conditions. -/
import Derived.Test.YtapfahngeaojkaaGreatDoorCards
import Derived.KernelRfl
import Derived.JoinedCond
namespace Go.Proofs.YtapfahngeaojkaaGreatDoor.fnPutAny
open Go
noncomputable abbrev P : Program := Tryz.pinned.checked.prog
noncomputable abbrev c : OpenClaim := Rows.fnPutAnyRow
noncomputable abbrev fn : Func := Tryz.f3
noncomputable abbrev S : ChangeSpec := (OpenSpec.ofChange Rows.fnPutAnySpec).bare
abbrev f : FuncId := 3
theorem and2 {a b : Bool} (h : a = true) (k : b = true) : (a && b) = true := by rw [h, k]; rfl
theorem q1 : (c.wf (OpenSpec.ofChange S)) = true := by kernel_rfl
theorem q2 : (laidOutB P) = true := by kernel_rfl
theorem q3 : (mapsRowed P) = true := by kernel_rfl
theorem q4 : (fn.params.all (P.readableRec ·)) = true := by kernel_rfl
theorem q5 : (namedTie P c.named S.vars) = true := by kernel_rfl
theorem q6 : (c.stops == []) = true := by kernel_rfl
theorem q7 : (P.stops == []) = true := by kernel_rfl
theorem q8 : (c.knobs == []) = true := by kernel_rfl
theorem q9 : (P.stopKnobs == []) = true := by kernel_rfl
theorem q10 : (c.inPlace == P.inPlace f) = true := by kernel_rfl
theorem q11 : (c.unfollowed == P.unfollowed f) = true := by kernel_rfl
theorem q12 : (c.recurses == P.recurses f) = true := by kernel_rfl
theorem q13 : (c.named == P.varsNamed f) = true := by kernel_rfl
theorem q14 : (c.maps == (fn.params.toList ++ S.plain.varTypes P).any (P.mapsRec ·)) = true := by kernel_rfl
theorem q15 : (c.ifaces == (fn.params.toList ++ S.plain.varTypes P).any (P.ifacesRec ·)) = true := by kernel_rfl
theorem q16 : (c.mapsOut == P.mapsAmong fn.resultTypes.toList) = true := by kernel_rfl
theorem q17 : (c.loops == (fn.params.toList ++ S.plain.varTypes P).any (P.loopsFrom ·)) = true := by kernel_rfl
theorem q18 : (c.wideKeys == (fn.params.toList ++ S.plain.varTypes P ++ fn.resultTypes.toList).any (P.wideKeysFrom ·)) = true := by kernel_rfl
theorem q19 : (S.vars.all (P.varReadable ·)) = true := by kernel_rfl
theorem q20 : (fn.resultTypes.all (fun t => P.readableRec t && decide (t < P.types.size))) = true := by kernel_rfl
theorem q21 : (c.ifacesOut == fn.resultTypes.toList.any (P.ifacesRec ·)) = true := by kernel_rfl
theorem q22 : (c.loopsOut == fn.resultTypes.toList.any (P.loopsFrom ·)) = true := by kernel_rfl
theorem q23 : (c.plainKeys == P.plainKeys) = true := by kernel_rfl
theorem q24 : (c.shortTexts.isNone) = true := by kernel_rfl
theorem q25 : (P.stopsHeard) = true := by kernel_rfl
theorem q26 : (P.mayEnter) = true := by kernel_rfl
theorem q27 : (c.lifted == P.liftsFinal) = true := by kernel_rfl
theorem q28 : (P.make == some c.make) = true := by kernel_rfl
theorem q29 : (c.kinds == (if c.domain.isEmpty then [] else fn.params.toList.map fun t => match P.underlying t with | some (.int k) => some k | _ => none)) = true := by kernel_rfl
theorem q30 : (c.pinned == c.pinnedBy) = true := by kernel_rfl
theorem q31 : (c.veiled == (fn.params.toList ++ S.plain.varTypes P ++ fn.resultTypes.toList).any (P.veiledRec ·)) = true := by kernel_rfl
theorem q32 : (c.veiledFits P fn.params.toList (fn.params.toList ++ S.plain.varTypes P ++ fn.resultTypes.toList)) = true := by kernel_rfl
theorem named_fn : P.funcNamed c.func = some f := by kernel_rfl
theorem main_is : P.mainIs = some (true, "99ad9540c2ba7630284b5a1a98af8dee1bf80d1261a70138170acacfb3116d2b".toList) := by kernel_rfl
theorem looks_on : true = P.looks [] := by kernel_rfl
theorem goes_by : false = c.goesBy P := by kernel_rfl
theorem by_text : c.wfByText (OpenSpec.ofChange Rows.fnPutAnySpec) = true := by kernel_rfl
theorem stand_bytes : P.wantsStandIn 22 = false := by kernel_rfl
theorem stand_Pack : P.wantsStandIn 26 = false := by kernel_rfl
end Go.Proofs.YtapfahngeaojkaaGreatDoor.fnPutAny
