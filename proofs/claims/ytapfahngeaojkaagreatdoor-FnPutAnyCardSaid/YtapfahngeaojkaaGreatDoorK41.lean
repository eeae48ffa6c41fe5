/- The tied card of laws.FnPutAny holds: whatever bytes and whatever value come in, the law answers true and its input reads as it did. Conditions: those of the given row (the listed variables read as laid), none besides. -/
import Derived.Test.YtapfahngeaojkaaGreatDoorK39
import Derived.Test.YtapfahngeaojkaaGreatDoorK40
namespace Go.Proofs.YtapfahngeaojkaaGreatDoor.fnPutAny
open Go Go.ChangeShapes Go.WideShapes Go.ChangeAt Go.RowKit
set_option maxRecDepth 100000 in
theorem closed : joinedFacts P f fn S c = true := (and2 (and2 (and2 (and2 (and2 (and2 (and2 (and2 (and2 (and2 (and2 (and2 (and2 (and2 (and2 (and2 (and2 (and2 (and2 (and2 (and2 (and2 (and2 (and2 (and2 (and2 (and2 (and2 (and2 (and2 (and2 q1 q2) q3) q4) q5) q6) q7) q8) q9) q10) q11) q12) q13) q14) q15) q16) q17) q18) q19) q20) q21) q22) q23) q24) q25) q26) q27) q28) q29) q30) q31) q32)
theorem instance_ : fn.isInstance P c.origin c.targs := of_decide_eq_true (by kernel_rfl)
theorem wrapper_ : fn.isWrapper P c.wrapper c.mainSum := by
  unfold Func.isWrapper
  rw [if_neg (of_decide_eq_false (by kernel_rfl))]
  exact ⟨rfl, rfl⟩
theorem said : Rows.FnPutAnySaid :=
  OpenClaim.holds_of_cond f fn rfl rfl rfl rfl rfl rfl rfl ⟨rfl, rfl, rfl, rfl, rfl⟩ rfl rfl rfl rfl rfl named_fn Tryz.func3 closed instance_ wrapper_
    (fun os started H enc _ F => by rw [OpenClaim.pre_eq_preRow]; exact lifted os started H enc F)
theorem plain (g : FuncId) (h : Func) (hf : P.funcNamed c.func = some g) (hfn : P.funcs[g]? = some h) :
    true = P.looks [] ∧ ∀ (j : Nat) t, h.params[j]? = some t → P.wantsStandIn t = false := by
  obtain rfl : g = f := Option.some.inj (named_fn.symm.trans hf) |>.symm
  obtain rfl : h = fn := (Option.some.inj (Tryz.func3.symm.trans hfn)).symm
  refine ⟨looks_on, fun j t ht => ?_⟩
  have ht' : (#[22, 26] : Array TypeId)[j]? = some t := by rw [← Tryz.params3]; exact ht
  have hm : t = 22 ∨ t = 26 := by simpa using Array.mem_of_getElem? ht'
  rcases hm with rfl | rfl
  · exact stand_bytes
  · exact stand_Pack
theorem card : Rows.FnPutAnyCardSaid :=
  Claim7.holds_tied_plain_at .later [] _ _ _ _ said (fun _ h => by cases h) by_text (fun _ h => by cases h) fnPutAny_row_tie rfl ⟨rfl, rfl⟩ main_is rfl plain goes_by
end Go.Proofs.YtapfahngeaojkaaGreatDoor.fnPutAny
