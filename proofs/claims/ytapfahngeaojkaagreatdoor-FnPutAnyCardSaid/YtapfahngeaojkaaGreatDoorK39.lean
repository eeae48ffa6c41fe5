/- The contract of laws.FnPutAny holds for every input that the row lets in, and there is such an input. Conditions: those of the given row. -/
import Derived.Test.YtapfahngeaojkaaGreatDoorCards
import Derived.Test.YtapfahngeaojkaaGreatDoorTie
import Derived.WalkKit
import Derived.ProofKit
import Derived.OpenShut
import Derived.SizedLaws
import Derived.Deep.DeepHandedRow
import Derived.Deep.DeepWitnessRowRef
import Derived.Lib.LaidIn
import Derived.Test.YtapfahngeaojkaaGreatDoorK38
import Derived.Test.YtapfahngeaojkaaGreatDoorK6
import Derived.Test.YtapfahngeaojkaaGreatDoorK37
namespace Go.Proofs.YtapfahngeaojkaaGreatDoor.fnPutAny
open Go Go.ChangeShapes Go.WideShapes Go.ChangeAt Go.RowKit Go.Lib Go.Shelf
theorem laid_out : laidOutB Tryz.prog = true := by kernel_rfl
theorem own : ownKnob Tryz.prog.godebug = none := by kernel_rfl
set_option maxRecDepth 100000 in
theorem contract (H : Type) (enc : TypeId × Value → H) (W : World) (base : Nat) (args : Array Value) (ds gs : List (DataW H)) (before : List MemPlace)
    (hval : ∀ (j : Nat) t v, Tryz.f3.params[j]? = some t → args[j]? = some v → Value.okWide Tryz.prog W .any base t v)
    (hW : DataW.Whole enc Tryz.prog Tryz.f3.params.toList Rows.fnPutAnySpec.vars false W args.toList ds gs before) :
    Calls Tryz.prog 3 args W fun e W' => ∃ v, e = .returned v ∧ Rows.fnPutAnySpec.post enc Tryz.prog Tryz.f3 false true false false W args v W' := by
  have hW' := hW
  obtain ⟨p, q, hA0, hV, rfl, hfz, hnd⟩ := hW
  have hA : DataW.TrodAll enc Tryz.prog W 0 (fun _ => true) true Tryz.f3.params.toList args.toList ds p := hA0
  rw [Tryz.params3] at hA hval
  obtain ⟨v0, vs0, d0, ds0, p0, q0, hargs, rfl, rfl, h0, r0⟩ := trodAll_cons hA
  obtain ⟨v1, vs1, d1, ds1, p1, q1, hargs1, rfl, rfl, h1, r1⟩ := trodAll_cons r0
  obtain ⟨rfl, rfl, rfl⟩ := trodAll_nil r1
  obtain rfl : args = #[v0, v1] := by cases args; simp_all
  obtain ⟨rfl, rfl⟩ := trodVars_none hV
  obtain ⟨bs, hbs⟩ := open_Bytes (hval 0 22 v0 rfl rfl) h0
  obtain ⟨t, ht⟩ := open_Pack (hval 1 26 v1 rfl rfl) h1
  clear hA0 hA r0 r1
  have hlt : ∀ x ∈ p0 ++ (p1 ++ []), x.block < W.heap.size := fun x hx => by
    have hx' : x ∈ p0 ++ (p1 ++ []) ++ [] := by rw [List.append_nil]; exact hx
    simpa using hW'.lt x hx'
  refine (FnPutAny_ok t Any_ W v0 v1 bs hbs ht).mono fun e W' ⟨he, hk⟩ => ?_
  subst he
  have hb := hk.toBelow
  refine ⟨_, rfl, _, _, _, [], p0 ++ (p1 ++ []), [], hW', ?_, ?_, rfl, hb.frame _, fun h => by cases h⟩
  · exact trodAll_mk1 (shut_bool Tryz.underlying4 _)
  · exact trodAll_cons_mk (Below.trod laid_out (by kernel_rfl) (of_decide_eq_true (by kernel_rfl)) h0 hb fun x hx => hlt x (by simp [hx])) (trodAll_cons_mk (Below.trod laid_out (by kernel_rfl) (of_decide_eq_true (by kernel_rfl)) h1 hb fun x hx => hlt x (by simp [hx])) trodAll_mk0)
set_option maxRecDepth 100000 in
theorem lifted (os : Os) (started : os.Started) (H : Type) (enc : TypeId × Value → H) (F : Stop.Interp) :
    ReturnsInHanded {} Tryz.checked os 3 .any ((OpenSpec.ofChange Rows.fnPutAnySpec).preRow enc Tryz.prog Tryz.f3 Rows.fnPutAnyRow.domain false Rows.fnPutAnyRow.laid) (((OpenSpec.ofChange Rows.fnPutAnySpec).at F).post enc Tryz.prog Tryz.f3 false true false false) := by
  refine returnsInHanded_of_row (C := Tryz.checked) (s := OpenSpec.ofChange Rows.fnPutAnySpec) own started (by kernel_rfl) Tryz.func3
    (witness os enc) ?_
  intro W base args ds gs before hval hW _ _ _ _ _ _
  exact contract H enc W base args ds gs before hval hW
end Go.Proofs.YtapfahngeaojkaaGreatDoor.fnPutAny
