/- A world in which the listed variables read as laid: the witness of the card of laws.FnPutAny. No conditions. -/
import Derived.Test.YtapfahngeaojkaaGreatDoorCards
import Derived.Test.YtapfahngeaojkaaGreatDoorTie
import Derived.WalkKit
import Derived.ProofKit
import Derived.OpenShut
import Derived.SizedLaws
import Derived.Deep.DeepHandedRow
import Derived.Lay
namespace Go.Proofs.YtapfahngeaojkaaGreatDoor.fnPutAny
open Go Go.ChangeShapes Go.WideShapes Go.ChangeAt Go.RowKit
noncomputable def laidWorld (os : Os) : World := World.laidAll Tryz.prog os Rows.fnPutAnyRow.laid
def zargs : Array Value := #[.slice none 0 0, .agg #[.int .i64 0, .int .u64 0, .string ⟨#[]⟩, .int .i64 0, .slice none 0 0]]
theorem laid_fits (os : Os) : (World.holding Tryz.prog os ⟨#[], #[], []⟩).layFits Tryz.prog Rows.fnPutAnyRow.laid [] = true := by kernel_rfl
theorem laid_ifaces (os : Os) : (World.holding Tryz.prog os ⟨#[], #[], []⟩).layIfaces Tryz.prog Rows.fnPutAnyRow.laid (World.laidAll Tryz.prog os Rows.fnPutAnyRow.laid) = true := by kernel_rfl
theorem laid_met (os : Os) : laidMet Tryz.prog Rows.fnPutAnyRow.laid ((laidWorld os).forCall (fun _ _ => 0) ⟨#[], zargs, []⟩).memory := laidMet_laidAll _ (laid_fits os) (laid_ifaces os)
theorem hv (os : Os) : ((laidWorld os).forCall (fun _ _ => 0) ⟨#[], zargs, []⟩).variablesZipB Tryz.checked.prog = true := by kernel_rfl
theorem hr (os : Os) : (((laidWorld os).forCall (fun _ _ => 0) ⟨#[], zargs, []⟩).heap.toList.drop Tryz.checked.prog.globals.size).take ((begin Tryz.checked.prog (fun _ _ => 0) default).world.heap.size - Tryz.checked.prog.globals.size) =
      (begin Tryz.checked.prog (fun _ _ => 0) default).world.heap.toList.drop Tryz.checked.prog.globals.size := by kernel_rfl
theorem hok (os : Os) : Input.okWideB Tryz.checked.prog ((laidWorld os).forCall (fun _ _ => 0) ⟨#[], zargs, []⟩) 3 ⟨#[], zargs, []⟩ = true := by kernel_rfl
theorem witness_row (os : Os) {H : Type} (enc : TypeId × Value → H) :
    (OpenSpec.ofChange Rows.fnPutAnySpec).preRow enc Tryz.prog Tryz.f3 Rows.fnPutAnyRow.domain false Rows.fnPutAnyRow.laid ((laidWorld os).forCall (fun _ _ => 0) ⟨#[], zargs, []⟩).memory zargs := by
  have hw : (DataW.whole enc Tryz.prog ((laidWorld os).forCall (fun _ _ => 0) ⟨#[], zargs, []⟩).memory Tryz.f3.params.toList Rows.fnPutAnySpec.vars false zargs.toList 8).map (fun x => (x.1, x.2.1)) =
      some ([.nil, .agg [.lit (.int .i64 0), .lit (.int .u64 0), .lit (.string []), .lit (.int .i64 0), .nil]], []) := by kernel_rfl
  obtain ⟨⟨x1, x2, x3⟩, hx, hx1⟩ := Option.map_eq_some_iff.1 hw
  simp only [Prod.mk.injEq] at hx1
  obtain ⟨rfl, rfl⟩ := hx1
  exact OpenSpec.preRow_of_cond 8 hx (by kernel_rfl) (fun k hk => by cases hk) (by kernel_rfl) (laid_met os)
theorem witness (os : Os) {H : Type} (enc : TypeId × Value → H) : ∃ (w : World) (tape : Tape) (i : Input), w.os = os ∧ (w.forCall tape i).Shaped Tryz.checked.prog ∧ i.vars = [] ∧ Input.okWide Tryz.checked.prog (w.forCall tape i) .any w.heap.size 3 i ∧
      (OpenSpec.ofChange Rows.fnPutAnySpec).preRow enc Tryz.checked.prog Tryz.f3 Rows.fnPutAnyRow.domain false Rows.fnPutAnyRow.laid (w.forCall tape i).memory i.args ∧ ({ modest := false } : Assume).holds Tryz.checked.prog (lone (Frame.enter Tryz.checked.prog 3 i.args .normal) [] (w.forCall tape i)) :=
  ⟨laidWorld os, fun _ _ => 0, ⟨#[], zargs, []⟩, World.laidAll_os _ _ _, World.shaped_of_ZipB (hv os) (hr os), (Input.okWide_of_okWideB (base := 0) (hok os)).1, (Input.okWide_of_okWideB (hok os)).2, witness_row os enc, by
    simp only [Assume.holds]
    exact ⟨by simp, by simp, fun _ => Modest.zero, by simp, by simp⟩⟩
end Go.Proofs.YtapfahngeaojkaaGreatDoor.fnPutAny
