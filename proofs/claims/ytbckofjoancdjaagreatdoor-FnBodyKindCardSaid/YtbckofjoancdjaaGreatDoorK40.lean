/- The contract of laws.FnBodyKind holds for every input that the row lets in, and there is such an input. Conditions: those of the given row. -/
import Derived.Test.YtbckofjoancdjaaGreatDoorCards
import Derived.Test.YtbckofjoancdjaaGreatDoorTie
import Derived.WalkKit
import Derived.ProofKit
import Derived.OpenShut
import Derived.SizedLaws
import Derived.Deep.DeepHandedRow
import Derived.Deep.DeepWitnessRowRef
import Derived.Lib.LaidIn
import Derived.Lib.LaidU8
import Derived.Test.YtbckofjoancdjaaGreatDoorK39
namespace Go.Proofs.YtbckofjoancdjaaGreatDoor.fnBodyKind
open Go Go.ChangeShapes Go.WideShapes Go.ChangeAt Go.RowKit Go.Lib Go.Shelf
theorem laid_out : laidOutB Tryz.prog = true := by kernel_rfl
theorem own : ownKnob Tryz.prog.godebug = none := by kernel_rfl
noncomputable def laidWorld (os : Os) : World :=
  let w0 := World.holding Tryz.prog os ⟨#[], #[], []⟩
  let put (h : Array Obj) (g : Nat) (cs : Array Value) : Array Obj := h.modify g fun
    | .cells _ t frozen => .cells cs t frozen
    | o => o
  let h3 := put w0.heap 1 #[.iface 177 (.pointer (some ⟨w0.heap.size, 0, none⟩))]
  { w0 with heap := h3.push (.cells #[.string ⟨#[69, 79, 70]⟩] 179) }
def zargs : Array Value := #[.int .i64 0]
theorem laid_met (os : Os) : laidMet Tryz.prog Rows.fnBodyKindRow.laid ((laidWorld os).forCall (fun _ _ => 0) ⟨#[], zargs, []⟩).memory :=
  laidMet_of_run' 8 (by kernel_rfl) (by kernel_rfl)
theorem witness_row (os : Os) {H : Type} (enc : TypeId × Value → H) :
    (OpenSpec.ofChange Rows.fnBodyKindSpec).preRow enc Tryz.prog Tryz.f3 Rows.fnBodyKindRow.domain false Rows.fnBodyKindRow.laid ((laidWorld os).forCall (fun _ _ => 0) ⟨#[], zargs, []⟩).memory zargs := by
  have hw : (DataW.whole enc Tryz.prog ((laidWorld os).forCall (fun _ _ => 0) ⟨#[], zargs, []⟩).memory Tryz.f3.params.toList Rows.fnBodyKindSpec.vars false zargs.toList 8).map (fun x => (x.1, x.2.1)) =
      some ([.lit (.int .i64 0)], []) := by kernel_rfl
  obtain ⟨⟨x1, x2, x3⟩, hx, hx1⟩ := Option.map_eq_some_iff.1 hw
  simp only [Prod.mk.injEq] at hx1
  obtain ⟨rfl, rfl⟩ := hx1
  exact OpenSpec.preRow_of_cond 8 hx (by kernel_rfl) (fun k hk => by cases hk) (by kernel_rfl) (laid_met os)
theorem iface_of_trod {P : Program} {w : World} {fuel : Nat} {t : TypeId} {m : _} {cs : List Value} {n : String} {x : DataW Unit} {p : List MemPlace} (ht : P.underlying t = some (.interface m)) (h : DataW.trod (fun _ => ()) P w 0 (fun _ => true) false fuel t cs = some (.iface n x, p)) : ∃ u v, cs = [.iface u v] := by
  cases fuel with
  | zero => simp [DataW.trod] at h
  | succ k =>
    unfold DataW.trod at h
    rw [ht] at h
    split at h <;> simp_all
theorem laid_plain (W : World) (h : laidMetH Tryz.prog Rows.fnBodyKindRow.laid W) : laidMet Tryz.prog Rows.fnBodyKindRow.laid W := h
set_option maxRecDepth 100000 in
theorem eof_of {W : World} (hL : laidMet Tryz.prog Rows.fnBodyKindRow.laid W) : Eof W := by
  obtain ⟨g, t, cs, fuel, p, hg, ht, hv, hd⟩ := Lib.laidMet.reads hL (n := "io.EOF") (d := Rows.laid_io_EOF) (.head _)
  obtain rfl : 1 = g := Option.some.inj ((show Tryz.prog.globalNamed "io.EOF" = some 1 by kernel_rfl).symm.trans hg)
  obtain rfl : 73 = t := Option.some.inj ((show (Tryz.prog.globals[1]?).map (·.type) = some 73 by kernel_rfl).symm.trans ht)
  obtain ⟨u, v, h⟩ := iface_of_trod Tryz.underlying73 hd
  refine ⟨.iface u v, ⟨u, v, rfl⟩, ?_⟩
  rw [World.var?_cell hg hv 0, ← Array.getElem?_toList, h]
  rfl
set_option maxRecDepth 100000 in
theorem contract (H : Type) (enc : TypeId × Value → H) (W : World) (base : Nat) (args : Array Value) (ds gs : List (DataW H)) (before : List MemPlace)
    (hval : ∀ (j : Nat) t v, Tryz.f3.params[j]? = some t → args[j]? = some v → Value.okWide Tryz.prog W .any base t v)
    (hW : DataW.Whole enc Tryz.prog Tryz.f3.params.toList Rows.fnBodyKindSpec.vars false W args.toList ds gs before) (hL : laidMet Tryz.prog Rows.fnBodyKindRow.laid W) :
    Calls Tryz.prog 3 args W fun e W' => ∃ v, e = .returned v ∧ Rows.fnBodyKindSpec.post enc Tryz.prog Tryz.f3 false true false false W args v W' := by
  have hW' := hW
  obtain ⟨p, q, hA0, hV, rfl, hfz, hnd⟩ := hW
  have hA : DataW.TrodAll enc Tryz.prog W 0 (fun _ => true) true Tryz.f3.params.toList args.toList ds p := hA0
  rw [Tryz.params3] at hA hval
  obtain ⟨v0, vs0, d0, ds0, p0, q0, hargs, rfl, rfl, h0, r0⟩ := trodAll_cons hA
  obtain ⟨rfl, rfl, rfl⟩ := trodAll_nil r0
  obtain rfl : args = #[v0] := by cases args; simp_all
  obtain ⟨rfl, rfl⟩ := trodVars_none hV
  obtain ⟨n, rfl, rfl, rfl, wn⟩ := open_int Tryz.underlying3 (hval 0 3 v0 rfl rfl) h0
  clear hA0 hA r0
  refine (FnBodyKind_ok n W (eof_of hL)).mono fun e W' ⟨he, hk⟩ => ?_
  subst he
  have hb := hk.toBelow
  refine ⟨_, rfl, _, _, _, [], [] ++ [], [], hW', ?_, ?_, rfl, hb.frame _, fun h => by cases h⟩
  · exact trodAll_mk1 (shut_bool Tryz.underlying4 _)
  · exact trodAll_mk1 (shut_int Tryz.underlying3 wn)
set_option maxRecDepth 100000 in
theorem lifted (os : Os) (started : os.Started) (H : Type) (enc : TypeId × Value → H) (F : Stop.Interp) :
    ReturnsInHanded {} Tryz.checked os 3 .any ((OpenSpec.ofChange Rows.fnBodyKindSpec).preRow enc Tryz.prog Tryz.f3 Rows.fnBodyKindRow.domain false Rows.fnBodyKindRow.laid) (((OpenSpec.ofChange Rows.fnBodyKindSpec).at F).post enc Tryz.prog Tryz.f3 false true false false) := by
  refine returnsInHanded_of_row (C := Tryz.checked) (s := OpenSpec.ofChange Rows.fnBodyKindSpec) own started (by kernel_rfl) Tryz.func3
    (witness_row_atRef (enc := enc) (C := Tryz.checked) false (laidWorld os) zargs rfl (by kernel_rfl) (by kernel_rfl) (by kernel_rfl) (witness_row os enc)) ?_
  intro W base args ds gs before hval hW _ _ _ hL _ _
  exact contract H enc W base args ds gs before hval hW (laid_plain W hL)
end Go.Proofs.YtbckofjoancdjaaGreatDoor.fnBodyKind
