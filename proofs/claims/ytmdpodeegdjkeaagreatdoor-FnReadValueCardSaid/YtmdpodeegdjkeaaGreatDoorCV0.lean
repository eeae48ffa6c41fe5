/- The contract of laws.FnReadValue holds for every input that the row lets in, and there is such an input. Conditions: those of the given row. -/
import Derived.Test.YtmdpodeegdjkeaaGreatDoorCards
import Derived.Test.YtmdpodeegdjkeaaGreatDoorTie
import Derived.WalkKit
import Derived.ProofKit
import Derived.OpenShut
import Derived.SizedLaws
import Derived.Deep.DeepHandedRow
import Derived.Deep.DeepWitnessRowRef
import Derived.Lib.LaidIn
import Derived.Lib.LaidU8T
import Derived.Test.YtmdpodeegdjkeaaGreatDoorEV3
namespace Go.Proofs.YtmdpodeegdjkeaaGreatDoor.fnReadValue
open Go Go.ChangeShapes Go.WideShapes Go.ChangeAt Go.RowKit Go.Lib Go.Shelf
theorem laid_out : laidOutB Tryz.prog = true := by kernel_rfl
theorem own : ownKnob Tryz.prog.godebug = none := by kernel_rfl
set_option maxRecDepth 100000 in
theorem first_eq : Pinned.utf8First = firstData := by kernel_rfl
set_option maxRecDepth 100000 in
theorem accept_eq : (Rows.laid_unicode_utf8_acceptRanges : DataW Unit) = acceptData := by kernel_rfl
noncomputable def laidWorld (os : Os) : World :=
  let w0 := World.holding Tryz.prog os ⟨#[], #[], []⟩
  let put (h : Array Obj) (g : Nat) (cs : Array Value) : Array Obj := h.modify g fun
    | .cells _ t frozen => .cells cs t frozen
    | o => o
  let h1 := put w0.heap 3 (firstTab.map fun z => Value.int .u8 z).toArray
  let h2 := put h1 4 ((List.range 16).flatMap fun i => [Value.int .u8 (accLo i), Value.int .u8 (accHi i)]).toArray
  let h3 := put h2 0 #[.iface 214 (.pointer (some ⟨w0.heap.size, 0, none⟩))]
  { w0 with heap := h3.push (.cells #[.string ⟨#[69, 79, 70]⟩] 216) }
def zargs : Array Value := #[.agg #[.int .i64 0, .int .u64 0, .string ⟨#[]⟩, .slice none 0 0, .int .i64 0, .slice none 0 0, .int .u64 0, .slice none 0 0, .int .i64 0]]
theorem laid_met (os : Os) : laidMet Tryz.prog Rows.fnReadValueRow.laid ((laidWorld os).forCall (fun _ _ => 0) ⟨#[], zargs, []⟩).memory :=
  laidMet_of_run' 8 (by kernel_rfl) (by kernel_rfl)
theorem witness_row (os : Os) {H : Type} (enc : TypeId × Value → H) :
    (OpenSpec.ofChange Rows.fnReadValueSpec).preRow enc Tryz.prog Tryz.f9 Rows.fnReadValueRow.domain false Rows.fnReadValueRow.laid ((laidWorld os).forCall (fun _ _ => 0) ⟨#[], zargs, []⟩).memory zargs := by
  have hw : (DataW.whole enc Tryz.prog ((laidWorld os).forCall (fun _ _ => 0) ⟨#[], zargs, []⟩).memory Tryz.f9.params.toList Rows.fnReadValueSpec.vars false zargs.toList 8).map (fun x => (x.1, x.2.1)) =
      some ([.agg [.agg [.lit (.int .i64 0), .lit (.int .u64 0), .lit (.string []), .nil, .lit (.int .i64 0), .nil], .lit (.int .u64 0), .nil, .lit (.int .i64 0)]], []) := by kernel_rfl
  obtain ⟨⟨x1, x2, x3⟩, hx, hx1⟩ := Option.map_eq_some_iff.1 hw
  simp only [Prod.mk.injEq] at hx1
  obtain ⟨rfl, rfl⟩ := hx1
  exact OpenSpec.preRow_of_cond 8 hx (by kernel_rfl) (fun k hk => by cases hk) (by kernel_rfl) (laid_met os)
theorem iface_of_trod {P : Program} {w : World} {fuel : Nat} {t : TypeId} {m : _} {cs : List Value} {n : String} {x : DataW Unit} {p : List MemPlace} (ht : P.underlying t = some (.interface m)) (h : DataW.trod (fun _ => ()) P w 0 (fun _ => true) false fuel t cs = some (.iface n x, p)) : ∃ u v, cs = [.iface u v] := by
  cases fuel with
  | zero => simp [DataW.trod] at h
  | succ k =>
    unfold DataW.trod at h
    rw [ht] at h
    split at h <;> simp_all
theorem laid_plain (W : World) (h : laidMetH Tryz.prog Rows.fnReadValueRow.laid W) : laidMet Tryz.prog Rows.fnReadValueRow.laid W := h
set_option maxRecDepth 100000 in
theorem tabs_of {W : World} (hL : laidMet Tryz.prog Rows.fnReadValueRow.laid W) : Tabs W :=
  utf8Tabs_of_readsT (U8Types.of196 Tryz.laysValid) ⟨by kernel_rfl, by kernel_rfl, by kernel_rfl, by kernel_rfl, by kernel_rfl, by kernel_rfl, by kernel_rfl⟩
    (first_eq ▸ Lib.laidMet.reads hL (n := "unicode/utf8.first") (d := Rows.laid_unicode_utf8_first) (.tail _ (.tail _ (.head _)))) (accept_eq ▸ Lib.laidMet.reads hL (n := "unicode/utf8.acceptRanges") (d := Rows.laid_unicode_utf8_acceptRanges) (.head _))
set_option maxRecDepth 100000 in
theorem eof_of {W : World} (hL : laidMet Tryz.prog Rows.fnReadValueRow.laid W) : Eof W := by
  obtain ⟨g, t, cs, fuel, p, hg, ht, hv, hd⟩ := Lib.laidMet.reads hL (n := "io.EOF") (d := Rows.laid_io_EOF) (.tail _ (.head _))
  obtain rfl : 0 = g := Option.some.inj ((show Tryz.prog.globalNamed "io.EOF" = some 0 by kernel_rfl).symm.trans hg)
  obtain rfl : 54 = t := Option.some.inj ((show (Tryz.prog.globals[0]?).map (·.type) = some 54 by kernel_rfl).symm.trans ht)
  obtain ⟨u, v, h⟩ := iface_of_trod Tryz.underlying54 hd
  refine ⟨.iface u v, ⟨u, v, rfl⟩, ?_⟩
  rw [World.var?_cell hg hv 0, ← Array.getElem?_toList, h]
  rfl
set_option maxRecDepth 100000 in
theorem contract (H : Type) (enc : TypeId × Value → H) (W : World) (base : Nat) (args : Array Value) (ds gs : List (DataW H)) (before : List MemPlace)
    (hval : ∀ (j : Nat) t v, Tryz.f9.params[j]? = some t → args[j]? = some v → Value.okWide Tryz.prog W .any base t v)
    (hW : DataW.Whole enc Tryz.prog Tryz.f9.params.toList Rows.fnReadValueSpec.vars false W args.toList ds gs before) (hL : laidMet Tryz.prog Rows.fnReadValueRow.laid W) :
    Calls Tryz.prog 9 args W fun e W' => ∃ v, e = .returned v ∧ Rows.fnReadValueSpec.post enc Tryz.prog Tryz.f9 false true false false W args v W' := by
  have hW' := hW
  obtain ⟨p, q, hA0, hV, rfl, hfz, hnd⟩ := hW
  have hA : DataW.TrodAll enc Tryz.prog W 0 (fun _ => true) true Tryz.f9.params.toList args.toList ds p := hA0
  rw [Tryz.params9] at hA hval
  obtain ⟨v0, vs0, d0, ds0, p0, q0, hargs, rfl, rfl, h0, r0⟩ := trodAll_cons hA
  obtain ⟨rfl, rfl, rfl⟩ := trodAll_nil r0
  obtain rfl : args = #[v0] := by cases args; simp_all
  obtain ⟨rfl, rfl⟩ := trodVars_none hV
  obtain ⟨t, st, cut, xb, bs, hn⟩ := open_Handed (hval 0 39 v0 rfl rfl) h0
  clear hA0 hA r0
  have hlt : ∀ x ∈ p0 ++ [], x.block < W.heap.size := fun x hx => by
    have hx' : x ∈ p0 ++ [] ++ [] := by rw [List.append_nil]; exact hx
    simpa using hW'.lt x hx'
  refine (FnReadValue_ok W v0 t st cut xb bs hn (tabs_of hL) (eof_of hL)).mono fun e W' ⟨he, hk⟩ => ?_
  subst he
  have hb := hk.toBelow
  refine ⟨_, rfl, _, _, _, [], p0 ++ [], [], hW', ?_, ?_, rfl, hb.frame _, fun h => by cases h⟩
  · exact trodAll_mk1 (shut_bool Tryz.underlying4 _)
  · exact trodAll_cons_mk (Below.trod laid_out (by kernel_rfl) (of_decide_eq_true (by kernel_rfl)) h0 hb fun x hx => hlt x (by simp [hx])) trodAll_mk0
set_option maxRecDepth 100000 in
theorem lifted (os : Os) (started : os.Started) (H : Type) (enc : TypeId × Value → H) (F : Stop.Interp) :
    ReturnsInHanded {} Tryz.checked os 9 .any ((OpenSpec.ofChange Rows.fnReadValueSpec).preRow enc Tryz.prog Tryz.f9 Rows.fnReadValueRow.domain false Rows.fnReadValueRow.laid) (((OpenSpec.ofChange Rows.fnReadValueSpec).at F).post enc Tryz.prog Tryz.f9 false true false false) := by
  refine returnsInHanded_of_row (C := Tryz.checked) (s := OpenSpec.ofChange Rows.fnReadValueSpec) own started (by kernel_rfl) Tryz.func9
    (witness_row_atRef (enc := enc) (C := Tryz.checked) false (laidWorld os) zargs rfl (by kernel_rfl) (by kernel_rfl) (by kernel_rfl) (witness_row os enc)) ?_
  intro W base args ds gs before hval hW _ _ _ hL _ _
  exact contract H enc W base args ds gs before hval hW (laid_plain W hL)
end Go.Proofs.YtmdpodeegdjkeaaGreatDoor.fnReadValue
