/- Package encoding: Unmarshal into a field whose type has its own Unmarshal. What a value of a kind was written as, and the reader of it. -/
import Derived.Test.YtbckofjoancdjaaGreatDoorK26
namespace Go.Proofs.YtbckofjoancdjaaGreatDoor
open Go Go.RowKit Go.Lib
def Own_role (w0 : World) (r : Nat) (s : Value) (D : List UInt8) (T n m i j : Nat) : Prop :=
  ∀ W, At_ w0 W r s D i → TAt T n W → Calls Tryz.prog 234 #[.pointer (some ⟨T, m, none⟩), .pointer (some ⟨r, 0, none⟩)] W (Gives fun e W' => e = .nilIface ∧ At_ w0 W' r s D j ∧ TAt T n W' ∧ Kept (Or2 r T) W W')
set_option maxRecDepth 1000000 in
set_option maxHeartbeats 8000000 in
theorem own_role (w0 : World) (r : Nat) (s : Value) (D : List UInt8) (i0 i j : Nat) (T n m : Nat) (h0 : Buf w0 r s D i0) (hT : w0.heap.size ≤ T) (hm : m < n)
    (hr : ∀ W, Buf W r s D i → Calls Tryz.prog 115 #[.pointer (some ⟨r, 0, none⟩)] W (Gives2 fun x e W' => e = .nilIface ∧ (∃ a, x = .bool a) ∧ At_ W W' r s D j)) : Own_role w0 r s D T n m i j := by
  intro w hA hTA
  have H0 := Lib.hid (And.intro hA hTA)
  have HR := Lib.hid hr
  have HB := Lib.hid h0
  have HT := Lib.hid (And.intro hT hm)
  have hTr : T ≠ r := fun e => by have := h0.lt; omega
  have HTR := Lib.hid hTr
  clear hA hTA hr h0 hT hm hTr
  go_enter Tryz.func234, Tryz.ntmps234
  go_wp2_with (go_at_call 115; go_must (refine (HR.out _ H0.out.1.buf).mono ?_; rintro e w2 ⟨x, y, rfl, rfl, ⟨a, rfl⟩, hA⟩; have hta := H0.out.2.keep hA.kept HTR.out; have H2 := Lib.hid (And.intro hA hta); obtain ⟨u, hu⟩ := hta.cell HT.out.2; have hfz := hta.frozen m; clear hA hta))
  go_ret
  exact ⟨_, rfl, rfl, (H0.out.1.trans H2.out.1).setNew HB.out HT.out.1 _, H2.out.2.set_ m _, (H2.out.1.kept.mono fun b _ hb => .inl hb).setCell (p := ⟨T, m, none⟩) (.inl (.inr rfl)) _⟩
theorem ut_role_0 (v : Value) (W : World) : (Instr.typeAssert (.iface 193 v) 20 256 true).run Tryz.prog W = .ok (.tuple #[.pointer none, .bool false]) W := by kernel_rfl
theorem ut_role_1 (v : Value) (W : World) : (Instr.typeAssert (.iface 193 v) 20 259 true).run Tryz.prog W = .ok (.tuple #[.pointer none, .bool false]) W := by kernel_rfl
theorem ut_role_2 (v : Value) (W : World) : (Instr.typeAssert (.iface 193 v) 20 263 true).run Tryz.prog W = .ok (.tuple #[.pointer none, .bool false]) W := by kernel_rfl
theorem ut_role_3 (v : Value) (W : World) : (Instr.typeAssert (.iface 193 v) 20 267 true).run Tryz.prog W = .ok (.tuple #[.pointer none, .bool false]) W := by kernel_rfl
theorem ut_role_4 (v : Value) (W : World) : (Instr.typeAssert (.iface 193 v) 20 270 true).run Tryz.prog W = .ok (.tuple #[.pointer none, .bool false]) W := by kernel_rfl
theorem ut_role_5 (v : Value) (W : World) : (Instr.typeAssert (.iface 193 v) 20 215 true).run Tryz.prog W = .ok (.tuple #[.pointer none, .bool false]) W := by kernel_rfl
theorem ut_role_6 (v : Value) (W : World) : (Instr.typeAssert (.iface 193 v) 20 143 true).run Tryz.prog W = .ok (.tuple #[.pointer none, .bool false]) W := by kernel_rfl
theorem ut_role_7 (v : Value) (W : World) : (Instr.typeAssert (.iface 193 v) 20 216 true).run Tryz.prog W = .ok (.tuple #[.pointer none, .bool false]) W := by kernel_rfl
theorem ut_role_8 (v : Value) (W : World) : (Instr.typeAssert (.iface 193 v) 20 131 true).run Tryz.prog W = .ok (.tuple #[.pointer none, .bool false]) W := by kernel_rfl
theorem ut_role_9 (v : Value) (W : World) : (Instr.typeAssert (.iface 193 v) 20 275 true).run Tryz.prog W = .ok (.tuple #[.pointer none, .bool false]) W := by kernel_rfl
theorem ut_role_10 (v : Value) (W : World) : (Instr.typeAssert (.iface 193 v) 20 278 true).run Tryz.prog W = .ok (.tuple #[.pointer none, .bool false]) W := by kernel_rfl
theorem ut_role_11 (v : Value) (W : World) : (Instr.typeAssert (.iface 193 v) 20 282 true).run Tryz.prog W = .ok (.tuple #[.pointer none, .bool false]) W := by kernel_rfl
theorem ut_role_12 (v : Value) (W : World) : (Instr.typeAssert (.iface 193 v) 20 181 true).run Tryz.prog W = .ok (.tuple #[.pointer none, .bool false]) W := by kernel_rfl
theorem ut_role_13 (v : Value) (W : World) : (Instr.typeAssert (.iface 193 v) 20 288 true).run Tryz.prog W = .ok (.tuple #[.pointer none, .bool false]) W := by kernel_rfl
theorem ut_role_14 (v : Value) (W : World) : (Instr.typeAssert (.iface 193 v) 20 217 true).run Tryz.prog W = .ok (.tuple #[.pointer none, .bool false]) W := by kernel_rfl
theorem ut_role_15 (v : Value) (W : World) : (Instr.typeAssert (.iface 193 v) 20 214 true).run Tryz.prog W = .ok (.tuple #[.pointer none, .bool false]) W := by kernel_rfl
theorem ut_role_16 (v : Value) (W : World) : (Instr.typeAssert (.iface 193 v) 20 293 true).run Tryz.prog W = .ok (.tuple #[.pointer none, .bool false]) W := by kernel_rfl
theorem ut_role_17 (v : Value) (W : World) : (Instr.typeAssert (.iface 193 v) 20 298 true).run Tryz.prog W = .ok (.tuple #[.pointer none, .bool false]) W := by kernel_rfl
theorem ut_role_18 (v : Value) (W : World) : (Instr.typeAssert (.iface 193 v) 20 300 true).run Tryz.prog W = .ok (.tuple #[.pointer none, .bool false]) W := by kernel_rfl
theorem ut_role_19 (v : Value) (W : World) : (Instr.typeAssert (.iface 193 v) 20 302 true).run Tryz.prog W = .ok (.tuple #[.pointer none, .bool false]) W := by kernel_rfl
theorem ut_role_20 (v : Value) (W : World) : (Instr.typeAssert (.iface 193 v) 20 304 true).run Tryz.prog W = .ok (.tuple #[.pointer none, .bool false]) W := by kernel_rfl
theorem ut_role_21 (v : Value) (W : World) : (Instr.typeAssert (.iface 193 v) 20 306 true).run Tryz.prog W = .ok (.tuple #[.pointer none, .bool false]) W := by kernel_rfl
theorem ut_role_22 (v : Value) (W : World) : (Instr.typeAssert (.iface 193 v) 20 308 true).run Tryz.prog W = .ok (.tuple #[.pointer none, .bool false]) W := by kernel_rfl
theorem ut_role_23 (v : Value) (W : World) : (Instr.typeAssert (.iface 193 v) 20 310 true).run Tryz.prog W = .ok (.tuple #[.pointer none, .bool false]) W := by kernel_rfl
theorem ut_role_24 (v : Value) (W : World) : (Instr.typeAssert (.iface 193 v) 20 312 true).run Tryz.prog W = .ok (.tuple #[.pointer none, .bool false]) W := by kernel_rfl
theorem ut_role_25 (v : Value) (W : World) : (Instr.typeAssert (.iface 193 v) 20 314 true).run Tryz.prog W = .ok (.tuple #[.pointer none, .bool false]) W := by kernel_rfl
theorem ut_role_26 (v : Value) (W : World) : (Instr.typeAssert (.iface 193 v) 20 316 true).run Tryz.prog W = .ok (.tuple #[.pointer none, .bool false]) W := by kernel_rfl
theorem ut_role_27 (v : Value) (W : World) : (Instr.typeAssert (.iface 193 v) 20 318 true).run Tryz.prog W = .ok (.tuple #[.pointer none, .bool false]) W := by kernel_rfl
theorem ut_role_28 (v : Value) (W : World) : (Instr.typeAssert (.iface 193 v) 20 320 true).run Tryz.prog W = .ok (.tuple #[.pointer none, .bool false]) W := by kernel_rfl
theorem ut_role_29 (v : Value) (W : World) : (Instr.typeAssert (.iface 193 v) 20 322 true).run Tryz.prog W = .ok (.tuple #[.pointer none, .bool false]) W := by kernel_rfl
theorem ut_role_30 (v : Value) (W : World) : (Instr.typeAssert (.iface 193 v) 20 324 true).run Tryz.prog W = .ok (.tuple #[.pointer none, .bool false]) W := by kernel_rfl
theorem ut_role_31 (v : Value) (W : World) : (Instr.typeAssert (.iface 193 v) 20 326 true).run Tryz.prog W = .ok (.tuple #[.pointer none, .bool false]) W := by kernel_rfl
theorem ut_role_32 (v : Value) (W : World) : (Instr.typeAssert (.iface 193 v) 20 328 true).run Tryz.prog W = .ok (.tuple #[.pointer none, .bool false]) W := by kernel_rfl
theorem ut_role_33 (v : Value) (W : World) : (Instr.typeAssert (.iface 193 v) 20 330 true).run Tryz.prog W = .ok (.tuple #[.pointer none, .bool false]) W := by kernel_rfl
theorem ut_role_34 (v : Value) (W : World) : (Instr.typeAssert (.iface 193 v) 20 332 true).run Tryz.prog W = .ok (.tuple #[.pointer none, .bool false]) W := by kernel_rfl
theorem ut_role_35 (v : Value) (W : World) : (Instr.typeAssert (.iface 193 v) 20 334 true).run Tryz.prog W = .ok (.tuple #[.pointer none, .bool false]) W := by kernel_rfl
theorem ut_role_36 (v : Value) (W : World) : (Instr.typeAssert (.iface 193 v) 20 189 true).run Tryz.prog W = .ok (.tuple #[.pointer none, .bool false]) W := by kernel_rfl
theorem ut_role_37 (v : Value) (W : World) : (Instr.typeAssert (.iface 193 v) 20 218 true).run Tryz.prog W = .ok (.tuple #[.pointer none, .bool false]) W := by kernel_rfl
theorem ut_role_38 (v : Value) (W : World) : (Instr.typeAssert (.iface 193 v) 20 354 true).run Tryz.prog W = .ok (.tuple #[.pointer none, .bool false]) W := by kernel_rfl
theorem ut_role_y (v : Value) (W : World) : (Instr.typeAssert (.iface 193 v) 20 358 true).run Tryz.prog W = .ok (.tuple #[.iface 193 v, .bool true]) W := by kernel_rfl
theorem meth_role (v : Value) (W : World) : (method 559 193 v "Unmarshal").run Tryz.prog W = .ok (234, v) W := by kernel_rfl
set_option maxRecDepth 1000000 in
set_option maxHeartbeats 8000000 in
theorem UnT_role (w0 : World) (r : Nat) (s : Value) (D : List UInt8) (i0 i j : Nat) (T n m : Nat) (c : UInt8) (h0 : Buf w0 r s D i0) (hT : w0.heap.size ≤ T) (hm : m < n) (hc : D[i]? = some c) (hn : c ≠ 64)
    (hr : Own_role w0 r s D T n m i j) : FieldU w0 r s D T n (.iface 193 (.pointer (some ⟨T, m, none⟩))) i j := by
  intro w hA hTA
  have H0 := Lib.hid (And.intro hA hTA)
  have HC := Lib.hid (And.intro hc hn)
  have HR := Lib.hid hr
  have HB := Lib.hid h0
  have HT := Lib.hid (And.intro hT hm)
  have hTr : T ≠ r := fun e => by have := h0.lt; omega
  have HTR := Lib.hid hTr
  clear hA hTA hc hn hr h0 hT hm hTr
  have f0 := fun W => ut_role_0 (.pointer (some ⟨T, m, none⟩)) W
  have f1 := fun W => ut_role_1 (.pointer (some ⟨T, m, none⟩)) W
  have f2 := fun W => ut_role_2 (.pointer (some ⟨T, m, none⟩)) W
  have f3 := fun W => ut_role_3 (.pointer (some ⟨T, m, none⟩)) W
  have f4 := fun W => ut_role_4 (.pointer (some ⟨T, m, none⟩)) W
  have f5 := fun W => ut_role_5 (.pointer (some ⟨T, m, none⟩)) W
  have f6 := fun W => ut_role_6 (.pointer (some ⟨T, m, none⟩)) W
  have f7 := fun W => ut_role_7 (.pointer (some ⟨T, m, none⟩)) W
  have f8 := fun W => ut_role_8 (.pointer (some ⟨T, m, none⟩)) W
  have f9 := fun W => ut_role_9 (.pointer (some ⟨T, m, none⟩)) W
  have f10 := fun W => ut_role_10 (.pointer (some ⟨T, m, none⟩)) W
  have f11 := fun W => ut_role_11 (.pointer (some ⟨T, m, none⟩)) W
  have f12 := fun W => ut_role_12 (.pointer (some ⟨T, m, none⟩)) W
  have f13 := fun W => ut_role_13 (.pointer (some ⟨T, m, none⟩)) W
  have f14 := fun W => ut_role_14 (.pointer (some ⟨T, m, none⟩)) W
  have f15 := fun W => ut_role_15 (.pointer (some ⟨T, m, none⟩)) W
  have f16 := fun W => ut_role_16 (.pointer (some ⟨T, m, none⟩)) W
  have f17 := fun W => ut_role_17 (.pointer (some ⟨T, m, none⟩)) W
  have f18 := fun W => ut_role_18 (.pointer (some ⟨T, m, none⟩)) W
  have f19 := fun W => ut_role_19 (.pointer (some ⟨T, m, none⟩)) W
  have f20 := fun W => ut_role_20 (.pointer (some ⟨T, m, none⟩)) W
  have f21 := fun W => ut_role_21 (.pointer (some ⟨T, m, none⟩)) W
  have f22 := fun W => ut_role_22 (.pointer (some ⟨T, m, none⟩)) W
  have f23 := fun W => ut_role_23 (.pointer (some ⟨T, m, none⟩)) W
  have f24 := fun W => ut_role_24 (.pointer (some ⟨T, m, none⟩)) W
  have f25 := fun W => ut_role_25 (.pointer (some ⟨T, m, none⟩)) W
  have f26 := fun W => ut_role_26 (.pointer (some ⟨T, m, none⟩)) W
  have f27 := fun W => ut_role_27 (.pointer (some ⟨T, m, none⟩)) W
  have f28 := fun W => ut_role_28 (.pointer (some ⟨T, m, none⟩)) W
  have f29 := fun W => ut_role_29 (.pointer (some ⟨T, m, none⟩)) W
  have f30 := fun W => ut_role_30 (.pointer (some ⟨T, m, none⟩)) W
  have f31 := fun W => ut_role_31 (.pointer (some ⟨T, m, none⟩)) W
  have f32 := fun W => ut_role_32 (.pointer (some ⟨T, m, none⟩)) W
  have f33 := fun W => ut_role_33 (.pointer (some ⟨T, m, none⟩)) W
  have f34 := fun W => ut_role_34 (.pointer (some ⟨T, m, none⟩)) W
  have f35 := fun W => ut_role_35 (.pointer (some ⟨T, m, none⟩)) W
  have f36 := fun W => ut_role_36 (.pointer (some ⟨T, m, none⟩)) W
  have f37 := fun W => ut_role_37 (.pointer (some ⟨T, m, none⟩)) W
  have f38 := fun W => ut_role_38 (.pointer (some ⟨T, m, none⟩)) W
  have fy := fun W => ut_role_y (.pointer (some ⟨T, m, none⟩)) W
  have fm := fun W => meth_role (.pointer (some ⟨T, m, none⟩)) W
  go_enter Tryz.func95, Tryz.ntmps95
  go_wp2_with (first | (go_at_call 94; go_must (refine (tryReadNull_no r s D i _ c H0.out.1.buf HC.out.1 HC.out.2).mono ?_; rintro e w1 ⟨rfl, hA⟩; have H1 := Lib.hid (And.intro hA (H0.out.2.keep hA.kept HTR.out)); clear hA)) | (go_at_call 234; go_must (refine (HR.out _ (H0.out.1.trans H1.out.1) H1.out.2).mono ?_; rintro e w2 ⟨x, rfl, rfl, hA⟩; have H2 := Lib.hid hA; clear hA)))
  go_outline
  go_ret
  exact ⟨_, rfl, rfl, H2.out.1, H2.out.2.1, (H1.out.1.kept.mono fun b _ hb => .inl hb).trans' H2.out.2.2⟩
def Own_code (w0 : World) (r : Nat) (s : Value) (D : List UInt8) (T n m i j : Nat) : Prop :=
  ∀ W, At_ w0 W r s D i → TAt T n W → Calls Tryz.prog 241 #[.pointer (some ⟨T, m, none⟩), .pointer (some ⟨r, 0, none⟩)] W (Gives fun e W' => e = .nilIface ∧ At_ w0 W' r s D j ∧ TAt T n W' ∧ Kept (Or2 r T) W W')
set_option maxRecDepth 1000000 in
set_option maxHeartbeats 8000000 in
theorem own_code (w0 : World) (r : Nat) (s : Value) (D : List UInt8) (i0 i j : Nat) (T n m : Nat) (h0 : Buf w0 r s D i0) (hT : w0.heap.size ≤ T) (hm : m < n)
    (hr : ∀ W, Buf W r s D i → Calls Tryz.prog 110 #[.pointer (some ⟨r, 0, none⟩)] W (Gives2 fun x e W' => e = .nilIface ∧ (∃ a, x = .int .u8 a) ∧ At_ W W' r s D j)) : Own_code w0 r s D T n m i j := by
  intro w hA hTA
  have H0 := Lib.hid (And.intro hA hTA)
  have HR := Lib.hid hr
  have HB := Lib.hid h0
  have HT := Lib.hid (And.intro hT hm)
  have hTr : T ≠ r := fun e => by have := h0.lt; omega
  have HTR := Lib.hid hTr
  clear hA hTA hr h0 hT hm hTr
  go_enter Tryz.func241, Tryz.ntmps241
  go_wp2_with (go_at_call 110; go_must (refine (HR.out _ H0.out.1.buf).mono ?_; rintro e w2 ⟨x, y, rfl, rfl, ⟨a, rfl⟩, hA⟩; have hta := H0.out.2.keep hA.kept HTR.out; have H2 := Lib.hid (And.intro hA hta); obtain ⟨u, hu⟩ := hta.cell HT.out.2; have hfz := hta.frozen m; clear hA hta))
  go_ret
  exact ⟨_, rfl, rfl, (H0.out.1.trans H2.out.1).setNew HB.out HT.out.1 _, H2.out.2.set_ m _, (H2.out.1.kept.mono fun b _ hb => .inl hb).setCell (p := ⟨T, m, none⟩) (.inl (.inr rfl)) _⟩
theorem ut_code_0 (v : Value) (W : World) : (Instr.typeAssert (.iface 225 v) 20 256 true).run Tryz.prog W = .ok (.tuple #[.pointer none, .bool false]) W := by kernel_rfl
theorem ut_code_1 (v : Value) (W : World) : (Instr.typeAssert (.iface 225 v) 20 259 true).run Tryz.prog W = .ok (.tuple #[.pointer none, .bool false]) W := by kernel_rfl
theorem ut_code_2 (v : Value) (W : World) : (Instr.typeAssert (.iface 225 v) 20 263 true).run Tryz.prog W = .ok (.tuple #[.pointer none, .bool false]) W := by kernel_rfl
theorem ut_code_3 (v : Value) (W : World) : (Instr.typeAssert (.iface 225 v) 20 267 true).run Tryz.prog W = .ok (.tuple #[.pointer none, .bool false]) W := by kernel_rfl
theorem ut_code_4 (v : Value) (W : World) : (Instr.typeAssert (.iface 225 v) 20 270 true).run Tryz.prog W = .ok (.tuple #[.pointer none, .bool false]) W := by kernel_rfl
theorem ut_code_5 (v : Value) (W : World) : (Instr.typeAssert (.iface 225 v) 20 215 true).run Tryz.prog W = .ok (.tuple #[.pointer none, .bool false]) W := by kernel_rfl
theorem ut_code_6 (v : Value) (W : World) : (Instr.typeAssert (.iface 225 v) 20 143 true).run Tryz.prog W = .ok (.tuple #[.pointer none, .bool false]) W := by kernel_rfl
theorem ut_code_7 (v : Value) (W : World) : (Instr.typeAssert (.iface 225 v) 20 216 true).run Tryz.prog W = .ok (.tuple #[.pointer none, .bool false]) W := by kernel_rfl
theorem ut_code_8 (v : Value) (W : World) : (Instr.typeAssert (.iface 225 v) 20 131 true).run Tryz.prog W = .ok (.tuple #[.pointer none, .bool false]) W := by kernel_rfl
theorem ut_code_9 (v : Value) (W : World) : (Instr.typeAssert (.iface 225 v) 20 275 true).run Tryz.prog W = .ok (.tuple #[.pointer none, .bool false]) W := by kernel_rfl
theorem ut_code_10 (v : Value) (W : World) : (Instr.typeAssert (.iface 225 v) 20 278 true).run Tryz.prog W = .ok (.tuple #[.pointer none, .bool false]) W := by kernel_rfl
theorem ut_code_11 (v : Value) (W : World) : (Instr.typeAssert (.iface 225 v) 20 282 true).run Tryz.prog W = .ok (.tuple #[.pointer none, .bool false]) W := by kernel_rfl
theorem ut_code_12 (v : Value) (W : World) : (Instr.typeAssert (.iface 225 v) 20 181 true).run Tryz.prog W = .ok (.tuple #[.pointer none, .bool false]) W := by kernel_rfl
theorem ut_code_13 (v : Value) (W : World) : (Instr.typeAssert (.iface 225 v) 20 288 true).run Tryz.prog W = .ok (.tuple #[.pointer none, .bool false]) W := by kernel_rfl
theorem ut_code_14 (v : Value) (W : World) : (Instr.typeAssert (.iface 225 v) 20 217 true).run Tryz.prog W = .ok (.tuple #[.pointer none, .bool false]) W := by kernel_rfl
theorem ut_code_15 (v : Value) (W : World) : (Instr.typeAssert (.iface 225 v) 20 214 true).run Tryz.prog W = .ok (.tuple #[.pointer none, .bool false]) W := by kernel_rfl
theorem ut_code_16 (v : Value) (W : World) : (Instr.typeAssert (.iface 225 v) 20 293 true).run Tryz.prog W = .ok (.tuple #[.pointer none, .bool false]) W := by kernel_rfl
theorem ut_code_17 (v : Value) (W : World) : (Instr.typeAssert (.iface 225 v) 20 298 true).run Tryz.prog W = .ok (.tuple #[.pointer none, .bool false]) W := by kernel_rfl
theorem ut_code_18 (v : Value) (W : World) : (Instr.typeAssert (.iface 225 v) 20 300 true).run Tryz.prog W = .ok (.tuple #[.pointer none, .bool false]) W := by kernel_rfl
theorem ut_code_19 (v : Value) (W : World) : (Instr.typeAssert (.iface 225 v) 20 302 true).run Tryz.prog W = .ok (.tuple #[.pointer none, .bool false]) W := by kernel_rfl
theorem ut_code_20 (v : Value) (W : World) : (Instr.typeAssert (.iface 225 v) 20 304 true).run Tryz.prog W = .ok (.tuple #[.pointer none, .bool false]) W := by kernel_rfl
theorem ut_code_21 (v : Value) (W : World) : (Instr.typeAssert (.iface 225 v) 20 306 true).run Tryz.prog W = .ok (.tuple #[.pointer none, .bool false]) W := by kernel_rfl
theorem ut_code_22 (v : Value) (W : World) : (Instr.typeAssert (.iface 225 v) 20 308 true).run Tryz.prog W = .ok (.tuple #[.pointer none, .bool false]) W := by kernel_rfl
theorem ut_code_23 (v : Value) (W : World) : (Instr.typeAssert (.iface 225 v) 20 310 true).run Tryz.prog W = .ok (.tuple #[.pointer none, .bool false]) W := by kernel_rfl
theorem ut_code_24 (v : Value) (W : World) : (Instr.typeAssert (.iface 225 v) 20 312 true).run Tryz.prog W = .ok (.tuple #[.pointer none, .bool false]) W := by kernel_rfl
theorem ut_code_25 (v : Value) (W : World) : (Instr.typeAssert (.iface 225 v) 20 314 true).run Tryz.prog W = .ok (.tuple #[.pointer none, .bool false]) W := by kernel_rfl
theorem ut_code_26 (v : Value) (W : World) : (Instr.typeAssert (.iface 225 v) 20 316 true).run Tryz.prog W = .ok (.tuple #[.pointer none, .bool false]) W := by kernel_rfl
theorem ut_code_27 (v : Value) (W : World) : (Instr.typeAssert (.iface 225 v) 20 318 true).run Tryz.prog W = .ok (.tuple #[.pointer none, .bool false]) W := by kernel_rfl
theorem ut_code_28 (v : Value) (W : World) : (Instr.typeAssert (.iface 225 v) 20 320 true).run Tryz.prog W = .ok (.tuple #[.pointer none, .bool false]) W := by kernel_rfl
theorem ut_code_29 (v : Value) (W : World) : (Instr.typeAssert (.iface 225 v) 20 322 true).run Tryz.prog W = .ok (.tuple #[.pointer none, .bool false]) W := by kernel_rfl
theorem ut_code_30 (v : Value) (W : World) : (Instr.typeAssert (.iface 225 v) 20 324 true).run Tryz.prog W = .ok (.tuple #[.pointer none, .bool false]) W := by kernel_rfl
theorem ut_code_31 (v : Value) (W : World) : (Instr.typeAssert (.iface 225 v) 20 326 true).run Tryz.prog W = .ok (.tuple #[.pointer none, .bool false]) W := by kernel_rfl
theorem ut_code_32 (v : Value) (W : World) : (Instr.typeAssert (.iface 225 v) 20 328 true).run Tryz.prog W = .ok (.tuple #[.pointer none, .bool false]) W := by kernel_rfl
theorem ut_code_33 (v : Value) (W : World) : (Instr.typeAssert (.iface 225 v) 20 330 true).run Tryz.prog W = .ok (.tuple #[.pointer none, .bool false]) W := by kernel_rfl
theorem ut_code_34 (v : Value) (W : World) : (Instr.typeAssert (.iface 225 v) 20 332 true).run Tryz.prog W = .ok (.tuple #[.pointer none, .bool false]) W := by kernel_rfl
theorem ut_code_35 (v : Value) (W : World) : (Instr.typeAssert (.iface 225 v) 20 334 true).run Tryz.prog W = .ok (.tuple #[.pointer none, .bool false]) W := by kernel_rfl
theorem ut_code_36 (v : Value) (W : World) : (Instr.typeAssert (.iface 225 v) 20 189 true).run Tryz.prog W = .ok (.tuple #[.pointer none, .bool false]) W := by kernel_rfl
theorem ut_code_37 (v : Value) (W : World) : (Instr.typeAssert (.iface 225 v) 20 218 true).run Tryz.prog W = .ok (.tuple #[.pointer none, .bool false]) W := by kernel_rfl
theorem ut_code_38 (v : Value) (W : World) : (Instr.typeAssert (.iface 225 v) 20 354 true).run Tryz.prog W = .ok (.tuple #[.pointer none, .bool false]) W := by kernel_rfl
theorem ut_code_y (v : Value) (W : World) : (Instr.typeAssert (.iface 225 v) 20 358 true).run Tryz.prog W = .ok (.tuple #[.iface 225 v, .bool true]) W := by kernel_rfl
theorem meth_code (v : Value) (W : World) : (method 559 225 v "Unmarshal").run Tryz.prog W = .ok (241, v) W := by kernel_rfl
set_option maxRecDepth 1000000 in
set_option maxHeartbeats 8000000 in
theorem UnT_code (w0 : World) (r : Nat) (s : Value) (D : List UInt8) (i0 i j : Nat) (T n m : Nat) (c : UInt8) (h0 : Buf w0 r s D i0) (hT : w0.heap.size ≤ T) (hm : m < n) (hc : D[i]? = some c) (hn : c ≠ 64)
    (hr : Own_code w0 r s D T n m i j) : FieldU w0 r s D T n (.iface 225 (.pointer (some ⟨T, m, none⟩))) i j := by
  intro w hA hTA
  have H0 := Lib.hid (And.intro hA hTA)
  have HC := Lib.hid (And.intro hc hn)
  have HR := Lib.hid hr
  have HB := Lib.hid h0
  have HT := Lib.hid (And.intro hT hm)
  have hTr : T ≠ r := fun e => by have := h0.lt; omega
  have HTR := Lib.hid hTr
  clear hA hTA hc hn hr h0 hT hm hTr
  have f0 := fun W => ut_code_0 (.pointer (some ⟨T, m, none⟩)) W
  have f1 := fun W => ut_code_1 (.pointer (some ⟨T, m, none⟩)) W
  have f2 := fun W => ut_code_2 (.pointer (some ⟨T, m, none⟩)) W
  have f3 := fun W => ut_code_3 (.pointer (some ⟨T, m, none⟩)) W
  have f4 := fun W => ut_code_4 (.pointer (some ⟨T, m, none⟩)) W
  have f5 := fun W => ut_code_5 (.pointer (some ⟨T, m, none⟩)) W
  have f6 := fun W => ut_code_6 (.pointer (some ⟨T, m, none⟩)) W
  have f7 := fun W => ut_code_7 (.pointer (some ⟨T, m, none⟩)) W
  have f8 := fun W => ut_code_8 (.pointer (some ⟨T, m, none⟩)) W
  have f9 := fun W => ut_code_9 (.pointer (some ⟨T, m, none⟩)) W
  have f10 := fun W => ut_code_10 (.pointer (some ⟨T, m, none⟩)) W
  have f11 := fun W => ut_code_11 (.pointer (some ⟨T, m, none⟩)) W
  have f12 := fun W => ut_code_12 (.pointer (some ⟨T, m, none⟩)) W
  have f13 := fun W => ut_code_13 (.pointer (some ⟨T, m, none⟩)) W
  have f14 := fun W => ut_code_14 (.pointer (some ⟨T, m, none⟩)) W
  have f15 := fun W => ut_code_15 (.pointer (some ⟨T, m, none⟩)) W
  have f16 := fun W => ut_code_16 (.pointer (some ⟨T, m, none⟩)) W
  have f17 := fun W => ut_code_17 (.pointer (some ⟨T, m, none⟩)) W
  have f18 := fun W => ut_code_18 (.pointer (some ⟨T, m, none⟩)) W
  have f19 := fun W => ut_code_19 (.pointer (some ⟨T, m, none⟩)) W
  have f20 := fun W => ut_code_20 (.pointer (some ⟨T, m, none⟩)) W
  have f21 := fun W => ut_code_21 (.pointer (some ⟨T, m, none⟩)) W
  have f22 := fun W => ut_code_22 (.pointer (some ⟨T, m, none⟩)) W
  have f23 := fun W => ut_code_23 (.pointer (some ⟨T, m, none⟩)) W
  have f24 := fun W => ut_code_24 (.pointer (some ⟨T, m, none⟩)) W
  have f25 := fun W => ut_code_25 (.pointer (some ⟨T, m, none⟩)) W
  have f26 := fun W => ut_code_26 (.pointer (some ⟨T, m, none⟩)) W
  have f27 := fun W => ut_code_27 (.pointer (some ⟨T, m, none⟩)) W
  have f28 := fun W => ut_code_28 (.pointer (some ⟨T, m, none⟩)) W
  have f29 := fun W => ut_code_29 (.pointer (some ⟨T, m, none⟩)) W
  have f30 := fun W => ut_code_30 (.pointer (some ⟨T, m, none⟩)) W
  have f31 := fun W => ut_code_31 (.pointer (some ⟨T, m, none⟩)) W
  have f32 := fun W => ut_code_32 (.pointer (some ⟨T, m, none⟩)) W
  have f33 := fun W => ut_code_33 (.pointer (some ⟨T, m, none⟩)) W
  have f34 := fun W => ut_code_34 (.pointer (some ⟨T, m, none⟩)) W
  have f35 := fun W => ut_code_35 (.pointer (some ⟨T, m, none⟩)) W
  have f36 := fun W => ut_code_36 (.pointer (some ⟨T, m, none⟩)) W
  have f37 := fun W => ut_code_37 (.pointer (some ⟨T, m, none⟩)) W
  have f38 := fun W => ut_code_38 (.pointer (some ⟨T, m, none⟩)) W
  have fy := fun W => ut_code_y (.pointer (some ⟨T, m, none⟩)) W
  have fm := fun W => meth_code (.pointer (some ⟨T, m, none⟩)) W
  go_enter Tryz.func95, Tryz.ntmps95
  go_wp2_with (first | (go_at_call 94; go_must (refine (tryReadNull_no r s D i _ c H0.out.1.buf HC.out.1 HC.out.2).mono ?_; rintro e w1 ⟨rfl, hA⟩; have H1 := Lib.hid (And.intro hA (H0.out.2.keep hA.kept HTR.out)); clear hA)) | (go_at_call 241; go_must (refine (HR.out _ (H0.out.1.trans H1.out.1) H1.out.2).mono ?_; rintro e w2 ⟨x, rfl, rfl, hA⟩; have H2 := Lib.hid hA; clear hA)))
  go_outline
  go_ret
  exact ⟨_, rfl, rfl, H2.out.1, H2.out.2.1, (H1.out.1.kept.mono fun b _ hb => .inl hb).trans' H2.out.2.2⟩
def Own_sym (w0 : World) (r : Nat) (s : Value) (D : List UInt8) (T n m i j : Nat) : Prop :=
  ∀ W, At_ w0 W r s D i → TAt T n W → Calls Tryz.prog 233 #[.pointer (some ⟨T, m, none⟩), .pointer (some ⟨r, 0, none⟩)] W (Gives fun e W' => e = .nilIface ∧ At_ w0 W' r s D j ∧ TAt T n W' ∧ Kept (Or2 r T) W W')
set_option maxRecDepth 1000000 in
set_option maxHeartbeats 8000000 in
theorem own_sym (w0 : World) (r : Nat) (s : Value) (D : List UInt8) (i0 i j : Nat) (T n m : Nat) (c : UInt8) (h0 : Buf w0 r s D i0) (hT : w0.heap.size ≤ T) (hm : m < n) (hc : D[i]? = some c) (hn : c = 163 ∨ c = 179)
    (hr : ∀ W, Buf W r s D i → Calls Tryz.prog 113 #[.pointer (some ⟨r, 0, none⟩)] W (Gives2 fun x e W' => e = .nilIface ∧ (∃ a, x = .string a) ∧ At_ W W' r s D j)) : Own_sym w0 r s D T n m i j := by
  intro w hA hTA
  have H0 := Lib.hid (And.intro hA hTA)
  have HC := Lib.hid hc
  have HR := Lib.hid hr
  have HB := Lib.hid h0
  have HT := Lib.hid (And.intro hT hm)
  have hTr : T ≠ r := fun e => by have := h0.lt; omega
  have HTR := Lib.hid hTr
  clear hA hTA hc hr h0 hT hm hTr
  rcases hn with rfl | rfl
  all_goals
    go_enter Tryz.func233, Tryz.ntmps233
    go_wp2_with (first | (go_at_call 144; go_must (refine (peekType_yes r s D i _ _ H0.out.1.buf HC.out).mono ?_; rintro e w1 ⟨rfl, k1, rfl⟩; have H1 := Lib.hid (And.intro ((At_.refl H0.out.1.buf).drewN k1) (H0.out.2.keep ((Kept.refl Nope _).drewN k1) (fun h => h))))) | (go_at_call 113; go_must (refine (HR.out _ H1.out.1.buf).mono ?_; rintro e w2 ⟨x, y, rfl, rfl, ⟨a, rfl⟩, hA⟩; have hta := (H1.out.2.keep hA.kept HTR.out); have H2 := Lib.hid (And.intro hA hta); obtain ⟨u, hu⟩ := (hta.keep ((Kept.refl Nope _).alloc (.cells #[.string a] 203)) (fun h => h)).cell HT.out.2; have hfz := (hta.keep ((Kept.refl Nope _).alloc (.cells #[.string a] 203)) (fun h => h)).frozen m; clear hA hta)))
    go_outline
    go_ret
    exact ⟨_, rfl, rfl, (((H0.out.1.trans H1.out.1).trans H2.out.1).nope ((Kept.refl _ _).alloc _)).setNew HB.out HT.out.1 _, (H2.out.2.keep ((Kept.refl Nope _).alloc _) (fun h => h)).set_ m _, (((H1.out.1.trans H2.out.1).kept.mono fun b _ hb => .inl hb).alloc _).setCell (p := ⟨T, m, none⟩) (.inl (.inr rfl)) _⟩
theorem ut_sym_0 (v : Value) (W : World) : (Instr.typeAssert (.iface 188 v) 20 256 true).run Tryz.prog W = .ok (.tuple #[.pointer none, .bool false]) W := by kernel_rfl
theorem ut_sym_1 (v : Value) (W : World) : (Instr.typeAssert (.iface 188 v) 20 259 true).run Tryz.prog W = .ok (.tuple #[.pointer none, .bool false]) W := by kernel_rfl
theorem ut_sym_2 (v : Value) (W : World) : (Instr.typeAssert (.iface 188 v) 20 263 true).run Tryz.prog W = .ok (.tuple #[.pointer none, .bool false]) W := by kernel_rfl
theorem ut_sym_3 (v : Value) (W : World) : (Instr.typeAssert (.iface 188 v) 20 267 true).run Tryz.prog W = .ok (.tuple #[.pointer none, .bool false]) W := by kernel_rfl
theorem ut_sym_4 (v : Value) (W : World) : (Instr.typeAssert (.iface 188 v) 20 270 true).run Tryz.prog W = .ok (.tuple #[.pointer none, .bool false]) W := by kernel_rfl
theorem ut_sym_5 (v : Value) (W : World) : (Instr.typeAssert (.iface 188 v) 20 215 true).run Tryz.prog W = .ok (.tuple #[.pointer none, .bool false]) W := by kernel_rfl
theorem ut_sym_6 (v : Value) (W : World) : (Instr.typeAssert (.iface 188 v) 20 143 true).run Tryz.prog W = .ok (.tuple #[.pointer none, .bool false]) W := by kernel_rfl
theorem ut_sym_7 (v : Value) (W : World) : (Instr.typeAssert (.iface 188 v) 20 216 true).run Tryz.prog W = .ok (.tuple #[.pointer none, .bool false]) W := by kernel_rfl
theorem ut_sym_8 (v : Value) (W : World) : (Instr.typeAssert (.iface 188 v) 20 131 true).run Tryz.prog W = .ok (.tuple #[.pointer none, .bool false]) W := by kernel_rfl
theorem ut_sym_9 (v : Value) (W : World) : (Instr.typeAssert (.iface 188 v) 20 275 true).run Tryz.prog W = .ok (.tuple #[.pointer none, .bool false]) W := by kernel_rfl
theorem ut_sym_10 (v : Value) (W : World) : (Instr.typeAssert (.iface 188 v) 20 278 true).run Tryz.prog W = .ok (.tuple #[.pointer none, .bool false]) W := by kernel_rfl
theorem ut_sym_11 (v : Value) (W : World) : (Instr.typeAssert (.iface 188 v) 20 282 true).run Tryz.prog W = .ok (.tuple #[.pointer none, .bool false]) W := by kernel_rfl
theorem ut_sym_12 (v : Value) (W : World) : (Instr.typeAssert (.iface 188 v) 20 181 true).run Tryz.prog W = .ok (.tuple #[.pointer none, .bool false]) W := by kernel_rfl
theorem ut_sym_13 (v : Value) (W : World) : (Instr.typeAssert (.iface 188 v) 20 288 true).run Tryz.prog W = .ok (.tuple #[.pointer none, .bool false]) W := by kernel_rfl
theorem ut_sym_14 (v : Value) (W : World) : (Instr.typeAssert (.iface 188 v) 20 217 true).run Tryz.prog W = .ok (.tuple #[.pointer none, .bool false]) W := by kernel_rfl
theorem ut_sym_15 (v : Value) (W : World) : (Instr.typeAssert (.iface 188 v) 20 214 true).run Tryz.prog W = .ok (.tuple #[.pointer none, .bool false]) W := by kernel_rfl
theorem ut_sym_16 (v : Value) (W : World) : (Instr.typeAssert (.iface 188 v) 20 293 true).run Tryz.prog W = .ok (.tuple #[.pointer none, .bool false]) W := by kernel_rfl
theorem ut_sym_17 (v : Value) (W : World) : (Instr.typeAssert (.iface 188 v) 20 298 true).run Tryz.prog W = .ok (.tuple #[.pointer none, .bool false]) W := by kernel_rfl
theorem ut_sym_18 (v : Value) (W : World) : (Instr.typeAssert (.iface 188 v) 20 300 true).run Tryz.prog W = .ok (.tuple #[.pointer none, .bool false]) W := by kernel_rfl
theorem ut_sym_19 (v : Value) (W : World) : (Instr.typeAssert (.iface 188 v) 20 302 true).run Tryz.prog W = .ok (.tuple #[.pointer none, .bool false]) W := by kernel_rfl
theorem ut_sym_20 (v : Value) (W : World) : (Instr.typeAssert (.iface 188 v) 20 304 true).run Tryz.prog W = .ok (.tuple #[.pointer none, .bool false]) W := by kernel_rfl
theorem ut_sym_21 (v : Value) (W : World) : (Instr.typeAssert (.iface 188 v) 20 306 true).run Tryz.prog W = .ok (.tuple #[.pointer none, .bool false]) W := by kernel_rfl
theorem ut_sym_22 (v : Value) (W : World) : (Instr.typeAssert (.iface 188 v) 20 308 true).run Tryz.prog W = .ok (.tuple #[.pointer none, .bool false]) W := by kernel_rfl
theorem ut_sym_23 (v : Value) (W : World) : (Instr.typeAssert (.iface 188 v) 20 310 true).run Tryz.prog W = .ok (.tuple #[.pointer none, .bool false]) W := by kernel_rfl
theorem ut_sym_24 (v : Value) (W : World) : (Instr.typeAssert (.iface 188 v) 20 312 true).run Tryz.prog W = .ok (.tuple #[.pointer none, .bool false]) W := by kernel_rfl
theorem ut_sym_25 (v : Value) (W : World) : (Instr.typeAssert (.iface 188 v) 20 314 true).run Tryz.prog W = .ok (.tuple #[.pointer none, .bool false]) W := by kernel_rfl
theorem ut_sym_26 (v : Value) (W : World) : (Instr.typeAssert (.iface 188 v) 20 316 true).run Tryz.prog W = .ok (.tuple #[.pointer none, .bool false]) W := by kernel_rfl
theorem ut_sym_27 (v : Value) (W : World) : (Instr.typeAssert (.iface 188 v) 20 318 true).run Tryz.prog W = .ok (.tuple #[.pointer none, .bool false]) W := by kernel_rfl
theorem ut_sym_28 (v : Value) (W : World) : (Instr.typeAssert (.iface 188 v) 20 320 true).run Tryz.prog W = .ok (.tuple #[.pointer none, .bool false]) W := by kernel_rfl
theorem ut_sym_29 (v : Value) (W : World) : (Instr.typeAssert (.iface 188 v) 20 322 true).run Tryz.prog W = .ok (.tuple #[.pointer none, .bool false]) W := by kernel_rfl
theorem ut_sym_30 (v : Value) (W : World) : (Instr.typeAssert (.iface 188 v) 20 324 true).run Tryz.prog W = .ok (.tuple #[.pointer none, .bool false]) W := by kernel_rfl
theorem ut_sym_31 (v : Value) (W : World) : (Instr.typeAssert (.iface 188 v) 20 326 true).run Tryz.prog W = .ok (.tuple #[.pointer none, .bool false]) W := by kernel_rfl
theorem ut_sym_32 (v : Value) (W : World) : (Instr.typeAssert (.iface 188 v) 20 328 true).run Tryz.prog W = .ok (.tuple #[.pointer none, .bool false]) W := by kernel_rfl
theorem ut_sym_33 (v : Value) (W : World) : (Instr.typeAssert (.iface 188 v) 20 330 true).run Tryz.prog W = .ok (.tuple #[.pointer none, .bool false]) W := by kernel_rfl
theorem ut_sym_34 (v : Value) (W : World) : (Instr.typeAssert (.iface 188 v) 20 332 true).run Tryz.prog W = .ok (.tuple #[.pointer none, .bool false]) W := by kernel_rfl
theorem ut_sym_35 (v : Value) (W : World) : (Instr.typeAssert (.iface 188 v) 20 334 true).run Tryz.prog W = .ok (.tuple #[.pointer none, .bool false]) W := by kernel_rfl
theorem ut_sym_36 (v : Value) (W : World) : (Instr.typeAssert (.iface 188 v) 20 189 true).run Tryz.prog W = .ok (.tuple #[.pointer none, .bool false]) W := by kernel_rfl
theorem ut_sym_37 (v : Value) (W : World) : (Instr.typeAssert (.iface 188 v) 20 218 true).run Tryz.prog W = .ok (.tuple #[.pointer none, .bool false]) W := by kernel_rfl
theorem ut_sym_38 (v : Value) (W : World) : (Instr.typeAssert (.iface 188 v) 20 354 true).run Tryz.prog W = .ok (.tuple #[.pointer none, .bool false]) W := by kernel_rfl
theorem ut_sym_y (v : Value) (W : World) : (Instr.typeAssert (.iface 188 v) 20 358 true).run Tryz.prog W = .ok (.tuple #[.iface 188 v, .bool true]) W := by kernel_rfl
theorem meth_sym (v : Value) (W : World) : (method 559 188 v "Unmarshal").run Tryz.prog W = .ok (233, v) W := by kernel_rfl
set_option maxRecDepth 1000000 in
set_option maxHeartbeats 8000000 in
theorem UnT_sym (w0 : World) (r : Nat) (s : Value) (D : List UInt8) (i0 i j : Nat) (T n m : Nat) (c : UInt8) (h0 : Buf w0 r s D i0) (hT : w0.heap.size ≤ T) (hm : m < n) (hc : D[i]? = some c) (hn : c ≠ 64)
    (hr : Own_sym w0 r s D T n m i j) : FieldU w0 r s D T n (.iface 188 (.pointer (some ⟨T, m, none⟩))) i j := by
  intro w hA hTA
  have H0 := Lib.hid (And.intro hA hTA)
  have HC := Lib.hid (And.intro hc hn)
  have HR := Lib.hid hr
  have HB := Lib.hid h0
  have HT := Lib.hid (And.intro hT hm)
  have hTr : T ≠ r := fun e => by have := h0.lt; omega
  have HTR := Lib.hid hTr
  clear hA hTA hc hn hr h0 hT hm hTr
  have f0 := fun W => ut_sym_0 (.pointer (some ⟨T, m, none⟩)) W
  have f1 := fun W => ut_sym_1 (.pointer (some ⟨T, m, none⟩)) W
  have f2 := fun W => ut_sym_2 (.pointer (some ⟨T, m, none⟩)) W
  have f3 := fun W => ut_sym_3 (.pointer (some ⟨T, m, none⟩)) W
  have f4 := fun W => ut_sym_4 (.pointer (some ⟨T, m, none⟩)) W
  have f5 := fun W => ut_sym_5 (.pointer (some ⟨T, m, none⟩)) W
  have f6 := fun W => ut_sym_6 (.pointer (some ⟨T, m, none⟩)) W
  have f7 := fun W => ut_sym_7 (.pointer (some ⟨T, m, none⟩)) W
  have f8 := fun W => ut_sym_8 (.pointer (some ⟨T, m, none⟩)) W
  have f9 := fun W => ut_sym_9 (.pointer (some ⟨T, m, none⟩)) W
  have f10 := fun W => ut_sym_10 (.pointer (some ⟨T, m, none⟩)) W
  have f11 := fun W => ut_sym_11 (.pointer (some ⟨T, m, none⟩)) W
  have f12 := fun W => ut_sym_12 (.pointer (some ⟨T, m, none⟩)) W
  have f13 := fun W => ut_sym_13 (.pointer (some ⟨T, m, none⟩)) W
  have f14 := fun W => ut_sym_14 (.pointer (some ⟨T, m, none⟩)) W
  have f15 := fun W => ut_sym_15 (.pointer (some ⟨T, m, none⟩)) W
  have f16 := fun W => ut_sym_16 (.pointer (some ⟨T, m, none⟩)) W
  have f17 := fun W => ut_sym_17 (.pointer (some ⟨T, m, none⟩)) W
  have f18 := fun W => ut_sym_18 (.pointer (some ⟨T, m, none⟩)) W
  have f19 := fun W => ut_sym_19 (.pointer (some ⟨T, m, none⟩)) W
  have f20 := fun W => ut_sym_20 (.pointer (some ⟨T, m, none⟩)) W
  have f21 := fun W => ut_sym_21 (.pointer (some ⟨T, m, none⟩)) W
  have f22 := fun W => ut_sym_22 (.pointer (some ⟨T, m, none⟩)) W
  have f23 := fun W => ut_sym_23 (.pointer (some ⟨T, m, none⟩)) W
  have f24 := fun W => ut_sym_24 (.pointer (some ⟨T, m, none⟩)) W
  have f25 := fun W => ut_sym_25 (.pointer (some ⟨T, m, none⟩)) W
  have f26 := fun W => ut_sym_26 (.pointer (some ⟨T, m, none⟩)) W
  have f27 := fun W => ut_sym_27 (.pointer (some ⟨T, m, none⟩)) W
  have f28 := fun W => ut_sym_28 (.pointer (some ⟨T, m, none⟩)) W
  have f29 := fun W => ut_sym_29 (.pointer (some ⟨T, m, none⟩)) W
  have f30 := fun W => ut_sym_30 (.pointer (some ⟨T, m, none⟩)) W
  have f31 := fun W => ut_sym_31 (.pointer (some ⟨T, m, none⟩)) W
  have f32 := fun W => ut_sym_32 (.pointer (some ⟨T, m, none⟩)) W
  have f33 := fun W => ut_sym_33 (.pointer (some ⟨T, m, none⟩)) W
  have f34 := fun W => ut_sym_34 (.pointer (some ⟨T, m, none⟩)) W
  have f35 := fun W => ut_sym_35 (.pointer (some ⟨T, m, none⟩)) W
  have f36 := fun W => ut_sym_36 (.pointer (some ⟨T, m, none⟩)) W
  have f37 := fun W => ut_sym_37 (.pointer (some ⟨T, m, none⟩)) W
  have f38 := fun W => ut_sym_38 (.pointer (some ⟨T, m, none⟩)) W
  have fy := fun W => ut_sym_y (.pointer (some ⟨T, m, none⟩)) W
  have fm := fun W => meth_sym (.pointer (some ⟨T, m, none⟩)) W
  go_enter Tryz.func95, Tryz.ntmps95
  go_wp2_with (first | (go_at_call 94; go_must (refine (tryReadNull_no r s D i _ c H0.out.1.buf HC.out.1 HC.out.2).mono ?_; rintro e w1 ⟨rfl, hA⟩; have H1 := Lib.hid (And.intro hA (H0.out.2.keep hA.kept HTR.out)); clear hA)) | (go_at_call 233; go_must (refine (HR.out _ (H0.out.1.trans H1.out.1) H1.out.2).mono ?_; rintro e w2 ⟨x, rfl, rfl, hA⟩; have H2 := Lib.hid hA; clear hA)))
  go_outline
  go_ret
  exact ⟨_, rfl, rfl, H2.out.1, H2.out.2.1, (H1.out.1.kept.mono fun b _ hb => .inl hb).trans' H2.out.2.2⟩
end Go.Proofs.YtbckofjoancdjaaGreatDoor
namespace Go.Proofs.YtbckofjoancdjaaGreatDoor
open Go Go.RowKit Go.Lib
theorem Enc.plain' {v : V} {p : List UInt8} (h : Enc v p) (hd : v.desc = []) : ∃ c q, p = UInt8.ofNat c :: q ∧ Form v c q := by
  cases h with
  | plain _ hf => exact ⟨_, _, rfl, hf⟩
  | desc hd' _ _ => rw [hd] at hd'; cases hd'
theorem Enc.null {v : V} {p : List UInt8} (h : Enc v p) (hd : v.desc = []) (hk : v.kind = 0) : p = [64] := by
  obtain ⟨c, q, rfl, hf⟩ := h.plain' hd
  cases hf <;> first | rfl | (exfalso; omega) | (exfalso; simp only [numKind] at *; omega)
theorem Enc.uint {v : V} {p : List UInt8} (h : Enc v p) (hd : v.desc = []) (hk : v.kind = 4) : p = 112 :: be 4 v.num.toNat ∨ p = [67] ∨ p = 82 :: be 1 v.num.toNat := by
  obtain ⟨c, q, rfl, hf⟩ := h.plain' hd
  cases hf <;> first | (rw [hk]; exact .inl rfl) | exact .inr (.inl rfl) | exact .inr (.inr rfl) | (exfalso; omega) | (exfalso; simp only [numKind] at *; omega)
theorem Enc.ushort {v : V} {p : List UInt8} (h : Enc v p) (hd : v.desc = []) (hk : v.kind = 3) : p = 96 :: be 2 v.num.toNat := by
  obtain ⟨c, q, rfl, hf⟩ := h.plain' hd
  cases hf <;> first | (rw [hk]; rfl) | (exfalso; omega) | (exfalso; simp only [numKind] at *; omega)
theorem Enc.ubyte {v : V} {p : List UInt8} (h : Enc v p) (hd : v.desc = []) (hk : v.kind = 2) : p = 80 :: be 1 v.num.toNat := by
  obtain ⟨c, q, rfl, hf⟩ := h.plain' hd
  cases hf <;> first | (rw [hk]; rfl) | (exfalso; omega) | (exfalso; simp only [numKind] at *; omega)
theorem Enc.flag {v : V} {p : List UInt8} (h : Enc v p) (hd : v.desc = []) (hk : v.kind = 1) : p = [UInt8.ofNat (66 - v.num.toNat)] ∨ p = [86, UInt8.ofNat v.num.toNat] := by
  obtain ⟨c, q, rfl, hf⟩ := h.plain' hd
  cases hf <;> first | exact .inl rfl | exact .inr rfl | (exfalso; omega) | (exfalso; simp only [numKind] at *; omega)
theorem Enc.text {v : V} {p : List UInt8} (h : Enc v p) (hd : v.desc = []) (hk : v.kind = 18 ∨ v.kind = 19 ∨ v.kind = 20) : (v.text.size < 256 ∧ p = UInt8.ofNat (tcode v.kind) :: (be 1 v.text.size ++ bytesOf v.text)) ∨ p = UInt8.ofNat (coded v.kind) :: (be 4 v.text.size ++ bytesOf v.text) := by
  obtain ⟨c, q, rfl, hf⟩ := h.plain' hd
  cases hf <;> first | exact .inl ⟨by assumption, rfl⟩ | exact .inr rfl | (exfalso; omega) | (exfalso; simp only [numKind] at *; omega)
section
variable (r : Nat) (s : Value) (D : List UInt8) (i : Nat)
def Rds (f : Nat) (R : Value → Prop) (r : Nat) (s : Value) (D : List UInt8) (i j : Nat) : Prop := ∀ W, Buf W r s D i → Calls Tryz.prog f #[.pointer (some ⟨r, 0, none⟩)] W (Gives2 fun x e W' => e = .nilIface ∧ R x ∧ At_ W W' r s D j)
theorem rd_uint {v : V} {p : List UInt8} (h : Enc v p) (hd : v.desc = []) (hk : v.kind = 4) (hl : Lies D i p) : (∃ c, D[i]? = some c ∧ c ≠ 64) ∧ Rds 108 (fun x => ∃ a, x = .int .u32 a) r s D i (i + p.length) := by
  rcases h.uint hd hk with rfl | rfl | rfl
  · refine ⟨⟨112, hl 0 _ rfl, by decide⟩, fun W hB => (readUint32_70 r s D i W _ _ _ _ hB (hl 0 _ rfl) (hl 1 _ rfl) (hl 2 _ rfl) (hl 3 _ rfl) (hl 4 _ rfl)).mono ?_⟩
    rintro e w' ⟨rfl, hA⟩; exact ⟨_, _, rfl, rfl, ⟨_, rfl⟩, hA⟩
  · refine ⟨⟨67, hl 0 _ rfl, by decide⟩, fun W hB => (readUint32_43 r s D i W hB (hl 0 _ rfl)).mono ?_⟩
    rintro e w' ⟨rfl, hA⟩; exact ⟨_, _, rfl, rfl, ⟨_, rfl⟩, hA⟩
  · refine ⟨⟨82, hl 0 _ rfl, by decide⟩, fun W hB => (readUint32_52 r s D i W _ hB (hl 0 _ rfl) (hl 1 _ rfl)).mono ?_⟩
    rintro e w' ⟨rfl, hA⟩; exact ⟨_, _, rfl, rfl, ⟨_, rfl⟩, hA⟩
theorem rd_ushort {v : V} {p : List UInt8} (h : Enc v p) (hd : v.desc = []) (hk : v.kind = 3) (hl : Lies D i p) : (∃ c, D[i]? = some c ∧ c ≠ 64) ∧ Rds 109 (fun x => ∃ a, x = .int .u16 a) r s D i (i + p.length) := by
  obtain rfl := h.ushort hd hk
  refine ⟨⟨96, hl 0 _ rfl, by decide⟩, fun W hB => (readUshort_60 r s D i W _ _ hB (hl 0 _ rfl) (hl 1 _ rfl) (hl 2 _ rfl)).mono ?_⟩
  rintro e w' ⟨rfl, hA⟩; exact ⟨_, _, rfl, rfl, ⟨_, rfl⟩, hA⟩
theorem rd_ubyte {v : V} {p : List UInt8} (h : Enc v p) (hd : v.desc = []) (hk : v.kind = 2) (hl : Lies D i p) : (∃ c, D[i]? = some c ∧ c ≠ 64) ∧ Rds 110 (fun x => ∃ a, x = .int .u8 a) r s D i (i + p.length) := by
  obtain rfl := h.ubyte hd hk
  refine ⟨⟨80, hl 0 _ rfl, by decide⟩, fun W hB => (ReadUbyte_50 r s D i W _ hB (hl 0 _ rfl) (hl 1 _ rfl)).mono ?_⟩
  rintro e w' ⟨rfl, hA⟩; exact ⟨_, _, rfl, rfl, ⟨_, rfl⟩, hA⟩
theorem rd_flag {v : V} {p : List UInt8} (h : Enc v p) (hd : v.desc = []) (hk : v.kind = 1) (h0 : v.num = 0) (hl : Lies D i p) : (∃ c, D[i]? = some c ∧ c ≠ 64) ∧ Rds 115 (fun x => ∃ a, x = .bool a) r s D i (i + p.length) := by
  rcases h.flag hd hk with rfl | rfl <;> rw [h0] at hl ⊢
  · refine ⟨⟨66, hl 0 _ rfl, by decide⟩, fun W hB => (readBool_42 r s D i W hB (hl 0 _ rfl)).mono ?_⟩
    rintro e w' ⟨rfl, hA⟩; exact ⟨_, _, rfl, rfl, ⟨_, rfl⟩, hA⟩
  · refine ⟨⟨86, hl 0 _ rfl, by decide⟩, fun W hB => (readBool_56 r s D i W _ hB (hl 0 _ rfl) (hl 1 _ rfl)).mono ?_⟩
    rintro e w' ⟨rfl, hA⟩; exact ⟨_, _, rfl, rfl, ⟨_, rfl⟩, hA⟩
theorem rd_text {v : V} {p : List UInt8} (h : Enc v p) (hd : v.desc = []) (hk : v.kind = 19 ∨ v.kind = 20) (ht : v.text = ⟨#[97]⟩) (hl : Lies D i p) : (∃ c, D[i]? = some c ∧ c ≠ 64 ∧ (v.kind = 20 → c = 163 ∨ c = 179)) ∧ Rds 113 (fun x => ∃ a, x = .string a) r s D i (i + p.length) := by
  have hh := h.text hd (by omega)
  rw [ht] at hh
  rcases hk with hk | hk <;> rw [hk] at hh ⊢ <;> rcases hh with ⟨_, rfl⟩ | rfl
  · have hx := (List.getElem?_eq_some_iff.1 (hl 2 _ rfl)).1
    refine ⟨⟨161, hl 0 _ rfl, by decide, fun h => absurd h (by decide)⟩, fun W hB => (ReadString_1 r s D i W 161 1 (.inl rfl) hB (hl 0 _ rfl) (hl 1 _ rfl) hx).mono ?_⟩
    rintro e w' ⟨rfl, hA⟩; exact ⟨_, _, rfl, rfl, ⟨_, rfl⟩, hA⟩
  · have hx := (List.getElem?_eq_some_iff.1 (hl 5 _ rfl)).1
    refine ⟨⟨177, hl 0 _ rfl, by decide, fun h => absurd h (by decide)⟩, fun W hB => (ReadString_4 r s D i W 177 0 0 0 1 (.inl rfl) hB (hl 0 _ rfl) (hl 1 _ rfl) (hl 2 _ rfl) (hl 3 _ rfl) (hl 4 _ rfl) hx).mono ?_⟩
    rintro e w' ⟨rfl, hA⟩; exact ⟨_, _, rfl, rfl, ⟨_, rfl⟩, hA⟩
  · have hx := (List.getElem?_eq_some_iff.1 (hl 2 _ rfl)).1
    refine ⟨⟨163, hl 0 _ rfl, by decide, fun _ => .inl rfl⟩, fun W hB => (ReadString_1 r s D i W 163 1 (.inr rfl) hB (hl 0 _ rfl) (hl 1 _ rfl) hx).mono ?_⟩
    rintro e w' ⟨rfl, hA⟩; exact ⟨_, _, rfl, rfl, ⟨_, rfl⟩, hA⟩
  · have hx := (List.getElem?_eq_some_iff.1 (hl 5 _ rfl)).1
    refine ⟨⟨179, hl 0 _ rfl, by decide, fun _ => .inr rfl⟩, fun W hB => (ReadString_4 r s D i W 179 0 0 0 1 (.inr rfl) hB (hl 0 _ rfl) (hl 1 _ rfl) (hl 2 _ rfl) (hl 3 _ rfl) (hl 4 _ rfl) hx).mono ?_⟩
    rintro e w' ⟨rfl, hA⟩; exact ⟨_, _, rfl, rfl, ⟨_, rfl⟩, hA⟩
theorem rd_bin {v : V} {p : List UInt8} (h : Enc v p) (hd : v.desc = []) (hk : v.kind = 18) (ht : v.text = ⟨#[97]⟩) (hl : Lies D i p) : (∃ c, D[i]? = some c ∧ c ≠ 64) ∧ Rds 114 (fun x => ∃ a b d, x = .slice a b d) r s D i (i + p.length) := by
  have hh := h.text hd (by omega)
  rw [ht, hk] at hh
  rcases hh with ⟨_, rfl⟩ | rfl
  · have hx := (List.getElem?_eq_some_iff.1 (hl 2 _ rfl)).1
    refine ⟨⟨160, hl 0 _ rfl, by decide⟩, fun W hB => (readBinary_1 r s D i W 160 1 rfl hB (hl 0 _ rfl) (hl 1 _ rfl) hx (by decide)).mono ?_⟩
    rintro e w' ⟨x, y, rfl, rfl, ⟨a, c, rfl, _⟩, hA⟩; exact ⟨_, _, rfl, rfl, ⟨_, _, _, rfl⟩, hA⟩
  · have hx := (List.getElem?_eq_some_iff.1 (hl 5 _ rfl)).1
    refine ⟨⟨176, hl 0 _ rfl, by decide⟩, fun W hB => (readBinary_4 r s D i W 176 0 0 0 1 rfl hB (hl 0 _ rfl) (hl 1 _ rfl) (hl 2 _ rfl) (hl 3 _ rfl) (hl 4 _ rfl) hx (by decide)).mono ?_⟩
    rintro e w' ⟨x, y, rfl, rfl, ⟨a, c, rfl, _⟩, hA⟩; exact ⟨_, _, rfl, rfl, ⟨_, _, _, rfl⟩, hA⟩
def FieldV (w0 : World) (r : Nat) (s : Value) (T n : Nat) (x h : Value) (v : V) : Prop := ∀ (D : List UInt8) (i0 i : Nat) (p : List UInt8), Buf w0 r s D i0 → w0.heap.size ≤ T → Enc v p → Lies D i p → FieldAt w0 r s D T n x h i (i + p.length)
end
section
variable {w0 : World} {r : Nat} {s : Value} {T n m : Nat} {x h : Value} {v : V}
theorem fv_null (hd : v.desc = []) (hk : v.kind = 0) : FieldV w0 r s T n x .nilFunc v := by
  intro D i0 i p hB hT he hl
  obtain rfl := he.null hd hk
  exact .inl ⟨hl 0 _ rfl, rfl, rfl⟩
theorem fv_uint (hm : m < n) (hd : v.desc = []) (hk : v.kind = 4) : FieldV w0 r s T n (.iface 143 (.pointer (some ⟨T, m, none⟩))) h v := by
  intro D i0 i p hB hT he hl
  obtain ⟨⟨c, hc, hn⟩, hr⟩ := rd_uint r s D i he hd hk hl
  exact .inr ⟨⟨c, hc, hn⟩, UnT_u32 w0 r s D i0 i _ T n m c hB hT hm hc hn hr⟩
theorem fv_ushort (hm : m < n) (hd : v.desc = []) (hk : v.kind = 3) : FieldV w0 r s T n (.iface 131 (.pointer (some ⟨T, m, none⟩))) h v := by
  intro D i0 i p hB hT he hl
  obtain ⟨⟨c, hc, hn⟩, hr⟩ := rd_ushort r s D i he hd hk hl
  exact .inr ⟨⟨c, hc, hn⟩, UnT_u16 w0 r s D i0 i _ T n m c hB hT hm hc hn hr⟩
theorem fv_str (hm : m < n) (hd : v.desc = []) (hk : v.kind = 19) (ht : v.text = ⟨#[97]⟩) : FieldV w0 r s T n (.iface 181 (.pointer (some ⟨T, m, none⟩))) h v := by
  intro D i0 i p hB hT he hl
  obtain ⟨⟨c, hc, hn, _⟩, hr⟩ := rd_text r s D i he hd (.inl hk) ht hl
  exact .inr ⟨⟨c, hc, hn⟩, UnT_str w0 r s D i0 i _ T n m c hB hT hm hc hn hr⟩
theorem fv_bin (hm : m < n) (hd : v.desc = []) (hk : v.kind = 18) (ht : v.text = ⟨#[97]⟩) : FieldV w0 r s T n (.iface 217 (.pointer (some ⟨T, m, none⟩))) h v := by
  intro D i0 i p hB hT he hl
  obtain ⟨⟨c, hc, hn⟩, hr⟩ := rd_bin r s D i he hd hk ht hl
  exact .inr ⟨⟨c, hc, hn⟩, UnT_bin w0 r s D i0 i _ T n m c hB hT hm hc hn hr⟩
theorem fv_role (hm : m < n) (hd : v.desc = []) (hk : v.kind = 1) (h0 : v.num = 0) : FieldV w0 r s T n (.iface 193 (.pointer (some ⟨T, m, none⟩))) h v := by
  intro D i0 i p hB hT he hl
  obtain ⟨⟨c, hc, hn⟩, hr⟩ := rd_flag r s D i he hd hk h0 hl
  exact .inr ⟨⟨c, hc, hn⟩, UnT_role w0 r s D i0 i _ T n m c hB hT hm hc hn (own_role w0 r s D i0 i _ T n m hB hT hm hr)⟩
theorem fv_code (hm : m < n) (hd : v.desc = []) (hk : v.kind = 2) : FieldV w0 r s T n (.iface 225 (.pointer (some ⟨T, m, none⟩))) h v := by
  intro D i0 i p hB hT he hl
  obtain ⟨⟨c, hc, hn⟩, hr⟩ := rd_ubyte r s D i he hd hk hl
  exact .inr ⟨⟨c, hc, hn⟩, UnT_code w0 r s D i0 i _ T n m c hB hT hm hc hn (own_code w0 r s D i0 i _ T n m hB hT hm hr)⟩
theorem fv_sym (hm : m < n) (hd : v.desc = []) (hk : v.kind = 20) (ht : v.text = ⟨#[97]⟩) : FieldV w0 r s T n (.iface 188 (.pointer (some ⟨T, m, none⟩))) h v := by
  intro D i0 i p hB hT he hl
  obtain ⟨⟨c, hc, hn, h2⟩, hr⟩ := rd_text r s D i he hd (.inr hk) ht hl
  exact .inr ⟨⟨c, hc, hn⟩, UnT_sym w0 r s D i0 i _ T n m c hB hT hm hc hn (own_sym w0 r s D i0 i _ T n m c hB hT hm hc (h2 hk) hr)⟩
end
end Go.Proofs.YtbckofjoancdjaaGreatDoor
