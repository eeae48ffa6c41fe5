/- What a value of type any is asserted to be: no other type than its own. Package msgp: AppendIntf, by dynamic type: nothing, truths, floats. Package msgp: AppendIntf, by dynamic type: texts, bytes. Package msgp: AppendIntf, by dynamic type: numbers. Package msgp: AppendIntf, by dynamic type: maps. -/
import Derived.Test.YtapfahngeaojkaaGreatDoorK11
namespace Go.Proofs.YtapfahngeaojkaaGreatDoor
open Go Go.RowKit Go.Lib
theorem as_no_iface {T A : TypeId} {want : Array (String × TypeId)} (hu : Tryz.prog.underlying A = some (.interface want)) (hz : ∀ W, (zeroValue A).run Tryz.prog W = .ok .nilIface W) (hm : (Tryz.prog.info? T).map (·.methods) = some #[]) (hw : ∃ m, Instr.missingMethod want #[] = some m) (v : Value) (W : World) :
    (Instr.typeAssert (.iface T v) 20 A true).run Tryz.prog W = .ok (.tuple #[.nilIface, .bool false]) W := by
  obtain ⟨m, hm2⟩ := hw
  cases hq : Tryz.prog.info? T with
  | none => rw [hq] at hm; cases hm
  | some i =>
    rw [hq] at hm
    have hi : i.methods = #[] := by simpa using hm
    unfold Instr.typeAssert
    simp [Sem.run_bind, run_underlying hu, Result.andThen_ok, typeInfo, hq, hi, hm2, hz, Sem.run_pure]
theorem miss1 : ∃ m, Instr.missingMethod #[("MarshalMsg", 63)] #[] = some m := by
  simp [Instr.missingMethod]
  exact ⟨_, .inl rfl⟩
theorem miss2 : ∃ m, Instr.missingMethod #[("ExtensionType", 107), ("Len", 104), ("MarshalBinaryTo", 112), ("UnmarshalBinary", 112)] #[] = some m := by
  simp [Instr.missingMethod]
  exact ⟨_, .inl rfl⟩
theorem z_Marshaler (W : World) : (zeroValue 62).run Tryz.prog W = .ok .nilIface W := by kernel_rfl
theorem z_Extension (W : World) : (zeroValue 65).run Tryz.prog W = .ok .nilIface W := by kernel_rfl
theorem meth_bool : (Tryz.prog.info? 4).map (·.methods) = some #[] := by kernel_rfl
theorem meth_f32 : (Tryz.prog.info? 50).map (·.methods) = some #[] := by kernel_rfl
theorem meth_f64 : (Tryz.prog.info? 53).map (·.methods) = some #[] := by kernel_rfl
theorem meth_string : (Tryz.prog.info? 9).map (·.methods) = some #[] := by kernel_rfl
theorem meth_bytes : (Tryz.prog.info? 22).map (·.methods) = some #[] := by kernel_rfl
theorem meth_i64 : (Tryz.prog.info? 2).map (·.methods) = some #[] := by kernel_rfl
theorem meth_u64 : (Tryz.prog.info? 23).map (·.methods) = some #[] := by kernel_rfl
theorem meth_mStr : (Tryz.prog.info? 56).map (·.methods) = some #[] := by kernel_rfl
theorem meth_sAny : (Tryz.prog.info? 55).map (·.methods) = some #[] := by kernel_rfl
theorem as_yes_bool (v : Value) (W : World) : (Instr.typeAssert (.iface 4 v) 20 4 true).run Tryz.prog W = .ok (.tuple #[v, .bool true]) W := by kernel_rfl
theorem as_no_bool {T : TypeId} (v : Value) (W : World) (h : T ≠ 4) : (Instr.typeAssert (.iface T v) 20 4 true).run Tryz.prog W = .ok (.tuple #[.bool false, .bool false]) W := by
  have e : (Instr.typeAssert (.iface T v) 20 4 true).run Tryz.prog W = (if T = 4 then (pure (Value.tuple #[v, .bool true]) : Sem Value) else (do pure (Value.tuple #[← zeroValue 4, .bool false]))).run Tryz.prog W := by kernel_rfl
  have hz : (do pure (Value.tuple #[← zeroValue 4, .bool false]) : Sem Value).run Tryz.prog W = .ok (.tuple #[.bool false, .bool false]) W := by kernel_rfl
  rw [e, if_neg h]
  exact hz
theorem as_yes_f32 (v : Value) (W : World) : (Instr.typeAssert (.iface 50 v) 20 50 true).run Tryz.prog W = .ok (.tuple #[v, .bool true]) W := by kernel_rfl
theorem as_no_f32 {T : TypeId} (v : Value) (W : World) (h : T ≠ 50) : (Instr.typeAssert (.iface T v) 20 50 true).run Tryz.prog W = .ok (.tuple #[.float .f32 0, .bool false]) W := by
  have e : (Instr.typeAssert (.iface T v) 20 50 true).run Tryz.prog W = (if T = 50 then (pure (Value.tuple #[v, .bool true]) : Sem Value) else (do pure (Value.tuple #[← zeroValue 50, .bool false]))).run Tryz.prog W := by kernel_rfl
  have hz : (do pure (Value.tuple #[← zeroValue 50, .bool false]) : Sem Value).run Tryz.prog W = .ok (.tuple #[.float .f32 0, .bool false]) W := by kernel_rfl
  rw [e, if_neg h]
  exact hz
theorem as_yes_f64 (v : Value) (W : World) : (Instr.typeAssert (.iface 53 v) 20 53 true).run Tryz.prog W = .ok (.tuple #[v, .bool true]) W := by kernel_rfl
theorem as_no_f64 {T : TypeId} (v : Value) (W : World) (h : T ≠ 53) : (Instr.typeAssert (.iface T v) 20 53 true).run Tryz.prog W = .ok (.tuple #[.float .f64 0, .bool false]) W := by
  have e : (Instr.typeAssert (.iface T v) 20 53 true).run Tryz.prog W = (if T = 53 then (pure (Value.tuple #[v, .bool true]) : Sem Value) else (do pure (Value.tuple #[← zeroValue 53, .bool false]))).run Tryz.prog W := by kernel_rfl
  have hz : (do pure (Value.tuple #[← zeroValue 53, .bool false]) : Sem Value).run Tryz.prog W = .ok (.tuple #[.float .f64 0, .bool false]) W := by kernel_rfl
  rw [e, if_neg h]
  exact hz
theorem as_no_c64 {T : TypeId} (v : Value) (W : World) (h : T ≠ 70) : (Instr.typeAssert (.iface T v) 20 70 true).run Tryz.prog W = .ok (.tuple #[.complex .f32 0 0, .bool false]) W := by
  have e : (Instr.typeAssert (.iface T v) 20 70 true).run Tryz.prog W = (if T = 70 then (pure (Value.tuple #[v, .bool true]) : Sem Value) else (do pure (Value.tuple #[← zeroValue 70, .bool false]))).run Tryz.prog W := by kernel_rfl
  have hz : (do pure (Value.tuple #[← zeroValue 70, .bool false]) : Sem Value).run Tryz.prog W = .ok (.tuple #[.complex .f32 0 0, .bool false]) W := by kernel_rfl
  rw [e, if_neg h]
  exact hz
theorem as_no_c128 {T : TypeId} (v : Value) (W : World) (h : T ≠ 72) : (Instr.typeAssert (.iface T v) 20 72 true).run Tryz.prog W = .ok (.tuple #[.complex .f64 0 0, .bool false]) W := by
  have e : (Instr.typeAssert (.iface T v) 20 72 true).run Tryz.prog W = (if T = 72 then (pure (Value.tuple #[v, .bool true]) : Sem Value) else (do pure (Value.tuple #[← zeroValue 72, .bool false]))).run Tryz.prog W := by kernel_rfl
  have hz : (do pure (Value.tuple #[← zeroValue 72, .bool false]) : Sem Value).run Tryz.prog W = .ok (.tuple #[.complex .f64 0 0, .bool false]) W := by kernel_rfl
  rw [e, if_neg h]
  exact hz
theorem as_yes_string (v : Value) (W : World) : (Instr.typeAssert (.iface 9 v) 20 9 true).run Tryz.prog W = .ok (.tuple #[v, .bool true]) W := by kernel_rfl
theorem as_no_string {T : TypeId} (v : Value) (W : World) (h : T ≠ 9) : (Instr.typeAssert (.iface T v) 20 9 true).run Tryz.prog W = .ok (.tuple #[.string ⟨#[]⟩, .bool false]) W := by
  have e : (Instr.typeAssert (.iface T v) 20 9 true).run Tryz.prog W = (if T = 9 then (pure (Value.tuple #[v, .bool true]) : Sem Value) else (do pure (Value.tuple #[← zeroValue 9, .bool false]))).run Tryz.prog W := by kernel_rfl
  have hz : (do pure (Value.tuple #[← zeroValue 9, .bool false]) : Sem Value).run Tryz.prog W = .ok (.tuple #[.string ⟨#[]⟩, .bool false]) W := by kernel_rfl
  rw [e, if_neg h]
  exact hz
theorem as_yes_bytes (v : Value) (W : World) : (Instr.typeAssert (.iface 22 v) 20 22 true).run Tryz.prog W = .ok (.tuple #[v, .bool true]) W := by kernel_rfl
theorem as_no_bytes {T : TypeId} (v : Value) (W : World) (h : T ≠ 22) : (Instr.typeAssert (.iface T v) 20 22 true).run Tryz.prog W = .ok (.tuple #[.slice none 0 0, .bool false]) W := by
  have e : (Instr.typeAssert (.iface T v) 20 22 true).run Tryz.prog W = (if T = 22 then (pure (Value.tuple #[v, .bool true]) : Sem Value) else (do pure (Value.tuple #[← zeroValue 22, .bool false]))).run Tryz.prog W := by kernel_rfl
  have hz : (do pure (Value.tuple #[← zeroValue 22, .bool false]) : Sem Value).run Tryz.prog W = .ok (.tuple #[.slice none 0 0, .bool false]) W := by kernel_rfl
  rw [e, if_neg h]
  exact hz
theorem as_no_i8 {T : TypeId} (v : Value) (W : World) (h : T ≠ 46) : (Instr.typeAssert (.iface T v) 20 46 true).run Tryz.prog W = .ok (.tuple #[.int .i8 0, .bool false]) W := by
  have e : (Instr.typeAssert (.iface T v) 20 46 true).run Tryz.prog W = (if T = 46 then (pure (Value.tuple #[v, .bool true]) : Sem Value) else (do pure (Value.tuple #[← zeroValue 46, .bool false]))).run Tryz.prog W := by kernel_rfl
  have hz : (do pure (Value.tuple #[← zeroValue 46, .bool false]) : Sem Value).run Tryz.prog W = .ok (.tuple #[.int .i8 0, .bool false]) W := by kernel_rfl
  rw [e, if_neg h]
  exact hz
theorem as_no_i16 {T : TypeId} (v : Value) (W : World) (h : T ≠ 77) : (Instr.typeAssert (.iface T v) 20 77 true).run Tryz.prog W = .ok (.tuple #[.int .i16 0, .bool false]) W := by
  have e : (Instr.typeAssert (.iface T v) 20 77 true).run Tryz.prog W = (if T = 77 then (pure (Value.tuple #[v, .bool true]) : Sem Value) else (do pure (Value.tuple #[← zeroValue 77, .bool false]))).run Tryz.prog W := by kernel_rfl
  have hz : (do pure (Value.tuple #[← zeroValue 77, .bool false]) : Sem Value).run Tryz.prog W = .ok (.tuple #[.int .i16 0, .bool false]) W := by kernel_rfl
  rw [e, if_neg h]
  exact hz
theorem as_no_i32 {T : TypeId} (v : Value) (W : World) (h : T ≠ 21) : (Instr.typeAssert (.iface T v) 20 21 true).run Tryz.prog W = .ok (.tuple #[.int .i32 0, .bool false]) W := by
  have e : (Instr.typeAssert (.iface T v) 20 21 true).run Tryz.prog W = (if T = 21 then (pure (Value.tuple #[v, .bool true]) : Sem Value) else (do pure (Value.tuple #[← zeroValue 21, .bool false]))).run Tryz.prog W := by kernel_rfl
  have hz : (do pure (Value.tuple #[← zeroValue 21, .bool false]) : Sem Value).run Tryz.prog W = .ok (.tuple #[.int .i32 0, .bool false]) W := by kernel_rfl
  rw [e, if_neg h]
  exact hz
theorem as_yes_i64 (v : Value) (W : World) : (Instr.typeAssert (.iface 2 v) 20 2 true).run Tryz.prog W = .ok (.tuple #[v, .bool true]) W := by kernel_rfl
theorem as_no_i64 {T : TypeId} (v : Value) (W : World) (h : T ≠ 2) : (Instr.typeAssert (.iface T v) 20 2 true).run Tryz.prog W = .ok (.tuple #[.int .i64 0, .bool false]) W := by
  have e : (Instr.typeAssert (.iface T v) 20 2 true).run Tryz.prog W = (if T = 2 then (pure (Value.tuple #[v, .bool true]) : Sem Value) else (do pure (Value.tuple #[← zeroValue 2, .bool false]))).run Tryz.prog W := by kernel_rfl
  have hz : (do pure (Value.tuple #[← zeroValue 2, .bool false]) : Sem Value).run Tryz.prog W = .ok (.tuple #[.int .i64 0, .bool false]) W := by kernel_rfl
  rw [e, if_neg h]
  exact hz
theorem as_no_int {T : TypeId} (v : Value) (W : World) (h : T ≠ 3) : (Instr.typeAssert (.iface T v) 20 3 true).run Tryz.prog W = .ok (.tuple #[.int .i64 0, .bool false]) W := by
  have e : (Instr.typeAssert (.iface T v) 20 3 true).run Tryz.prog W = (if T = 3 then (pure (Value.tuple #[v, .bool true]) : Sem Value) else (do pure (Value.tuple #[← zeroValue 3, .bool false]))).run Tryz.prog W := by kernel_rfl
  have hz : (do pure (Value.tuple #[← zeroValue 3, .bool false]) : Sem Value).run Tryz.prog W = .ok (.tuple #[.int .i64 0, .bool false]) W := by kernel_rfl
  rw [e, if_neg h]
  exact hz
theorem as_no_uint {T : TypeId} (v : Value) (W : World) (h : T ≠ 81) : (Instr.typeAssert (.iface T v) 20 81 true).run Tryz.prog W = .ok (.tuple #[.int .u64 0, .bool false]) W := by
  have e : (Instr.typeAssert (.iface T v) 20 81 true).run Tryz.prog W = (if T = 81 then (pure (Value.tuple #[v, .bool true]) : Sem Value) else (do pure (Value.tuple #[← zeroValue 81, .bool false]))).run Tryz.prog W := by kernel_rfl
  have hz : (do pure (Value.tuple #[← zeroValue 81, .bool false]) : Sem Value).run Tryz.prog W = .ok (.tuple #[.int .u64 0, .bool false]) W := by kernel_rfl
  rw [e, if_neg h]
  exact hz
theorem as_no_u8 {T : TypeId} (v : Value) (W : World) (h : T ≠ 5) : (Instr.typeAssert (.iface T v) 20 5 true).run Tryz.prog W = .ok (.tuple #[.int .u8 0, .bool false]) W := by
  have e : (Instr.typeAssert (.iface T v) 20 5 true).run Tryz.prog W = (if T = 5 then (pure (Value.tuple #[v, .bool true]) : Sem Value) else (do pure (Value.tuple #[← zeroValue 5, .bool false]))).run Tryz.prog W := by kernel_rfl
  have hz : (do pure (Value.tuple #[← zeroValue 5, .bool false]) : Sem Value).run Tryz.prog W = .ok (.tuple #[.int .u8 0, .bool false]) W := by kernel_rfl
  rw [e, if_neg h]
  exact hz
theorem as_no_u16 {T : TypeId} (v : Value) (W : World) (h : T ≠ 84) : (Instr.typeAssert (.iface T v) 20 84 true).run Tryz.prog W = .ok (.tuple #[.int .u16 0, .bool false]) W := by
  have e : (Instr.typeAssert (.iface T v) 20 84 true).run Tryz.prog W = (if T = 84 then (pure (Value.tuple #[v, .bool true]) : Sem Value) else (do pure (Value.tuple #[← zeroValue 84, .bool false]))).run Tryz.prog W := by kernel_rfl
  have hz : (do pure (Value.tuple #[← zeroValue 84, .bool false]) : Sem Value).run Tryz.prog W = .ok (.tuple #[.int .u16 0, .bool false]) W := by kernel_rfl
  rw [e, if_neg h]
  exact hz
theorem as_no_u32 {T : TypeId} (v : Value) (W : World) (h : T ≠ 52) : (Instr.typeAssert (.iface T v) 20 52 true).run Tryz.prog W = .ok (.tuple #[.int .u32 0, .bool false]) W := by
  have e : (Instr.typeAssert (.iface T v) 20 52 true).run Tryz.prog W = (if T = 52 then (pure (Value.tuple #[v, .bool true]) : Sem Value) else (do pure (Value.tuple #[← zeroValue 52, .bool false]))).run Tryz.prog W := by kernel_rfl
  have hz : (do pure (Value.tuple #[← zeroValue 52, .bool false]) : Sem Value).run Tryz.prog W = .ok (.tuple #[.int .u32 0, .bool false]) W := by kernel_rfl
  rw [e, if_neg h]
  exact hz
theorem as_yes_u64 (v : Value) (W : World) : (Instr.typeAssert (.iface 23 v) 20 23 true).run Tryz.prog W = .ok (.tuple #[v, .bool true]) W := by kernel_rfl
theorem as_no_u64 {T : TypeId} (v : Value) (W : World) (h : T ≠ 23) : (Instr.typeAssert (.iface T v) 20 23 true).run Tryz.prog W = .ok (.tuple #[.int .u64 0, .bool false]) W := by
  have e : (Instr.typeAssert (.iface T v) 20 23 true).run Tryz.prog W = (if T = 23 then (pure (Value.tuple #[v, .bool true]) : Sem Value) else (do pure (Value.tuple #[← zeroValue 23, .bool false]))).run Tryz.prog W := by kernel_rfl
  have hz : (do pure (Value.tuple #[← zeroValue 23, .bool false]) : Sem Value).run Tryz.prog W = .ok (.tuple #[.int .u64 0, .bool false]) W := by kernel_rfl
  rw [e, if_neg h]
  exact hz
theorem as_no_mTime {T : TypeId} (v : Value) (W : World) (h : T ≠ 88) : (Instr.typeAssert (.iface T v) 20 88 true).run Tryz.prog W = .ok (.tuple #[.agg #[.int .i64 0, .int .i64 0], .bool false]) W := by
  have e : (Instr.typeAssert (.iface T v) 20 88 true).run Tryz.prog W = (if T = 88 then (pure (Value.tuple #[v, .bool true]) : Sem Value) else (do pure (Value.tuple #[← zeroValue 88, .bool false]))).run Tryz.prog W := by kernel_rfl
  have hz : (do pure (Value.tuple #[← zeroValue 88, .bool false]) : Sem Value).run Tryz.prog W = .ok (.tuple #[.agg #[.int .i64 0, .int .i64 0], .bool false]) W := by kernel_rfl
  rw [e, if_neg h]
  exact hz
theorem as_no_mDuration {T : TypeId} (v : Value) (W : World) (h : T ≠ 90) : (Instr.typeAssert (.iface T v) 20 90 true).run Tryz.prog W = .ok (.tuple #[.int .i64 0, .bool false]) W := by
  have e : (Instr.typeAssert (.iface T v) 20 90 true).run Tryz.prog W = (if T = 90 then (pure (Value.tuple #[v, .bool true]) : Sem Value) else (do pure (Value.tuple #[← zeroValue 90, .bool false]))).run Tryz.prog W := by kernel_rfl
  have hz : (do pure (Value.tuple #[← zeroValue 90, .bool false]) : Sem Value).run Tryz.prog W = .ok (.tuple #[.int .i64 0, .bool false]) W := by kernel_rfl
  rw [e, if_neg h]
  exact hz
theorem as_yes_mStr (v : Value) (W : World) : (Instr.typeAssert (.iface 56 v) 20 56 true).run Tryz.prog W = .ok (.tuple #[v, .bool true]) W := by kernel_rfl
theorem as_no_mStr {T : TypeId} (v : Value) (W : World) (h : T ≠ 56) : (Instr.typeAssert (.iface T v) 20 56 true).run Tryz.prog W = .ok (.tuple #[.map none, .bool false]) W := by
  have e : (Instr.typeAssert (.iface T v) 20 56 true).run Tryz.prog W = (if T = 56 then (pure (Value.tuple #[v, .bool true]) : Sem Value) else (do pure (Value.tuple #[← zeroValue 56, .bool false]))).run Tryz.prog W := by kernel_rfl
  have hz : (do pure (Value.tuple #[← zeroValue 56, .bool false]) : Sem Value).run Tryz.prog W = .ok (.tuple #[.map none, .bool false]) W := by kernel_rfl
  rw [e, if_neg h]
  exact hz
theorem as_no_mSS {T : TypeId} (v : Value) (W : World) (h : T ≠ 93) : (Instr.typeAssert (.iface T v) 20 93 true).run Tryz.prog W = .ok (.tuple #[.map none, .bool false]) W := by
  have e : (Instr.typeAssert (.iface T v) 20 93 true).run Tryz.prog W = (if T = 93 then (pure (Value.tuple #[v, .bool true]) : Sem Value) else (do pure (Value.tuple #[← zeroValue 93, .bool false]))).run Tryz.prog W := by kernel_rfl
  have hz : (do pure (Value.tuple #[← zeroValue 93, .bool false]) : Sem Value).run Tryz.prog W = .ok (.tuple #[.map none, .bool false]) W := by kernel_rfl
  rw [e, if_neg h]
  exact hz
theorem as_no_JSONNumber {T : TypeId} (v : Value) (W : World) (h : T ≠ 95) : (Instr.typeAssert (.iface T v) 20 95 true).run Tryz.prog W = .ok (.tuple #[.string ⟨#[]⟩, .bool false]) W := by
  have e : (Instr.typeAssert (.iface T v) 20 95 true).run Tryz.prog W = (if T = 95 then (pure (Value.tuple #[v, .bool true]) : Sem Value) else (do pure (Value.tuple #[← zeroValue 95, .bool false]))).run Tryz.prog W := by kernel_rfl
  have hz : (do pure (Value.tuple #[← zeroValue 95, .bool false]) : Sem Value).run Tryz.prog W = .ok (.tuple #[.string ⟨#[]⟩, .bool false]) W := by kernel_rfl
  rw [e, if_neg h]
  exact hz
theorem as_yes_sAny (v : Value) (W : World) : (Instr.typeAssert (.iface 55 v) 20 55 true).run Tryz.prog W = .ok (.tuple #[v, .bool true]) W := by kernel_rfl
theorem as_no_sAny {T : TypeId} (v : Value) (W : World) (h : T ≠ 55) : (Instr.typeAssert (.iface T v) 20 55 true).run Tryz.prog W = .ok (.tuple #[.slice none 0 0, .bool false]) W := by
  have e : (Instr.typeAssert (.iface T v) 20 55 true).run Tryz.prog W = (if T = 55 then (pure (Value.tuple #[v, .bool true]) : Sem Value) else (do pure (Value.tuple #[← zeroValue 55, .bool false]))).run Tryz.prog W := by kernel_rfl
  have hz : (do pure (Value.tuple #[← zeroValue 55, .bool false]) : Sem Value).run Tryz.prog W = .ok (.tuple #[.slice none 0 0, .bool false]) W := by kernel_rfl
  rw [e, if_neg h]
  exact hz
def IntfQ (M : Nat → Prop) (bs : List UInt8) (R : List UInt8 → Prop) (w : World) : Ending → World → Prop := fun e w' => ∃ x' ds, e = .returned (.tuple #[x', .nilIface]) ∧ R ds ∧ BRow M w' x' (bs ++ ds) ∧ Kept M w w'
end Go.Proofs.YtapfahngeaojkaaGreatDoor
namespace Go.Proofs.YtapfahngeaojkaaGreatDoor
open Go Go.RowKit Go.Lib
set_option maxRecDepth 100000 in
set_option maxHeartbeats 3200000 in
theorem intf_nil (M : Nat → Prop) (w : World) (b : Value) (bs : List UInt8) (R : List UInt8 → Prop) (h : Calls Tryz.prog 24 #[b] w (AppQ M bs R w)) : Calls Tryz.prog 13 #[b, .nilIface] w (IntfQ M bs R w) := by
  have HC := Lib.hid h
  clear h
  go_enter Tryz.func13, Tryz.ntmps13
  go_wp2_with (go_at_call 24; go_must (refine HC.out.mono ?_; rintro e w1 ⟨x', ds, rfl, h1⟩; have H1 := Lib.hid h1; clear h1))
  go_ret2
  exact ⟨x', ds, rfl, H1.out⟩
set_option maxRecDepth 100000 in
set_option maxHeartbeats 3200000 in
theorem intf_bool (M : Nat → Prop) (w : World) (b x : Value) (bs : List UInt8) (R : List UInt8 → Prop) (h : Calls Tryz.prog 26 #[b, x] w (AppQ M bs R w)) : Calls Tryz.prog 13 #[b, .iface 4 x] w (IntfQ M bs R w) := by
  have HC := Lib.hid h
  clear h
  have f_Marshaler := fun W => as_no_iface Tryz.underlying62 z_Marshaler meth_bool miss1 x W
  have f_Extension := fun W => as_no_iface Tryz.underlying65 z_Extension meth_bool miss2 x W
  have fy := fun W => as_yes_bool x W
  go_enter Tryz.func13, Tryz.ntmps13
  go_wp2_with (go_at_call 26; go_must (refine HC.out.mono ?_; rintro e w1 ⟨x', ds, rfl, h1⟩; have H1 := Lib.hid h1; clear h1))
  go_ret2
  exact ⟨x', ds, rfl, H1.out⟩
set_option maxRecDepth 100000 in
set_option maxHeartbeats 3200000 in
theorem intf_f32 (M : Nat → Prop) (w : World) (b x : Value) (bs : List UInt8) (R : List UInt8 → Prop) (h : Calls Tryz.prog 27 #[b, x] w (AppQ M bs R w)) : Calls Tryz.prog 13 #[b, .iface 50 x] w (IntfQ M bs R w) := by
  have HC := Lib.hid h
  clear h
  have f_Marshaler := fun W => as_no_iface Tryz.underlying62 z_Marshaler meth_f32 miss1 x W
  have f_Extension := fun W => as_no_iface Tryz.underlying65 z_Extension meth_f32 miss2 x W
  have f_bool := fun W => as_no_bool (T := 50) x W (by decide)
  have fy := fun W => as_yes_f32 x W
  go_enter Tryz.func13, Tryz.ntmps13
  go_wp2_with (go_at_call 27; go_must (refine HC.out.mono ?_; rintro e w1 ⟨x', ds, rfl, h1⟩; have H1 := Lib.hid h1; clear h1))
  go_ret2
  exact ⟨x', ds, rfl, H1.out⟩
set_option maxRecDepth 100000 in
set_option maxHeartbeats 3200000 in
theorem intf_f64 (M : Nat → Prop) (w : World) (b x : Value) (bs : List UInt8) (R : List UInt8 → Prop) (h : Calls Tryz.prog 28 #[b, x] w (AppQ M bs R w)) : Calls Tryz.prog 13 #[b, .iface 53 x] w (IntfQ M bs R w) := by
  have HC := Lib.hid h
  clear h
  have f_Marshaler := fun W => as_no_iface Tryz.underlying62 z_Marshaler meth_f64 miss1 x W
  have f_Extension := fun W => as_no_iface Tryz.underlying65 z_Extension meth_f64 miss2 x W
  have f_bool := fun W => as_no_bool (T := 53) x W (by decide)
  have f_f32 := fun W => as_no_f32 (T := 53) x W (by decide)
  have fy := fun W => as_yes_f64 x W
  go_enter Tryz.func13, Tryz.ntmps13
  go_wp2_with (go_at_call 28; go_must (refine HC.out.mono ?_; rintro e w1 ⟨x', ds, rfl, h1⟩; have H1 := Lib.hid h1; clear h1))
  go_ret2
  exact ⟨x', ds, rfl, H1.out⟩
end Go.Proofs.YtapfahngeaojkaaGreatDoor
namespace Go.Proofs.YtapfahngeaojkaaGreatDoor
open Go Go.RowKit Go.Lib
set_option maxRecDepth 100000 in
set_option maxHeartbeats 3200000 in
theorem intf_string (M : Nat → Prop) (w : World) (b x : Value) (bs : List UInt8) (R : List UInt8 → Prop) (h : Calls Tryz.prog 31 #[b, x] w (AppQ M bs R w)) : Calls Tryz.prog 13 #[b, .iface 9 x] w (IntfQ M bs R w) := by
  have HC := Lib.hid h
  clear h
  have f_Marshaler := fun W => as_no_iface Tryz.underlying62 z_Marshaler meth_string miss1 x W
  have f_Extension := fun W => as_no_iface Tryz.underlying65 z_Extension meth_string miss2 x W
  have f_bool := fun W => as_no_bool (T := 9) x W (by decide)
  have f_f32 := fun W => as_no_f32 (T := 9) x W (by decide)
  have f_f64 := fun W => as_no_f64 (T := 9) x W (by decide)
  have f_c64 := fun W => as_no_c64 (T := 9) x W (by decide)
  have f_c128 := fun W => as_no_c128 (T := 9) x W (by decide)
  have fy := fun W => as_yes_string x W
  go_enter Tryz.func13, Tryz.ntmps13
  go_wp2_with (go_at_call 31; go_must (refine HC.out.mono ?_; rintro e w1 ⟨x', ds, rfl, h1⟩; have H1 := Lib.hid h1; clear h1))
  go_ret2
  exact ⟨x', ds, rfl, H1.out⟩
set_option maxRecDepth 100000 in
set_option maxHeartbeats 3200000 in
theorem intf_bytes (M : Nat → Prop) (w : World) (b x : Value) (bs : List UInt8) (R : List UInt8 → Prop) (h : Calls Tryz.prog 32 #[b, x] w (AppQ M bs R w)) : Calls Tryz.prog 13 #[b, .iface 22 x] w (IntfQ M bs R w) := by
  have HC := Lib.hid h
  clear h
  have f_Marshaler := fun W => as_no_iface Tryz.underlying62 z_Marshaler meth_bytes miss1 x W
  have f_Extension := fun W => as_no_iface Tryz.underlying65 z_Extension meth_bytes miss2 x W
  have f_bool := fun W => as_no_bool (T := 22) x W (by decide)
  have f_f32 := fun W => as_no_f32 (T := 22) x W (by decide)
  have f_f64 := fun W => as_no_f64 (T := 22) x W (by decide)
  have f_c64 := fun W => as_no_c64 (T := 22) x W (by decide)
  have f_c128 := fun W => as_no_c128 (T := 22) x W (by decide)
  have f_string := fun W => as_no_string (T := 22) x W (by decide)
  have fy := fun W => as_yes_bytes x W
  go_enter Tryz.func13, Tryz.ntmps13
  go_wp2_with (go_at_call 32; go_must (refine HC.out.mono ?_; rintro e w1 ⟨x', ds, rfl, h1⟩; have H1 := Lib.hid h1; clear h1))
  go_ret2
  exact ⟨x', ds, rfl, H1.out⟩
end Go.Proofs.YtapfahngeaojkaaGreatDoor
namespace Go.Proofs.YtapfahngeaojkaaGreatDoor
open Go Go.RowKit Go.Lib
set_option maxRecDepth 100000 in
set_option maxHeartbeats 3200000 in
theorem intf_i64 (M : Nat → Prop) (w : World) (b x : Value) (bs : List UInt8) (R : List UInt8 → Prop) (h : Calls Tryz.prog 36 #[b, x] w (AppQ M bs R w)) : Calls Tryz.prog 13 #[b, .iface 2 x] w (IntfQ M bs R w) := by
  have HC := Lib.hid h
  clear h
  have f_Marshaler := fun W => as_no_iface Tryz.underlying62 z_Marshaler meth_i64 miss1 x W
  have f_Extension := fun W => as_no_iface Tryz.underlying65 z_Extension meth_i64 miss2 x W
  have f_bool := fun W => as_no_bool (T := 2) x W (by decide)
  have f_f32 := fun W => as_no_f32 (T := 2) x W (by decide)
  have f_f64 := fun W => as_no_f64 (T := 2) x W (by decide)
  have f_c64 := fun W => as_no_c64 (T := 2) x W (by decide)
  have f_c128 := fun W => as_no_c128 (T := 2) x W (by decide)
  have f_string := fun W => as_no_string (T := 2) x W (by decide)
  have f_bytes := fun W => as_no_bytes (T := 2) x W (by decide)
  have f_i8 := fun W => as_no_i8 (T := 2) x W (by decide)
  have f_i16 := fun W => as_no_i16 (T := 2) x W (by decide)
  have f_i32 := fun W => as_no_i32 (T := 2) x W (by decide)
  have fy := fun W => as_yes_i64 x W
  go_enter Tryz.func13, Tryz.ntmps13
  go_wp2_with (go_at_call 36; go_must (refine HC.out.mono ?_; rintro e w1 ⟨x', ds, rfl, h1⟩; have H1 := Lib.hid h1; clear h1))
  go_ret2
  exact ⟨x', ds, rfl, H1.out⟩
set_option maxRecDepth 100000 in
set_option maxHeartbeats 3200000 in
theorem intf_u64 (M : Nat → Prop) (w : World) (b x : Value) (bs : List UInt8) (R : List UInt8 → Prop) (h : Calls Tryz.prog 37 #[b, x] w (AppQ M bs R w)) : Calls Tryz.prog 13 #[b, .iface 23 x] w (IntfQ M bs R w) := by
  have HC := Lib.hid h
  clear h
  have f_Marshaler := fun W => as_no_iface Tryz.underlying62 z_Marshaler meth_u64 miss1 x W
  have f_Extension := fun W => as_no_iface Tryz.underlying65 z_Extension meth_u64 miss2 x W
  have f_bool := fun W => as_no_bool (T := 23) x W (by decide)
  have f_f32 := fun W => as_no_f32 (T := 23) x W (by decide)
  have f_f64 := fun W => as_no_f64 (T := 23) x W (by decide)
  have f_c64 := fun W => as_no_c64 (T := 23) x W (by decide)
  have f_c128 := fun W => as_no_c128 (T := 23) x W (by decide)
  have f_string := fun W => as_no_string (T := 23) x W (by decide)
  have f_bytes := fun W => as_no_bytes (T := 23) x W (by decide)
  have f_i8 := fun W => as_no_i8 (T := 23) x W (by decide)
  have f_i16 := fun W => as_no_i16 (T := 23) x W (by decide)
  have f_i32 := fun W => as_no_i32 (T := 23) x W (by decide)
  have f_i64 := fun W => as_no_i64 (T := 23) x W (by decide)
  have f_int := fun W => as_no_int (T := 23) x W (by decide)
  have f_uint := fun W => as_no_uint (T := 23) x W (by decide)
  have f_u8 := fun W => as_no_u8 (T := 23) x W (by decide)
  have f_u16 := fun W => as_no_u16 (T := 23) x W (by decide)
  have f_u32 := fun W => as_no_u32 (T := 23) x W (by decide)
  have fy := fun W => as_yes_u64 x W
  go_enter Tryz.func13, Tryz.ntmps13
  go_wp2_with (go_at_call 37; go_must (refine HC.out.mono ?_; rintro e w1 ⟨x', ds, rfl, h1⟩; have H1 := Lib.hid h1; clear h1))
  go_ret2
  exact ⟨x', ds, rfl, H1.out⟩
end Go.Proofs.YtapfahngeaojkaaGreatDoor
namespace Go.Proofs.YtapfahngeaojkaaGreatDoor
open Go Go.RowKit Go.Lib
set_option maxRecDepth 100000 in
set_option maxHeartbeats 3200000 in
theorem intf_mStr (M : Nat → Prop) (w : World) (b x : Value) (bs : List UInt8) (R : List UInt8 → Prop) (h : Calls Tryz.prog 43 #[b, x] w (IntfQ M bs R w)) : Calls Tryz.prog 13 #[b, .iface 56 x] w (IntfQ M bs R w) := by
  have HC := Lib.hid h
  clear h
  have f_Marshaler := fun W => as_no_iface Tryz.underlying62 z_Marshaler meth_mStr miss1 x W
  have f_Extension := fun W => as_no_iface Tryz.underlying65 z_Extension meth_mStr miss2 x W
  have f_bool := fun W => as_no_bool (T := 56) x W (by decide)
  have f_f32 := fun W => as_no_f32 (T := 56) x W (by decide)
  have f_f64 := fun W => as_no_f64 (T := 56) x W (by decide)
  have f_c64 := fun W => as_no_c64 (T := 56) x W (by decide)
  have f_c128 := fun W => as_no_c128 (T := 56) x W (by decide)
  have f_string := fun W => as_no_string (T := 56) x W (by decide)
  have f_bytes := fun W => as_no_bytes (T := 56) x W (by decide)
  have f_i8 := fun W => as_no_i8 (T := 56) x W (by decide)
  have f_i16 := fun W => as_no_i16 (T := 56) x W (by decide)
  have f_i32 := fun W => as_no_i32 (T := 56) x W (by decide)
  have f_i64 := fun W => as_no_i64 (T := 56) x W (by decide)
  have f_int := fun W => as_no_int (T := 56) x W (by decide)
  have f_uint := fun W => as_no_uint (T := 56) x W (by decide)
  have f_u8 := fun W => as_no_u8 (T := 56) x W (by decide)
  have f_u16 := fun W => as_no_u16 (T := 56) x W (by decide)
  have f_u32 := fun W => as_no_u32 (T := 56) x W (by decide)
  have f_u64 := fun W => as_no_u64 (T := 56) x W (by decide)
  have f_mTime := fun W => as_no_mTime (T := 56) x W (by decide)
  have f_mDuration := fun W => as_no_mDuration (T := 56) x W (by decide)
  have fy := fun W => as_yes_mStr x W
  go_enter Tryz.func13, Tryz.ntmps13
  go_wp2_with (go_at_call 43; go_must (refine HC.out.mono ?_; rintro e w1 ⟨x', ds, rfl, h1⟩; have H1 := Lib.hid h1; clear h1))
  go_ret2
  exact ⟨x', ds, rfl, H1.out⟩
end Go.Proofs.YtapfahngeaojkaaGreatDoor
