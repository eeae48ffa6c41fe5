/- Package buffer: numbers of two, four and eight bytes; package encoding: a type, a null. Package encoding: the readers of numbers and flags, at each code: whole ('.._<code>') and cut off ('.._<code>_cut'). -/
import Derived.Test.YtbckofjoancdjaaGreatDoorK6
namespace Go.Proofs.YtbckofjoancdjaaGreatDoor
open Go Go.RowKit Go.Lib
section
variable (r : Nat) (s : Value) (D : List UInt8) (i : Nat) (w : World)
set_option maxRecDepth 100000 in
set_option maxHeartbeats 400000 in
theorem ReadUint16_yes (x0 x1 : UInt8) (h : Buf w r s D i) (h0 : D[i]? = some x0) (h1 : D[i + 1]? = some x1) :
    Calls Tryz.prog 145 #[.pointer (some ⟨r, 0, none⟩)] w fun e w' => e = .returned (.tuple #[.int .u16 (Lib.beNat [x0, x1]), .nilIface]) ∧ At_ w w' r s D (i + 2) := by
  have hlt : i + 1 < D.length := (List.getElem?_eq_some_iff.1 h1).1
  have hsm := h.small
  have hck := readCheck_no r s D i w 2 h (by omega) (by omega) (by omega)
  have c1 : w.cell? ⟨r, 1, none⟩ = some (.int .i64 i) := h.blk.cell 1
  obtain ⟨b, off, c, rfl, hS, hc, hm, cb0⟩ := h.bytes.at_ h0
  have cb1 : w.cell? ⟨b, off + i + 1, none⟩ = some (.int .u8 x1.toNat) := by
    obtain ⟨b', off', c', e', _, _, _, q⟩ := h.bytes.at_ h1
    injection e' with e1 e2 e3
    injection e1 with e1
    injection e1 with e1 e4
    subst e1 e4
    rw [Nat.add_assoc]; exact q
  have c0 : w.cell? ⟨r, 0, none⟩ = some (.slice (some ⟨b, off, none⟩) D.length c) := h.blk.cell 0
  have HB := Lib.hid h
  have HC := Lib.hid hck
  have hbe := fun W => Tryz.binary_BE_Uint16 b (off + i) (D.length - i) (c - i) x0 x1 W (by omega)
  have HBE := Lib.hid hbe
  clear h hck h0 h1 hbe
  have hs : IntKind.i64.wrap ((i : Int) + 2) = (i : Int) + 2 := IntWalk.i64_in _ (by omega)
  have hci : ¬ c = i := by omega
  have hle' : (i : Int) ≤ (D.length : Int) := by omega
  have hcc : (i : Int) + 2 ≤ (c : Int) := by omega
  have hii : (i : Int) ≤ (i : Int) + 2 := by omega
  have ht : ((i : Int) + 2).toNat = i + 2 := by omega
  have ht' : ((i : Int) + 2).toNat - i = 2 := by omega
  unfold u8 at cb0
  go_enter Tryz.func145, Tryz.ntmps145
  go_wp2_with (go_at_call 164; refine HC.out.mono ?_; rintro e w' ⟨rfl, k, rfl⟩)
  refine wp_region_tail 10 (by kernel_rfl) (by kernel_rfl) (fun K hK => ?_)
  simp only [List.take_succ_cons, List.take_zero, List.drop_succ_cons, List.drop_zero, World.drew_drewN] at hK ⊢
  repeat still_step
  refine wpStill_nil (hK _ ?_)
  clear hK K
  go_wp2_with (go_at_call 151; go_must (refine (HBE.out _ (by exact cb0) (by exact cb1)).mono ?_; rintro e w1 ⟨rfl, hb1⟩; have hk1 : Kept Nope w w1 := ((Kept.refl Nope w).drewN (k + 1)).trans' (Kept.below hb1 rfl); have hB1 := HB.out.nope hk1; have HB1 := Lib.hid hB1; have HK1 := Lib.hid hk1; have c1' : w1.cell? ⟨r, 1, none⟩ = some (.int .i64 i) := hB1.blk.cell 1; have f1' : w1.frozen? ⟨r, 1, none⟩ = false := hB1.blk.frozen 1; clear hb1 hk1 hB1))
  go_ret2
  exact ⟨rfl, HB1.out.move (show i + 2 ≤ D.length from hlt), (HK1.out.nope).set1 1 _⟩
theorem ReadUint16_no (h : Buf w r s D i) (hx : D.length < i + 2) :
    Calls Tryz.prog 145 #[.pointer (some ⟨r, 0, none⟩)] w (Gives2 fun x v w' => x = .int .u16 0 ∧ IsErr v ∧ At_ w w' r s D i) := by
  have hsm := h.small
  have hck := readCheck_yes r s D i w 2 h (by omega) (by omega) (by omega)
  obtain ⟨v, hv, ce⟩ := h.eof
  have HB := Lib.hid h
  have HC := Lib.hid hck
  have HV := Lib.hid hv
  clear h hck hv
  go_enter Tryz.func145, Tryz.ntmps145
  go_wp2_with (go_at_call 164; refine HC.out.mono ?_; rintro e w' ⟨rfl, k, rfl⟩)
  go_quiet (fail)
  go_wp2
  go_ret2
  rw [World.drewN_drewN]
  exact ⟨_, v, rfl, rfl, HV.out, HB.out.drewN _, (Kept.refl (Only r) w).drewN _⟩
set_option maxRecDepth 100000 in
set_option maxHeartbeats 400000 in
theorem ReadUint32_yes (x0 x1 x2 x3 : UInt8) (h : Buf w r s D i) (h0 : D[i]? = some x0) (h1 : D[i + 1]? = some x1) (h2 : D[i + 2]? = some x2) (h3 : D[i + 3]? = some x3) :
    Calls Tryz.prog 146 #[.pointer (some ⟨r, 0, none⟩)] w fun e w' => e = .returned (.tuple #[.int .u32 (Lib.beNat [x0, x1, x2, x3]), .nilIface]) ∧ At_ w w' r s D (i + 4) := by
  have hlt : i + 3 < D.length := (List.getElem?_eq_some_iff.1 h3).1
  have hsm := h.small
  have hck := readCheck_no r s D i w 4 h (by omega) (by omega) (by omega)
  have c1 : w.cell? ⟨r, 1, none⟩ = some (.int .i64 i) := h.blk.cell 1
  obtain ⟨b, off, c, rfl, hS, hc, hm, cb0⟩ := h.bytes.at_ h0
  have cb1 : w.cell? ⟨b, off + i + 1, none⟩ = some (.int .u8 x1.toNat) := by
    obtain ⟨b', off', c', e', _, _, _, q⟩ := h.bytes.at_ h1
    injection e' with e1 e2 e3
    injection e1 with e1
    injection e1 with e1 e4
    subst e1 e4
    rw [Nat.add_assoc]; exact q
  have cb2 : w.cell? ⟨b, off + i + 2, none⟩ = some (.int .u8 x2.toNat) := by
    obtain ⟨b', off', c', e', _, _, _, q⟩ := h.bytes.at_ h2
    injection e' with e1 e2 e3
    injection e1 with e1
    injection e1 with e1 e4
    subst e1 e4
    rw [Nat.add_assoc]; exact q
  have cb3 : w.cell? ⟨b, off + i + 3, none⟩ = some (.int .u8 x3.toNat) := by
    obtain ⟨b', off', c', e', _, _, _, q⟩ := h.bytes.at_ h3
    injection e' with e1 e2 e3
    injection e1 with e1
    injection e1 with e1 e4
    subst e1 e4
    rw [Nat.add_assoc]; exact q
  have c0 : w.cell? ⟨r, 0, none⟩ = some (.slice (some ⟨b, off, none⟩) D.length c) := h.blk.cell 0
  have HB := Lib.hid h
  have HC := Lib.hid hck
  have hbe := fun W => Tryz.binary_BE_Uint32 b (off + i) (D.length - i) (c - i) x0 x1 x2 x3 W (by omega)
  have HBE := Lib.hid hbe
  clear h hck h0 h1 h2 h3 hbe
  have hs : IntKind.i64.wrap ((i : Int) + 4) = (i : Int) + 4 := IntWalk.i64_in _ (by omega)
  have hci : ¬ c = i := by omega
  have hle' : (i : Int) ≤ (D.length : Int) := by omega
  have hcc : (i : Int) + 4 ≤ (c : Int) := by omega
  have hii : (i : Int) ≤ (i : Int) + 4 := by omega
  have ht : ((i : Int) + 4).toNat = i + 4 := by omega
  have ht' : ((i : Int) + 4).toNat - i = 4 := by omega
  unfold u8 at cb0
  go_enter Tryz.func146, Tryz.ntmps146
  go_wp2_with (go_at_call 164; refine HC.out.mono ?_; rintro e w' ⟨rfl, k, rfl⟩)
  refine wp_region_tail 10 (by kernel_rfl) (by kernel_rfl) (fun K hK => ?_)
  simp only [List.take_succ_cons, List.take_zero, List.drop_succ_cons, List.drop_zero, World.drew_drewN] at hK ⊢
  repeat still_step
  refine wpStill_nil (hK _ ?_)
  clear hK K
  go_wp2_with (go_at_call 143; go_must (refine (HBE.out _ (by exact cb0) (by exact cb1) (by exact cb2) (by exact cb3)).mono ?_; rintro e w1 ⟨rfl, hb1⟩; have hk1 : Kept Nope w w1 := ((Kept.refl Nope w).drewN (k + 1)).trans' (Kept.below hb1 rfl); have hB1 := HB.out.nope hk1; have HB1 := Lib.hid hB1; have HK1 := Lib.hid hk1; have c1' : w1.cell? ⟨r, 1, none⟩ = some (.int .i64 i) := hB1.blk.cell 1; have f1' : w1.frozen? ⟨r, 1, none⟩ = false := hB1.blk.frozen 1; clear hb1 hk1 hB1))
  go_ret2
  exact ⟨rfl, HB1.out.move (show i + 4 ≤ D.length from hlt), (HK1.out.nope).set1 1 _⟩
theorem ReadUint32_no (h : Buf w r s D i) (hx : D.length < i + 4) :
    Calls Tryz.prog 146 #[.pointer (some ⟨r, 0, none⟩)] w (Gives2 fun x v w' => x = .int .u32 0 ∧ IsErr v ∧ At_ w w' r s D i) := by
  have hsm := h.small
  have hck := readCheck_yes r s D i w 4 h (by omega) (by omega) (by omega)
  obtain ⟨v, hv, ce⟩ := h.eof
  have HB := Lib.hid h
  have HC := Lib.hid hck
  have HV := Lib.hid hv
  clear h hck hv
  go_enter Tryz.func146, Tryz.ntmps146
  go_wp2_with (go_at_call 164; refine HC.out.mono ?_; rintro e w' ⟨rfl, k, rfl⟩)
  go_quiet (fail)
  go_wp2
  go_ret2
  rw [World.drewN_drewN]
  exact ⟨_, v, rfl, rfl, HV.out, HB.out.drewN _, (Kept.refl (Only r) w).drewN _⟩
set_option maxRecDepth 100000 in
set_option maxHeartbeats 400000 in
theorem ReadUint64_yes (x0 x1 x2 x3 x4 x5 x6 x7 : UInt8) (h : Buf w r s D i) (h0 : D[i]? = some x0) (h1 : D[i + 1]? = some x1) (h2 : D[i + 2]? = some x2) (h3 : D[i + 3]? = some x3) (h4 : D[i + 4]? = some x4) (h5 : D[i + 5]? = some x5) (h6 : D[i + 6]? = some x6) (h7 : D[i + 7]? = some x7) :
    Calls Tryz.prog 141 #[.pointer (some ⟨r, 0, none⟩)] w fun e w' => e = .returned (.tuple #[.int .u64 (Lib.beNat [x0, x1, x2, x3, x4, x5, x6, x7]), .nilIface]) ∧ At_ w w' r s D (i + 8) := by
  have hlt : i + 7 < D.length := (List.getElem?_eq_some_iff.1 h7).1
  have hsm := h.small
  have hck := readCheck_no r s D i w 8 h (by omega) (by omega) (by omega)
  have c1 : w.cell? ⟨r, 1, none⟩ = some (.int .i64 i) := h.blk.cell 1
  obtain ⟨b, off, c, rfl, hS, hc, hm, cb0⟩ := h.bytes.at_ h0
  have cb1 : w.cell? ⟨b, off + i + 1, none⟩ = some (.int .u8 x1.toNat) := by
    obtain ⟨b', off', c', e', _, _, _, q⟩ := h.bytes.at_ h1
    injection e' with e1 e2 e3
    injection e1 with e1
    injection e1 with e1 e4
    subst e1 e4
    rw [Nat.add_assoc]; exact q
  have cb2 : w.cell? ⟨b, off + i + 2, none⟩ = some (.int .u8 x2.toNat) := by
    obtain ⟨b', off', c', e', _, _, _, q⟩ := h.bytes.at_ h2
    injection e' with e1 e2 e3
    injection e1 with e1
    injection e1 with e1 e4
    subst e1 e4
    rw [Nat.add_assoc]; exact q
  have cb3 : w.cell? ⟨b, off + i + 3, none⟩ = some (.int .u8 x3.toNat) := by
    obtain ⟨b', off', c', e', _, _, _, q⟩ := h.bytes.at_ h3
    injection e' with e1 e2 e3
    injection e1 with e1
    injection e1 with e1 e4
    subst e1 e4
    rw [Nat.add_assoc]; exact q
  have cb4 : w.cell? ⟨b, off + i + 4, none⟩ = some (.int .u8 x4.toNat) := by
    obtain ⟨b', off', c', e', _, _, _, q⟩ := h.bytes.at_ h4
    injection e' with e1 e2 e3
    injection e1 with e1
    injection e1 with e1 e4
    subst e1 e4
    rw [Nat.add_assoc]; exact q
  have cb5 : w.cell? ⟨b, off + i + 5, none⟩ = some (.int .u8 x5.toNat) := by
    obtain ⟨b', off', c', e', _, _, _, q⟩ := h.bytes.at_ h5
    injection e' with e1 e2 e3
    injection e1 with e1
    injection e1 with e1 e4
    subst e1 e4
    rw [Nat.add_assoc]; exact q
  have cb6 : w.cell? ⟨b, off + i + 6, none⟩ = some (.int .u8 x6.toNat) := by
    obtain ⟨b', off', c', e', _, _, _, q⟩ := h.bytes.at_ h6
    injection e' with e1 e2 e3
    injection e1 with e1
    injection e1 with e1 e4
    subst e1 e4
    rw [Nat.add_assoc]; exact q
  have cb7 : w.cell? ⟨b, off + i + 7, none⟩ = some (.int .u8 x7.toNat) := by
    obtain ⟨b', off', c', e', _, _, _, q⟩ := h.bytes.at_ h7
    injection e' with e1 e2 e3
    injection e1 with e1
    injection e1 with e1 e4
    subst e1 e4
    rw [Nat.add_assoc]; exact q
  have c0 : w.cell? ⟨r, 0, none⟩ = some (.slice (some ⟨b, off, none⟩) D.length c) := h.blk.cell 0
  have HB := Lib.hid h
  have HC := Lib.hid hck
  have hbe := fun W => Tryz.binary_BE_Uint64 b (off + i) 8 (c - i) x0 x1 x2 x3 x4 x5 x6 x7 W (by omega)
  have HBE := Lib.hid hbe
  clear h hck h0 h1 h2 h3 h4 h5 h6 h7 hbe
  have hs : IntKind.i64.wrap ((i : Int) + 8) = (i : Int) + 8 := IntWalk.i64_in _ (by omega)
  have hci : ¬ c = i := by omega
  have hle' : (i : Int) ≤ (D.length : Int) := by omega
  have hcc : (i : Int) + 8 ≤ (c : Int) := by omega
  have hii : (i : Int) ≤ (i : Int) + 8 := by omega
  have ht : ((i : Int) + 8).toNat = i + 8 := by omega
  have ht' : ((i : Int) + 8).toNat - i = 8 := by omega
  unfold u8 at cb0
  go_enter Tryz.func141, Tryz.ntmps141
  go_wp2_with (go_at_call 164; refine HC.out.mono ?_; rintro e w' ⟨rfl, k, rfl⟩)
  refine wp_region_tail 15 (by kernel_rfl) (by kernel_rfl) (fun K hK => ?_)
  simp only [List.take_succ_cons, List.take_zero, List.drop_succ_cons, List.drop_zero, World.drew_drewN] at hK ⊢
  repeat still_step
  refine wpStill_nil (hK _ ?_)
  clear hK K
  go_wp2_with (go_at_call 152; go_must (refine (HBE.out _ (by exact cb0) (by exact cb1) (by exact cb2) (by exact cb3) (by exact cb4) (by exact cb5) (by exact cb6) (by exact cb7)).mono ?_; rintro e w1 ⟨rfl, hb1⟩; have hk1 : Kept Nope w w1 := ((Kept.refl Nope w).drewN (k + 1)).trans' (Kept.below hb1 rfl); have hB1 := HB.out.nope hk1; have HB1 := Lib.hid hB1; have HK1 := Lib.hid hk1; have c1' : w1.cell? ⟨r, 1, none⟩ = some (.int .i64 i) := hB1.blk.cell 1; have f1' : w1.frozen? ⟨r, 1, none⟩ = false := hB1.blk.frozen 1; clear hb1 hk1 hB1))
  go_ret2
  exact ⟨rfl, HB1.out.move (show i + 8 ≤ D.length from hlt), (HK1.out.nope).set1 1 _⟩
theorem ReadUint64_no (h : Buf w r s D i) (hx : D.length < i + 8) :
    Calls Tryz.prog 141 #[.pointer (some ⟨r, 0, none⟩)] w (Gives2 fun x v w' => x = .int .u64 0 ∧ IsErr v ∧ At_ w w' r s D i) := by
  have hsm := h.small
  have hck := readCheck_yes r s D i w 8 h (by omega) (by omega) (by omega)
  obtain ⟨v, hv, ce⟩ := h.eof
  have HB := Lib.hid h
  have HC := Lib.hid hck
  have HV := Lib.hid hv
  clear h hck hv
  go_enter Tryz.func141, Tryz.ntmps141
  go_wp2_with (go_at_call 164; refine HC.out.mono ?_; rintro e w' ⟨rfl, k, rfl⟩)
  go_quiet (fail)
  go_wp2
  go_ret2
  rw [World.drewN_drewN]
  exact ⟨_, v, rfl, rfl, HV.out, HB.out.drewN _, (Kept.refl (Only r) w).drewN _⟩
theorem readType_yes (x : UInt8) (h : Buf w r s D i) (hx : D[i]? = some x) :
    Calls Tryz.prog 99 #[.pointer (some ⟨r, 0, none⟩)] w fun e w' => e = .returned (.tuple #[.int .u8 x.toNat, .nilIface]) ∧ At_ w w' r s D (i + 1) := by
  have hc := ReadByte_yes r s D i w x h hx
  have HC := Lib.hid hc
  clear hc h hx
  go_enter Tryz.func99, Tryz.ntmps99
  go_wp2_with (go_at_call 140; refine HC.out.mono ?_; rintro e w' ⟨rfl, hq⟩; have HQ := Lib.hid hq; clear hq)
  go_ret2
  exact ⟨rfl, HQ.out⟩
theorem readType_no (h : Buf w r s D i) (hx : D.length ≤ i) :
    Calls Tryz.prog 99 #[.pointer (some ⟨r, 0, none⟩)] w (Gives2 fun x v w' => x = .int .u8 0 ∧ IsErr v ∧ At_ w w' r s D i) := by
  have hc := ReadByte_no r s D i w h hx
  have HC := Lib.hid hc
  clear hc h hx
  go_enter Tryz.func99, Tryz.ntmps99
  go_wp2_with (go_at_call 140; refine HC.out.mono ?_; rintro e w' ⟨x, v, rfl, rfl, hv, hq⟩; have HQ := Lib.hid (And.intro hv hq); clear hq hv)
  go_ret2
  exact ⟨_, _, rfl, rfl, HQ.out⟩
theorem peekType_yes (x : UInt8) (h : Buf w r s D i) (hx : D[i]? = some x) :
    Calls Tryz.prog 144 #[.pointer (some ⟨r, 0, none⟩)] w fun e w' => e = .returned (.tuple #[.int .u8 x.toNat, .nilIface]) ∧ Drew w w' := by
  have hc := PeekByte_yes r s D i w x h hx
  have HC := Lib.hid hc
  clear hc h hx
  go_enter Tryz.func144, Tryz.ntmps144
  go_wp2_with (go_at_call 165; refine HC.out.mono ?_; rintro e w' ⟨rfl, hq⟩; have HQ := Lib.hid hq; clear hq)
  go_ret2
  exact ⟨rfl, HQ.out⟩
theorem peekType_no (h : Buf w r s D i) (hx : D.length ≤ i) :
    Calls Tryz.prog 144 #[.pointer (some ⟨r, 0, none⟩)] w (Gives2 fun x v w' => x = .int .u8 0 ∧ IsErr v ∧ Drew w w') := by
  have hc := PeekByte_no r s D i w h hx
  have HC := Lib.hid hc
  clear hc h hx
  go_enter Tryz.func144, Tryz.ntmps144
  go_wp2_with (go_at_call 165; refine HC.out.mono ?_; rintro e w' ⟨x, v, rfl, rfl, hv, hq⟩; have HQ := Lib.hid (And.intro hv hq); clear hq hv)
  go_ret2
  exact ⟨_, _, rfl, rfl, HQ.out⟩
theorem errorsNew_any (t : ByteArray) : Calls Tryz.prog 46 #[.string t] w (Gives fun v w' => IsErr v ∧ Kept Nope w w') := by
  go_enter Tryz.func46, Tryz.ntmps46
  go_wp2
  go_ret
  exact ⟨_, rfl, ⟨_, _, rfl⟩, (Kept.refl Nope w).alloc _⟩
end
end Go.Proofs.YtbckofjoancdjaaGreatDoor
namespace Go.Proofs.YtbckofjoancdjaaGreatDoor
open Go Go.RowKit Go.Lib
def Fails (w : World) (r : Nat) : Ending → World → Prop := Gives2 fun _ v w' => IsErr v ∧ Kept (Only r) w w'
def sg (n : Nat) (x : Nat) : Int := if 2 * x < 2 ^ n then x else (x : Int) - 2 ^ n
theorem i8_sg (x : Nat) (h : x < 256) : IntKind.i8.wrap (x : Int) = sg 8 x := by unfold sg; split <;> (simp [IntKind.wrap, IntKind.bits, IntKind.signed]; omega)
theorem i16_sg (x : Nat) (h : x < 65536) : IntKind.i16.wrap (x : Int) = sg 16 x := by unfold sg; split <;> (simp [IntKind.wrap, IntKind.bits, IntKind.signed]; omega)
theorem w32_sg (x : Nat) (h : x < 4294967296) : wrap32 (x : Int) = sg 32 x := by unfold wrap32 sg; split <;> omega
theorem w64_sg (x : Nat) (h : x < 18446744073709551616) : wrap64 (x : Int) = sg 64 x := by unfold wrap64 sg; split <;> omega
theorem w32_i8 (x : Nat) (h : x < 256) : wrap32 (IntKind.i8.wrap (x : Int)) = sg 8 x := by rw [i8_sg x h]; unfold wrap32 sg; split <;> omega
theorem w64_i8 (x : Nat) (h : x < 256) : wrap64 (IntKind.i8.wrap (x : Int)) = sg 8 x := by rw [i8_sg x h]; unfold wrap64 sg; split <;> omega
theorem beNat2_lt (a b : UInt8) : Lib.beNat [a, b] < 65536 := by have := a.toNat_lt; have := b.toNat_lt; simp only [Lib.beNat, Lib.beFrom]; omega
theorem beNat4_lt (a b c d : UInt8) : Lib.beNat [a, b, c, d] < 4294967296 := by have := a.toNat_lt; have := b.toNat_lt; have := c.toNat_lt; have := d.toNat_lt; simp only [Lib.beNat, Lib.beFrom]; omega
theorem beNat8_lt (a b c d e f g h : UInt8) : Lib.beNat [a, b, c, d, e, f, g, h] < 18446744073709551616 := by
  have := a.toNat_lt; have := b.toNat_lt; have := c.toNat_lt; have := d.toNat_lt; have := e.toNat_lt; have := f.toNat_lt; have := g.toNat_lt; have := h.toNat_lt
  simp only [Lib.beNat, Lib.beFrom]; omega
theorem f32from_run (n : Nat) (w : World) : (callFunc 147 #[.int .u32 n]).run Tryz.prog w = .ok (.value (.float .f32 n)) w :=
  (run_callFunc_extern (e := Extern.MathFloatBits.float32frombits) Tryz.func147 (by kernel_rfl) (by kernel_rfl) (by kernel_rfl) (by kernel_rfl) #[.int .u32 n] w).trans rfl
theorem f64from_run (n : Nat) (w : World) : (callFunc 148 #[.int .u64 n]).run Tryz.prog w = .ok (.value (.float .f64 n)) w :=
  (run_callFunc_extern (e := Extern.MathFloatBits.float64frombits) Tryz.func148 (by kernel_rfl) (by kernel_rfl) (by kernel_rfl) (by kernel_rfl) #[.int .u64 n] w).trans rfl
theorem ret2_of {a b y : Value} (h : a = b) : Ending.returned (.tuple #[a, y]) = .returned (.tuple #[b, y]) := by rw [h]
section
variable (r : Nat) (s : Value) (D : List UInt8) (i : Nat) (w : World)
set_option maxRecDepth 100000 in
theorem readUint32_43 (h : Buf w r s D i) (hc : D[i]? = some 67)  :
    Calls Tryz.prog 108 #[.pointer (some ⟨r, 0, none⟩)] w fun e w' => e = .returned (.tuple #[.int .u32 0, .nilIface]) ∧ At_ w w' r s D (i + 1) := by
  have ht : Calls Tryz.prog 99 #[.pointer (some ⟨r, 0, none⟩)] w fun e w' => e = .returned (.tuple #[.int .u8 67, .nilIface]) ∧ At_ w w' r s D (i + 1) := readType_yes r s D i w 67 h hc
  have HT := Lib.hid ht
  clear ht h hc
  go_enter Tryz.func108, Tryz.ntmps108
  go_wp2_with ((go_at_call 99; go_must (refine HT.out.mono ?_; rintro e w1 ⟨rfl, hA1⟩; have H1 := Lib.hid hA1; clear hA1)))
  go_ret2
  exact ⟨ret2_of (by rfl), H1.out⟩
set_option maxRecDepth 100000 in
theorem readUint32_52 (x0 : UInt8) (h : Buf w r s D i) (hc : D[i]? = some 82) (h0 : D[i + 1]? = some x0) :
    Calls Tryz.prog 108 #[.pointer (some ⟨r, 0, none⟩)] w fun e w' => e = .returned (.tuple #[.int .u32 x0.toNat, .nilIface]) ∧ At_ w w' r s D (i + 2) := by
  have ht : Calls Tryz.prog 99 #[.pointer (some ⟨r, 0, none⟩)] w fun e w' => e = .returned (.tuple #[.int .u8 82, .nilIface]) ∧ At_ w w' r s D (i + 1) := readType_yes r s D i w 82 h hc
  have HT := Lib.hid ht
  have HX := Lib.hid (And.intro h0 (trivial))
  clear ht h hc h0
  go_enter Tryz.func108, Tryz.ntmps108
  go_wp2_with (first | (go_at_call 99; go_must (refine HT.out.mono ?_; rintro e w1 ⟨rfl, hA1⟩; have H1 := Lib.hid hA1; clear hA1)) | (go_at_call 140; go_must (refine (ReadByte_yes r s D (i + 1) _ x0 H1.out.buf (by exact HX.out.1)).mono ?_; rintro e w2 ⟨rfl, hA2⟩; have H2 := Lib.hid (H1.out.trans hA2); clear hA2)))
  go_ret2
  exact ⟨ret2_of (by exact congrArg (Value.int .u32) (show (x0.toNat : Int) % 4294967296 = x0.toNat from by have := x0.toNat_lt; omega)), H2.out⟩
set_option maxRecDepth 100000 in
theorem readUint32_52_cut (h : Buf w r s D i) (hc : D[i]? = some 82) (hn : D.length < i + 2) :
    Calls Tryz.prog 108 #[.pointer (some ⟨r, 0, none⟩)] w (Fails w r) := by
  have ht : Calls Tryz.prog 99 #[.pointer (some ⟨r, 0, none⟩)] w fun e w' => e = .returned (.tuple #[.int .u8 82, .nilIface]) ∧ At_ w w' r s D (i + 1) := readType_yes r s D i w 82 h hc
  have HT := Lib.hid ht
  clear ht h hc
  go_enter Tryz.func108, Tryz.ntmps108
  go_wp2_with (first | (go_at_call 99; go_must (refine HT.out.mono ?_; rintro e w1 ⟨rfl, hA1⟩; have H1 := Lib.hid hA1; clear hA1)) | (go_at_call 140; go_must (refine (ReadByte_no r s D (i + 1) _ H1.out.buf (by omega)).mono ?_; rintro e w2 ⟨x, v, rfl, rfl, ⟨T, z, rfl⟩, hA2⟩; have H2 := Lib.hid (H1.out.trans hA2); clear hA2)))
  go_ret2
  exact ⟨_, _, rfl, ⟨_, _, rfl⟩, H2.out.kept⟩
set_option maxRecDepth 100000 in
theorem readUint32_70 (x0 x1 x2 x3 : UInt8) (h : Buf w r s D i) (hc : D[i]? = some 112) (h0 : D[i + 1]? = some x0) (h1 : D[i + 2]? = some x1) (h2 : D[i + 3]? = some x2) (h3 : D[i + 4]? = some x3) :
    Calls Tryz.prog 108 #[.pointer (some ⟨r, 0, none⟩)] w fun e w' => e = .returned (.tuple #[.int .u32 (Lib.beNat [x0, x1, x2, x3]), .nilIface]) ∧ At_ w w' r s D (i + 5) := by
  have ht : Calls Tryz.prog 99 #[.pointer (some ⟨r, 0, none⟩)] w fun e w' => e = .returned (.tuple #[.int .u8 112, .nilIface]) ∧ At_ w w' r s D (i + 1) := readType_yes r s D i w 112 h hc
  have HT := Lib.hid ht
  have HX := Lib.hid (And.intro h0 (And.intro h1 (And.intro h2 (And.intro h3 (trivial)))))
  clear ht h hc h0 h1 h2 h3
  go_enter Tryz.func108, Tryz.ntmps108
  go_wp2_with (first | (go_at_call 99; go_must (refine HT.out.mono ?_; rintro e w1 ⟨rfl, hA1⟩; have H1 := Lib.hid hA1; clear hA1)) | (go_at_call 146; go_must (refine (ReadUint32_yes r s D (i + 1) _ x0 x1 x2 x3 H1.out.buf (by exact HX.out.1) (by exact HX.out.2.1) (by exact HX.out.2.2.1) (by exact HX.out.2.2.2.1)).mono ?_; rintro e w2 ⟨rfl, hA2⟩; have H2 := Lib.hid (H1.out.trans hA2); clear hA2)))
  go_ret2
  exact ⟨ret2_of (by rfl), H2.out⟩
set_option maxRecDepth 100000 in
theorem readUint32_70_cut (h : Buf w r s D i) (hc : D[i]? = some 112) (hn : D.length < i + 5) :
    Calls Tryz.prog 108 #[.pointer (some ⟨r, 0, none⟩)] w (Fails w r) := by
  have ht : Calls Tryz.prog 99 #[.pointer (some ⟨r, 0, none⟩)] w fun e w' => e = .returned (.tuple #[.int .u8 112, .nilIface]) ∧ At_ w w' r s D (i + 1) := readType_yes r s D i w 112 h hc
  have HT := Lib.hid ht
  clear ht h hc
  go_enter Tryz.func108, Tryz.ntmps108
  go_wp2_with (first | (go_at_call 99; go_must (refine HT.out.mono ?_; rintro e w1 ⟨rfl, hA1⟩; have H1 := Lib.hid hA1; clear hA1)) | (go_at_call 146; go_must (refine (ReadUint32_no r s D (i + 1) _ H1.out.buf (by omega)).mono ?_; rintro e w2 ⟨x, v, rfl, rfl, ⟨T, z, rfl⟩, hA2⟩; have H2 := Lib.hid (H1.out.trans hA2); clear hA2)))
  go_ret2
  exact ⟨_, _, rfl, ⟨_, _, rfl⟩, H2.out.kept⟩
set_option maxRecDepth 100000 in
theorem readUlong_44 (h : Buf w r s D i) (hc : D[i]? = some 68)  :
    Calls Tryz.prog 100 #[.pointer (some ⟨r, 0, none⟩)] w fun e w' => e = .returned (.tuple #[.int .u64 0, .nilIface]) ∧ At_ w w' r s D (i + 1) := by
  have ht : Calls Tryz.prog 99 #[.pointer (some ⟨r, 0, none⟩)] w fun e w' => e = .returned (.tuple #[.int .u8 68, .nilIface]) ∧ At_ w w' r s D (i + 1) := readType_yes r s D i w 68 h hc
  have HT := Lib.hid ht
  clear ht h hc
  go_enter Tryz.func100, Tryz.ntmps100
  go_wp2_with ((go_at_call 99; go_must (refine HT.out.mono ?_; rintro e w1 ⟨rfl, hA1⟩; have H1 := Lib.hid hA1; clear hA1)))
  go_ret2
  exact ⟨ret2_of (by rfl), H1.out⟩
set_option maxRecDepth 100000 in
theorem readUlong_53 (x0 : UInt8) (h : Buf w r s D i) (hc : D[i]? = some 83) (h0 : D[i + 1]? = some x0) :
    Calls Tryz.prog 100 #[.pointer (some ⟨r, 0, none⟩)] w fun e w' => e = .returned (.tuple #[.int .u64 x0.toNat, .nilIface]) ∧ At_ w w' r s D (i + 2) := by
  have ht : Calls Tryz.prog 99 #[.pointer (some ⟨r, 0, none⟩)] w fun e w' => e = .returned (.tuple #[.int .u8 83, .nilIface]) ∧ At_ w w' r s D (i + 1) := readType_yes r s D i w 83 h hc
  have HT := Lib.hid ht
  have HX := Lib.hid (And.intro h0 (trivial))
  clear ht h hc h0
  go_enter Tryz.func100, Tryz.ntmps100
  go_wp2_with (first | (go_at_call 99; go_must (refine HT.out.mono ?_; rintro e w1 ⟨rfl, hA1⟩; have H1 := Lib.hid hA1; clear hA1)) | (go_at_call 140; go_must (refine (ReadByte_yes r s D (i + 1) _ x0 H1.out.buf (by exact HX.out.1)).mono ?_; rintro e w2 ⟨rfl, hA2⟩; have H2 := Lib.hid (H1.out.trans hA2); clear hA2)))
  go_ret2
  exact ⟨ret2_of (by exact congrArg (Value.int .u64) (show (x0.toNat : Int) % 18446744073709551616 = x0.toNat from by have := x0.toNat_lt; omega)), H2.out⟩
set_option maxRecDepth 100000 in
theorem readUlong_53_cut (h : Buf w r s D i) (hc : D[i]? = some 83) (hn : D.length < i + 2) :
    Calls Tryz.prog 100 #[.pointer (some ⟨r, 0, none⟩)] w (Fails w r) := by
  have ht : Calls Tryz.prog 99 #[.pointer (some ⟨r, 0, none⟩)] w fun e w' => e = .returned (.tuple #[.int .u8 83, .nilIface]) ∧ At_ w w' r s D (i + 1) := readType_yes r s D i w 83 h hc
  have HT := Lib.hid ht
  clear ht h hc
  go_enter Tryz.func100, Tryz.ntmps100
  go_wp2_with (first | (go_at_call 99; go_must (refine HT.out.mono ?_; rintro e w1 ⟨rfl, hA1⟩; have H1 := Lib.hid hA1; clear hA1)) | (go_at_call 140; go_must (refine (ReadByte_no r s D (i + 1) _ H1.out.buf (by omega)).mono ?_; rintro e w2 ⟨x, v, rfl, rfl, ⟨T, z, rfl⟩, hA2⟩; have H2 := Lib.hid (H1.out.trans hA2); clear hA2)))
  go_ret2
  exact ⟨_, _, rfl, ⟨_, _, rfl⟩, H2.out.kept⟩
set_option maxRecDepth 100000 in
theorem readUlong_80 (x0 x1 x2 x3 x4 x5 x6 x7 : UInt8) (h : Buf w r s D i) (hc : D[i]? = some 128) (h0 : D[i + 1]? = some x0) (h1 : D[i + 2]? = some x1) (h2 : D[i + 3]? = some x2) (h3 : D[i + 4]? = some x3) (h4 : D[i + 5]? = some x4) (h5 : D[i + 6]? = some x5) (h6 : D[i + 7]? = some x6) (h7 : D[i + 8]? = some x7) :
    Calls Tryz.prog 100 #[.pointer (some ⟨r, 0, none⟩)] w fun e w' => e = .returned (.tuple #[.int .u64 (Lib.beNat [x0, x1, x2, x3, x4, x5, x6, x7]), .nilIface]) ∧ At_ w w' r s D (i + 9) := by
  have ht : Calls Tryz.prog 99 #[.pointer (some ⟨r, 0, none⟩)] w fun e w' => e = .returned (.tuple #[.int .u8 128, .nilIface]) ∧ At_ w w' r s D (i + 1) := readType_yes r s D i w 128 h hc
  have HT := Lib.hid ht
  have HX := Lib.hid (And.intro h0 (And.intro h1 (And.intro h2 (And.intro h3 (And.intro h4 (And.intro h5 (And.intro h6 (And.intro h7 (trivial)))))))))
  clear ht h hc h0 h1 h2 h3 h4 h5 h6 h7
  go_enter Tryz.func100, Tryz.ntmps100
  go_wp2_with (first | (go_at_call 99; go_must (refine HT.out.mono ?_; rintro e w1 ⟨rfl, hA1⟩; have H1 := Lib.hid hA1; clear hA1)) | (go_at_call 141; go_must (refine (ReadUint64_yes r s D (i + 1) _ x0 x1 x2 x3 x4 x5 x6 x7 H1.out.buf (by exact HX.out.1) (by exact HX.out.2.1) (by exact HX.out.2.2.1) (by exact HX.out.2.2.2.1) (by exact HX.out.2.2.2.2.1) (by exact HX.out.2.2.2.2.2.1) (by exact HX.out.2.2.2.2.2.2.1) (by exact HX.out.2.2.2.2.2.2.2.1)).mono ?_; rintro e w2 ⟨rfl, hA2⟩; have H2 := Lib.hid (H1.out.trans hA2); clear hA2)))
  go_ret2
  exact ⟨ret2_of (by rfl), H2.out⟩
set_option maxRecDepth 100000 in
theorem readUlong_80_cut (h : Buf w r s D i) (hc : D[i]? = some 128) (hn : D.length < i + 9) :
    Calls Tryz.prog 100 #[.pointer (some ⟨r, 0, none⟩)] w (Fails w r) := by
  have ht : Calls Tryz.prog 99 #[.pointer (some ⟨r, 0, none⟩)] w fun e w' => e = .returned (.tuple #[.int .u8 128, .nilIface]) ∧ At_ w w' r s D (i + 1) := readType_yes r s D i w 128 h hc
  have HT := Lib.hid ht
  clear ht h hc
  go_enter Tryz.func100, Tryz.ntmps100
  go_wp2_with (first | (go_at_call 99; go_must (refine HT.out.mono ?_; rintro e w1 ⟨rfl, hA1⟩; have H1 := Lib.hid hA1; clear hA1)) | (go_at_call 141; go_must (refine (ReadUint64_no r s D (i + 1) _ H1.out.buf (by omega)).mono ?_; rintro e w2 ⟨x, v, rfl, rfl, ⟨T, z, rfl⟩, hA2⟩; have H2 := Lib.hid (H1.out.trans hA2); clear hA2)))
  go_ret2
  exact ⟨_, _, rfl, ⟨_, _, rfl⟩, H2.out.kept⟩
set_option maxRecDepth 100000 in
theorem ReadUbyte_50 (x0 : UInt8) (h : Buf w r s D i) (hc : D[i]? = some 80) (h0 : D[i + 1]? = some x0) :
    Calls Tryz.prog 110 #[.pointer (some ⟨r, 0, none⟩)] w fun e w' => e = .returned (.tuple #[.int .u8 x0.toNat, .nilIface]) ∧ At_ w w' r s D (i + 2) := by
  have ht : Calls Tryz.prog 99 #[.pointer (some ⟨r, 0, none⟩)] w fun e w' => e = .returned (.tuple #[.int .u8 80, .nilIface]) ∧ At_ w w' r s D (i + 1) := readType_yes r s D i w 80 h hc
  have HT := Lib.hid ht
  have HX := Lib.hid (And.intro h0 (trivial))
  clear ht h hc h0
  go_enter Tryz.func110, Tryz.ntmps110
  go_wp2_with (first | (go_at_call 99; go_must (refine HT.out.mono ?_; rintro e w1 ⟨rfl, hA1⟩; have H1 := Lib.hid hA1; clear hA1)) | (go_at_call 140; go_must (refine (ReadByte_yes r s D (i + 1) _ x0 H1.out.buf (by exact HX.out.1)).mono ?_; rintro e w2 ⟨rfl, hA2⟩; have H2 := Lib.hid (H1.out.trans hA2); clear hA2)))
  go_ret2
  exact ⟨ret2_of (by rfl), H2.out⟩
set_option maxRecDepth 100000 in
theorem ReadUbyte_50_cut (h : Buf w r s D i) (hc : D[i]? = some 80) (hn : D.length < i + 2) :
    Calls Tryz.prog 110 #[.pointer (some ⟨r, 0, none⟩)] w (Fails w r) := by
  have ht : Calls Tryz.prog 99 #[.pointer (some ⟨r, 0, none⟩)] w fun e w' => e = .returned (.tuple #[.int .u8 80, .nilIface]) ∧ At_ w w' r s D (i + 1) := readType_yes r s D i w 80 h hc
  have HT := Lib.hid ht
  clear ht h hc
  go_enter Tryz.func110, Tryz.ntmps110
  go_wp2_with (first | (go_at_call 99; go_must (refine HT.out.mono ?_; rintro e w1 ⟨rfl, hA1⟩; have H1 := Lib.hid hA1; clear hA1)) | (go_at_call 140; go_must (refine (ReadByte_no r s D (i + 1) _ H1.out.buf (by omega)).mono ?_; rintro e w2 ⟨x, v, rfl, rfl, ⟨T, z, rfl⟩, hA2⟩; have H2 := Lib.hid (H1.out.trans hA2); clear hA2)))
  go_ret2
  exact ⟨_, _, rfl, ⟨_, _, rfl⟩, H2.out.kept⟩
set_option maxRecDepth 100000 in
theorem readUshort_60 (x0 x1 : UInt8) (h : Buf w r s D i) (hc : D[i]? = some 96) (h0 : D[i + 1]? = some x0) (h1 : D[i + 2]? = some x1) :
    Calls Tryz.prog 109 #[.pointer (some ⟨r, 0, none⟩)] w fun e w' => e = .returned (.tuple #[.int .u16 (Lib.beNat [x0, x1]), .nilIface]) ∧ At_ w w' r s D (i + 3) := by
  have ht : Calls Tryz.prog 99 #[.pointer (some ⟨r, 0, none⟩)] w fun e w' => e = .returned (.tuple #[.int .u8 96, .nilIface]) ∧ At_ w w' r s D (i + 1) := readType_yes r s D i w 96 h hc
  have HT := Lib.hid ht
  have HX := Lib.hid (And.intro h0 (And.intro h1 (trivial)))
  clear ht h hc h0 h1
  go_enter Tryz.func109, Tryz.ntmps109
  go_wp2_with (first | (go_at_call 99; go_must (refine HT.out.mono ?_; rintro e w1 ⟨rfl, hA1⟩; have H1 := Lib.hid hA1; clear hA1)) | (go_at_call 145; go_must (refine (ReadUint16_yes r s D (i + 1) _ x0 x1 H1.out.buf (by exact HX.out.1) (by exact HX.out.2.1)).mono ?_; rintro e w2 ⟨rfl, hA2⟩; have H2 := Lib.hid (H1.out.trans hA2); clear hA2)))
  go_ret2
  exact ⟨ret2_of (by rfl), H2.out⟩
set_option maxRecDepth 100000 in
theorem readUshort_60_cut (h : Buf w r s D i) (hc : D[i]? = some 96) (hn : D.length < i + 3) :
    Calls Tryz.prog 109 #[.pointer (some ⟨r, 0, none⟩)] w (Fails w r) := by
  have ht : Calls Tryz.prog 99 #[.pointer (some ⟨r, 0, none⟩)] w fun e w' => e = .returned (.tuple #[.int .u8 96, .nilIface]) ∧ At_ w w' r s D (i + 1) := readType_yes r s D i w 96 h hc
  have HT := Lib.hid ht
  clear ht h hc
  go_enter Tryz.func109, Tryz.ntmps109
  go_wp2_with (first | (go_at_call 99; go_must (refine HT.out.mono ?_; rintro e w1 ⟨rfl, hA1⟩; have H1 := Lib.hid hA1; clear hA1)) | (go_at_call 145; go_must (refine (ReadUint16_no r s D (i + 1) _ H1.out.buf (by omega)).mono ?_; rintro e w2 ⟨x, v, rfl, rfl, ⟨T, z, rfl⟩, hA2⟩; have H2 := Lib.hid (H1.out.trans hA2); clear hA2)))
  go_ret2
  exact ⟨_, _, rfl, ⟨_, _, rfl⟩, H2.out.kept⟩
set_option maxRecDepth 100000 in
theorem readSbyte_51 (x0 : UInt8) (h : Buf w r s D i) (hc : D[i]? = some 81) (h0 : D[i + 1]? = some x0) :
    Calls Tryz.prog 104 #[.pointer (some ⟨r, 0, none⟩)] w fun e w' => e = .returned (.tuple #[.int .i8 (sg 8 x0.toNat), .nilIface]) ∧ At_ w w' r s D (i + 2) := by
  have ht : Calls Tryz.prog 99 #[.pointer (some ⟨r, 0, none⟩)] w fun e w' => e = .returned (.tuple #[.int .u8 81, .nilIface]) ∧ At_ w w' r s D (i + 1) := readType_yes r s D i w 81 h hc
  have HT := Lib.hid ht
  have HX := Lib.hid (And.intro h0 (trivial))
  clear ht h hc h0
  go_enter Tryz.func104, Tryz.ntmps104
  go_wp2_with (first | (go_at_call 99; go_must (refine HT.out.mono ?_; rintro e w1 ⟨rfl, hA1⟩; have H1 := Lib.hid hA1; clear hA1)) | (go_at_call 140; go_must (refine (ReadByte_yes r s D (i + 1) _ x0 H1.out.buf (by exact HX.out.1)).mono ?_; rintro e w2 ⟨rfl, hA2⟩; have H2 := Lib.hid (H1.out.trans hA2); clear hA2)))
  go_ret2
  exact ⟨ret2_of (by exact congrArg (Value.int .i8) (i8_sg _ x0.toNat_lt)), H2.out⟩
set_option maxRecDepth 100000 in
theorem readSbyte_51_cut (h : Buf w r s D i) (hc : D[i]? = some 81) (hn : D.length < i + 2) :
    Calls Tryz.prog 104 #[.pointer (some ⟨r, 0, none⟩)] w (Fails w r) := by
  have ht : Calls Tryz.prog 99 #[.pointer (some ⟨r, 0, none⟩)] w fun e w' => e = .returned (.tuple #[.int .u8 81, .nilIface]) ∧ At_ w w' r s D (i + 1) := readType_yes r s D i w 81 h hc
  have HT := Lib.hid ht
  clear ht h hc
  go_enter Tryz.func104, Tryz.ntmps104
  go_wp2_with (first | (go_at_call 99; go_must (refine HT.out.mono ?_; rintro e w1 ⟨rfl, hA1⟩; have H1 := Lib.hid hA1; clear hA1)) | (go_at_call 140; go_must (refine (ReadByte_no r s D (i + 1) _ H1.out.buf (by omega)).mono ?_; rintro e w2 ⟨x, v, rfl, rfl, ⟨T, z, rfl⟩, hA2⟩; have H2 := Lib.hid (H1.out.trans hA2); clear hA2)))
  go_ret2
  exact ⟨_, _, rfl, ⟨_, _, rfl⟩, H2.out.kept⟩
set_option maxRecDepth 100000 in
theorem readShort_61 (x0 x1 : UInt8) (h : Buf w r s D i) (hc : D[i]? = some 97) (h0 : D[i + 1]? = some x0) (h1 : D[i + 2]? = some x1) :
    Calls Tryz.prog 105 #[.pointer (some ⟨r, 0, none⟩)] w fun e w' => e = .returned (.tuple #[.int .i16 (sg 16 (Lib.beNat [x0, x1])), .nilIface]) ∧ At_ w w' r s D (i + 3) := by
  have ht : Calls Tryz.prog 99 #[.pointer (some ⟨r, 0, none⟩)] w fun e w' => e = .returned (.tuple #[.int .u8 97, .nilIface]) ∧ At_ w w' r s D (i + 1) := readType_yes r s D i w 97 h hc
  have HT := Lib.hid ht
  have HX := Lib.hid (And.intro h0 (And.intro h1 (trivial)))
  clear ht h hc h0 h1
  go_enter Tryz.func105, Tryz.ntmps105
  go_wp2_with (first | (go_at_call 99; go_must (refine HT.out.mono ?_; rintro e w1 ⟨rfl, hA1⟩; have H1 := Lib.hid hA1; clear hA1)) | (go_at_call 145; go_must (refine (ReadUint16_yes r s D (i + 1) _ x0 x1 H1.out.buf (by exact HX.out.1) (by exact HX.out.2.1)).mono ?_; rintro e w2 ⟨rfl, hA2⟩; have H2 := Lib.hid (H1.out.trans hA2); clear hA2)))
  go_ret2
  exact ⟨ret2_of (by exact congrArg (Value.int .i16) (i16_sg _ (beNat2_lt x0 x1))), H2.out⟩
set_option maxRecDepth 100000 in
theorem readShort_61_cut (h : Buf w r s D i) (hc : D[i]? = some 97) (hn : D.length < i + 3) :
    Calls Tryz.prog 105 #[.pointer (some ⟨r, 0, none⟩)] w (Fails w r) := by
  have ht : Calls Tryz.prog 99 #[.pointer (some ⟨r, 0, none⟩)] w fun e w' => e = .returned (.tuple #[.int .u8 97, .nilIface]) ∧ At_ w w' r s D (i + 1) := readType_yes r s D i w 97 h hc
  have HT := Lib.hid ht
  clear ht h hc
  go_enter Tryz.func105, Tryz.ntmps105
  go_wp2_with (first | (go_at_call 99; go_must (refine HT.out.mono ?_; rintro e w1 ⟨rfl, hA1⟩; have H1 := Lib.hid hA1; clear hA1)) | (go_at_call 145; go_must (refine (ReadUint16_no r s D (i + 1) _ H1.out.buf (by omega)).mono ?_; rintro e w2 ⟨x, v, rfl, rfl, ⟨T, z, rfl⟩, hA2⟩; have H2 := Lib.hid (H1.out.trans hA2); clear hA2)))
  go_ret2
  exact ⟨_, _, rfl, ⟨_, _, rfl⟩, H2.out.kept⟩
set_option maxRecDepth 100000 in
theorem readInt32_54 (x0 : UInt8) (h : Buf w r s D i) (hc : D[i]? = some 84) (h0 : D[i + 1]? = some x0) :
    Calls Tryz.prog 106 #[.pointer (some ⟨r, 0, none⟩)] w fun e w' => e = .returned (.tuple #[.int .i32 (sg 8 x0.toNat), .nilIface]) ∧ At_ w w' r s D (i + 2) := by
  have ht : Calls Tryz.prog 99 #[.pointer (some ⟨r, 0, none⟩)] w fun e w' => e = .returned (.tuple #[.int .u8 84, .nilIface]) ∧ At_ w w' r s D (i + 1) := readType_yes r s D i w 84 h hc
  have HT := Lib.hid ht
  have HX := Lib.hid (And.intro h0 (trivial))
  clear ht h hc h0
  go_enter Tryz.func106, Tryz.ntmps106
  go_wp2_with (first | (go_at_call 99; go_must (refine HT.out.mono ?_; rintro e w1 ⟨rfl, hA1⟩; have H1 := Lib.hid hA1; clear hA1)) | (go_at_call 140; go_must (refine (ReadByte_yes r s D (i + 1) _ x0 H1.out.buf (by exact HX.out.1)).mono ?_; rintro e w2 ⟨rfl, hA2⟩; have H2 := Lib.hid (H1.out.trans hA2); clear hA2)))
  go_ret2
  exact ⟨ret2_of (by exact congrArg (Value.int .i32) (w32_i8 _ x0.toNat_lt)), H2.out⟩
set_option maxRecDepth 100000 in
theorem readInt32_54_cut (h : Buf w r s D i) (hc : D[i]? = some 84) (hn : D.length < i + 2) :
    Calls Tryz.prog 106 #[.pointer (some ⟨r, 0, none⟩)] w (Fails w r) := by
  have ht : Calls Tryz.prog 99 #[.pointer (some ⟨r, 0, none⟩)] w fun e w' => e = .returned (.tuple #[.int .u8 84, .nilIface]) ∧ At_ w w' r s D (i + 1) := readType_yes r s D i w 84 h hc
  have HT := Lib.hid ht
  clear ht h hc
  go_enter Tryz.func106, Tryz.ntmps106
  go_wp2_with (first | (go_at_call 99; go_must (refine HT.out.mono ?_; rintro e w1 ⟨rfl, hA1⟩; have H1 := Lib.hid hA1; clear hA1)) | (go_at_call 140; go_must (refine (ReadByte_no r s D (i + 1) _ H1.out.buf (by omega)).mono ?_; rintro e w2 ⟨x, v, rfl, rfl, ⟨T, z, rfl⟩, hA2⟩; have H2 := Lib.hid (H1.out.trans hA2); clear hA2)))
  go_ret2
  exact ⟨_, _, rfl, ⟨_, _, rfl⟩, H2.out.kept⟩
set_option maxRecDepth 100000 in
theorem readInt32_71 (x0 x1 x2 x3 : UInt8) (h : Buf w r s D i) (hc : D[i]? = some 113) (h0 : D[i + 1]? = some x0) (h1 : D[i + 2]? = some x1) (h2 : D[i + 3]? = some x2) (h3 : D[i + 4]? = some x3) :
    Calls Tryz.prog 106 #[.pointer (some ⟨r, 0, none⟩)] w fun e w' => e = .returned (.tuple #[.int .i32 (sg 32 (Lib.beNat [x0, x1, x2, x3])), .nilIface]) ∧ At_ w w' r s D (i + 5) := by
  have ht : Calls Tryz.prog 99 #[.pointer (some ⟨r, 0, none⟩)] w fun e w' => e = .returned (.tuple #[.int .u8 113, .nilIface]) ∧ At_ w w' r s D (i + 1) := readType_yes r s D i w 113 h hc
  have HT := Lib.hid ht
  have HX := Lib.hid (And.intro h0 (And.intro h1 (And.intro h2 (And.intro h3 (trivial)))))
  clear ht h hc h0 h1 h2 h3
  go_enter Tryz.func106, Tryz.ntmps106
  go_wp2_with (first | (go_at_call 99; go_must (refine HT.out.mono ?_; rintro e w1 ⟨rfl, hA1⟩; have H1 := Lib.hid hA1; clear hA1)) | (go_at_call 146; go_must (refine (ReadUint32_yes r s D (i + 1) _ x0 x1 x2 x3 H1.out.buf (by exact HX.out.1) (by exact HX.out.2.1) (by exact HX.out.2.2.1) (by exact HX.out.2.2.2.1)).mono ?_; rintro e w2 ⟨rfl, hA2⟩; have H2 := Lib.hid (H1.out.trans hA2); clear hA2)))
  go_ret2
  exact ⟨ret2_of (by exact congrArg (Value.int .i32) (w32_sg _ (beNat4_lt x0 x1 x2 x3))), H2.out⟩
set_option maxRecDepth 100000 in
theorem readInt32_71_cut (h : Buf w r s D i) (hc : D[i]? = some 113) (hn : D.length < i + 5) :
    Calls Tryz.prog 106 #[.pointer (some ⟨r, 0, none⟩)] w (Fails w r) := by
  have ht : Calls Tryz.prog 99 #[.pointer (some ⟨r, 0, none⟩)] w fun e w' => e = .returned (.tuple #[.int .u8 113, .nilIface]) ∧ At_ w w' r s D (i + 1) := readType_yes r s D i w 113 h hc
  have HT := Lib.hid ht
  clear ht h hc
  go_enter Tryz.func106, Tryz.ntmps106
  go_wp2_with (first | (go_at_call 99; go_must (refine HT.out.mono ?_; rintro e w1 ⟨rfl, hA1⟩; have H1 := Lib.hid hA1; clear hA1)) | (go_at_call 146; go_must (refine (ReadUint32_no r s D (i + 1) _ H1.out.buf (by omega)).mono ?_; rintro e w2 ⟨x, v, rfl, rfl, ⟨T, z, rfl⟩, hA2⟩; have H2 := Lib.hid (H1.out.trans hA2); clear hA2)))
  go_ret2
  exact ⟨_, _, rfl, ⟨_, _, rfl⟩, H2.out.kept⟩
set_option maxRecDepth 100000 in
theorem readLong_55 (x0 : UInt8) (h : Buf w r s D i) (hc : D[i]? = some 85) (h0 : D[i + 1]? = some x0) :
    Calls Tryz.prog 107 #[.pointer (some ⟨r, 0, none⟩)] w fun e w' => e = .returned (.tuple #[.int .i64 (sg 8 x0.toNat), .nilIface]) ∧ At_ w w' r s D (i + 2) := by
  have ht : Calls Tryz.prog 99 #[.pointer (some ⟨r, 0, none⟩)] w fun e w' => e = .returned (.tuple #[.int .u8 85, .nilIface]) ∧ At_ w w' r s D (i + 1) := readType_yes r s D i w 85 h hc
  have HT := Lib.hid ht
  have HX := Lib.hid (And.intro h0 (trivial))
  clear ht h hc h0
  go_enter Tryz.func107, Tryz.ntmps107
  go_wp2_with (first | (go_at_call 99; go_must (refine HT.out.mono ?_; rintro e w1 ⟨rfl, hA1⟩; have H1 := Lib.hid hA1; clear hA1)) | (go_at_call 140; go_must (refine (ReadByte_yes r s D (i + 1) _ x0 H1.out.buf (by exact HX.out.1)).mono ?_; rintro e w2 ⟨rfl, hA2⟩; have H2 := Lib.hid (H1.out.trans hA2); clear hA2)))
  go_ret2
  exact ⟨ret2_of (by exact congrArg (Value.int .i64) (w64_i8 _ x0.toNat_lt)), H2.out⟩
set_option maxRecDepth 100000 in
theorem readLong_55_cut (h : Buf w r s D i) (hc : D[i]? = some 85) (hn : D.length < i + 2) :
    Calls Tryz.prog 107 #[.pointer (some ⟨r, 0, none⟩)] w (Fails w r) := by
  have ht : Calls Tryz.prog 99 #[.pointer (some ⟨r, 0, none⟩)] w fun e w' => e = .returned (.tuple #[.int .u8 85, .nilIface]) ∧ At_ w w' r s D (i + 1) := readType_yes r s D i w 85 h hc
  have HT := Lib.hid ht
  clear ht h hc
  go_enter Tryz.func107, Tryz.ntmps107
  go_wp2_with (first | (go_at_call 99; go_must (refine HT.out.mono ?_; rintro e w1 ⟨rfl, hA1⟩; have H1 := Lib.hid hA1; clear hA1)) | (go_at_call 140; go_must (refine (ReadByte_no r s D (i + 1) _ H1.out.buf (by omega)).mono ?_; rintro e w2 ⟨x, v, rfl, rfl, ⟨T, z, rfl⟩, hA2⟩; have H2 := Lib.hid (H1.out.trans hA2); clear hA2)))
  go_ret2
  exact ⟨_, _, rfl, ⟨_, _, rfl⟩, H2.out.kept⟩
set_option maxRecDepth 100000 in
theorem readLong_81 (x0 x1 x2 x3 x4 x5 x6 x7 : UInt8) (h : Buf w r s D i) (hc : D[i]? = some 129) (h0 : D[i + 1]? = some x0) (h1 : D[i + 2]? = some x1) (h2 : D[i + 3]? = some x2) (h3 : D[i + 4]? = some x3) (h4 : D[i + 5]? = some x4) (h5 : D[i + 6]? = some x5) (h6 : D[i + 7]? = some x6) (h7 : D[i + 8]? = some x7) :
    Calls Tryz.prog 107 #[.pointer (some ⟨r, 0, none⟩)] w fun e w' => e = .returned (.tuple #[.int .i64 (sg 64 (Lib.beNat [x0, x1, x2, x3, x4, x5, x6, x7])), .nilIface]) ∧ At_ w w' r s D (i + 9) := by
  have ht : Calls Tryz.prog 99 #[.pointer (some ⟨r, 0, none⟩)] w fun e w' => e = .returned (.tuple #[.int .u8 129, .nilIface]) ∧ At_ w w' r s D (i + 1) := readType_yes r s D i w 129 h hc
  have HT := Lib.hid ht
  have HX := Lib.hid (And.intro h0 (And.intro h1 (And.intro h2 (And.intro h3 (And.intro h4 (And.intro h5 (And.intro h6 (And.intro h7 (trivial)))))))))
  clear ht h hc h0 h1 h2 h3 h4 h5 h6 h7
  go_enter Tryz.func107, Tryz.ntmps107
  go_wp2_with (first | (go_at_call 99; go_must (refine HT.out.mono ?_; rintro e w1 ⟨rfl, hA1⟩; have H1 := Lib.hid hA1; clear hA1)) | (go_at_call 141; go_must (refine (ReadUint64_yes r s D (i + 1) _ x0 x1 x2 x3 x4 x5 x6 x7 H1.out.buf (by exact HX.out.1) (by exact HX.out.2.1) (by exact HX.out.2.2.1) (by exact HX.out.2.2.2.1) (by exact HX.out.2.2.2.2.1) (by exact HX.out.2.2.2.2.2.1) (by exact HX.out.2.2.2.2.2.2.1) (by exact HX.out.2.2.2.2.2.2.2.1)).mono ?_; rintro e w2 ⟨rfl, hA2⟩; have H2 := Lib.hid (H1.out.trans hA2); clear hA2)))
  go_ret2
  exact ⟨ret2_of (by exact congrArg (Value.int .i64) (w64_sg _ (beNat8_lt x0 x1 x2 x3 x4 x5 x6 x7))), H2.out⟩
set_option maxRecDepth 100000 in
theorem readLong_81_cut (h : Buf w r s D i) (hc : D[i]? = some 129) (hn : D.length < i + 9) :
    Calls Tryz.prog 107 #[.pointer (some ⟨r, 0, none⟩)] w (Fails w r) := by
  have ht : Calls Tryz.prog 99 #[.pointer (some ⟨r, 0, none⟩)] w fun e w' => e = .returned (.tuple #[.int .u8 129, .nilIface]) ∧ At_ w w' r s D (i + 1) := readType_yes r s D i w 129 h hc
  have HT := Lib.hid ht
  clear ht h hc
  go_enter Tryz.func107, Tryz.ntmps107
  go_wp2_with (first | (go_at_call 99; go_must (refine HT.out.mono ?_; rintro e w1 ⟨rfl, hA1⟩; have H1 := Lib.hid hA1; clear hA1)) | (go_at_call 141; go_must (refine (ReadUint64_no r s D (i + 1) _ H1.out.buf (by omega)).mono ?_; rintro e w2 ⟨x, v, rfl, rfl, ⟨T, z, rfl⟩, hA2⟩; have H2 := Lib.hid (H1.out.trans hA2); clear hA2)))
  go_ret2
  exact ⟨_, _, rfl, ⟨_, _, rfl⟩, H2.out.kept⟩
set_option maxRecDepth 100000 in
theorem readBool_56 (x0 : UInt8) (h : Buf w r s D i) (hc : D[i]? = some 86) (h0 : D[i + 1]? = some x0) :
    Calls Tryz.prog 115 #[.pointer (some ⟨r, 0, none⟩)] w fun e w' => e = .returned (.tuple #[.bool ((x0.toNat : Int) != 0), .nilIface]) ∧ At_ w w' r s D (i + 2) := by
  have ht : Calls Tryz.prog 99 #[.pointer (some ⟨r, 0, none⟩)] w fun e w' => e = .returned (.tuple #[.int .u8 86, .nilIface]) ∧ At_ w w' r s D (i + 1) := readType_yes r s D i w 86 h hc
  have HT := Lib.hid ht
  have HX := Lib.hid (And.intro h0 (trivial))
  clear ht h hc h0
  go_enter Tryz.func115, Tryz.ntmps115
  go_wp2_with (first | (go_at_call 99; go_must (refine HT.out.mono ?_; rintro e w1 ⟨rfl, hA1⟩; have H1 := Lib.hid hA1; clear hA1)) | (go_at_call 140; go_must (refine (ReadByte_yes r s D (i + 1) _ x0 H1.out.buf (by exact HX.out.1)).mono ?_; rintro e w2 ⟨rfl, hA2⟩; have H2 := Lib.hid (H1.out.trans hA2); clear hA2)))
  go_ret2
  exact ⟨ret2_of (by rfl), H2.out⟩
set_option maxRecDepth 100000 in
theorem readBool_56_cut (h : Buf w r s D i) (hc : D[i]? = some 86) (hn : D.length < i + 2) :
    Calls Tryz.prog 115 #[.pointer (some ⟨r, 0, none⟩)] w (Fails w r) := by
  have ht : Calls Tryz.prog 99 #[.pointer (some ⟨r, 0, none⟩)] w fun e w' => e = .returned (.tuple #[.int .u8 86, .nilIface]) ∧ At_ w w' r s D (i + 1) := readType_yes r s D i w 86 h hc
  have HT := Lib.hid ht
  clear ht h hc
  go_enter Tryz.func115, Tryz.ntmps115
  go_wp2_with (first | (go_at_call 99; go_must (refine HT.out.mono ?_; rintro e w1 ⟨rfl, hA1⟩; have H1 := Lib.hid hA1; clear hA1)) | (go_at_call 140; go_must (refine (ReadByte_no r s D (i + 1) _ H1.out.buf (by omega)).mono ?_; rintro e w2 ⟨x, v, rfl, rfl, ⟨T, z, rfl⟩, hA2⟩; have H2 := Lib.hid (H1.out.trans hA2); clear hA2)))
  go_ret2
  exact ⟨_, _, rfl, ⟨_, _, rfl⟩, H2.out.kept⟩
set_option maxRecDepth 100000 in
theorem readBool_41 (h : Buf w r s D i) (hc : D[i]? = some 65)  :
    Calls Tryz.prog 115 #[.pointer (some ⟨r, 0, none⟩)] w fun e w' => e = .returned (.tuple #[.bool true, .nilIface]) ∧ At_ w w' r s D (i + 1) := by
  have ht : Calls Tryz.prog 99 #[.pointer (some ⟨r, 0, none⟩)] w fun e w' => e = .returned (.tuple #[.int .u8 65, .nilIface]) ∧ At_ w w' r s D (i + 1) := readType_yes r s D i w 65 h hc
  have HT := Lib.hid ht
  clear ht h hc
  go_enter Tryz.func115, Tryz.ntmps115
  go_wp2_with ((go_at_call 99; go_must (refine HT.out.mono ?_; rintro e w1 ⟨rfl, hA1⟩; have H1 := Lib.hid hA1; clear hA1)))
  go_ret2
  exact ⟨ret2_of (by rfl), H1.out⟩
set_option maxRecDepth 100000 in
theorem readBool_42 (h : Buf w r s D i) (hc : D[i]? = some 66)  :
    Calls Tryz.prog 115 #[.pointer (some ⟨r, 0, none⟩)] w fun e w' => e = .returned (.tuple #[.bool false, .nilIface]) ∧ At_ w w' r s D (i + 1) := by
  have ht : Calls Tryz.prog 99 #[.pointer (some ⟨r, 0, none⟩)] w fun e w' => e = .returned (.tuple #[.int .u8 66, .nilIface]) ∧ At_ w w' r s D (i + 1) := readType_yes r s D i w 66 h hc
  have HT := Lib.hid ht
  clear ht h hc
  go_enter Tryz.func115, Tryz.ntmps115
  go_wp2_with ((go_at_call 99; go_must (refine HT.out.mono ?_; rintro e w1 ⟨rfl, hA1⟩; have H1 := Lib.hid hA1; clear hA1)))
  go_ret2
  exact ⟨ret2_of (by rfl), H1.out⟩
set_option maxRecDepth 100000 in
theorem readFloat_72 (x0 x1 x2 x3 : UInt8) (h : Buf w r s D i) (hc : D[i]? = some 114) (h0 : D[i + 1]? = some x0) (h1 : D[i + 2]? = some x1) (h2 : D[i + 3]? = some x2) (h3 : D[i + 4]? = some x3) :
    Calls Tryz.prog 111 #[.pointer (some ⟨r, 0, none⟩)] w fun e w' => e = .returned (.tuple #[.float .f32 (Lib.beNat [x0, x1, x2, x3]), .nilIface]) ∧ At_ w w' r s D (i + 5) := by
  have ht : Calls Tryz.prog 99 #[.pointer (some ⟨r, 0, none⟩)] w fun e w' => e = .returned (.tuple #[.int .u8 114, .nilIface]) ∧ At_ w w' r s D (i + 1) := readType_yes r s D i w 114 h hc
  have HT := Lib.hid ht
  have HX := Lib.hid (And.intro h0 (And.intro h1 (And.intro h2 (And.intro h3 (trivial)))))
  clear ht h hc h0 h1 h2 h3
  have hf := fun (n : Nat) (w : World) => f32from_run n w
  have hf0 : ∀ w : World, (callFunc 147 #[.int .u32 0]).run Tryz.prog w = .ok (.value (.float .f32 0)) w := fun w => f32from_run 0 w
  go_enter Tryz.func111, Tryz.ntmps111
  go_wp2_with (first | (go_at_call 99; go_must (refine HT.out.mono ?_; rintro e w1 ⟨rfl, hA1⟩; have H1 := Lib.hid hA1; clear hA1)) | (go_at_call 146; go_must (refine (ReadUint32_yes r s D (i + 1) _ x0 x1 x2 x3 H1.out.buf (by exact HX.out.1) (by exact HX.out.2.1) (by exact HX.out.2.2.1) (by exact HX.out.2.2.2.1)).mono ?_; rintro e w2 ⟨rfl, hA2⟩; have H2 := Lib.hid (H1.out.trans hA2); clear hA2)))
  go_ret2
  exact ⟨ret2_of (by rfl), H2.out⟩
set_option maxRecDepth 100000 in
theorem readFloat_72_cut (h : Buf w r s D i) (hc : D[i]? = some 114) (hn : D.length < i + 5) :
    Calls Tryz.prog 111 #[.pointer (some ⟨r, 0, none⟩)] w (Fails w r) := by
  have ht : Calls Tryz.prog 99 #[.pointer (some ⟨r, 0, none⟩)] w fun e w' => e = .returned (.tuple #[.int .u8 114, .nilIface]) ∧ At_ w w' r s D (i + 1) := readType_yes r s D i w 114 h hc
  have HT := Lib.hid ht
  clear ht h hc
  have hf := fun (n : Nat) (w : World) => f32from_run n w
  have hf0 : ∀ w : World, (callFunc 147 #[.int .u32 0]).run Tryz.prog w = .ok (.value (.float .f32 0)) w := fun w => f32from_run 0 w
  go_enter Tryz.func111, Tryz.ntmps111
  go_wp2_with (first | (go_at_call 99; go_must (refine HT.out.mono ?_; rintro e w1 ⟨rfl, hA1⟩; have H1 := Lib.hid hA1; clear hA1)) | (go_at_call 146; go_must (refine (ReadUint32_no r s D (i + 1) _ H1.out.buf (by omega)).mono ?_; rintro e w2 ⟨x, v, rfl, rfl, ⟨T, z, rfl⟩, hA2⟩; have H2 := Lib.hid (H1.out.trans hA2); clear hA2)))
  go_ret2
  exact ⟨_, _, rfl, ⟨_, _, rfl⟩, H2.out.kept⟩
set_option maxRecDepth 100000 in
theorem readDouble_82 (x0 x1 x2 x3 x4 x5 x6 x7 : UInt8) (h : Buf w r s D i) (hc : D[i]? = some 130) (h0 : D[i + 1]? = some x0) (h1 : D[i + 2]? = some x1) (h2 : D[i + 3]? = some x2) (h3 : D[i + 4]? = some x3) (h4 : D[i + 5]? = some x4) (h5 : D[i + 6]? = some x5) (h6 : D[i + 7]? = some x6) (h7 : D[i + 8]? = some x7) :
    Calls Tryz.prog 112 #[.pointer (some ⟨r, 0, none⟩)] w fun e w' => e = .returned (.tuple #[.float .f64 (Lib.beNat [x0, x1, x2, x3, x4, x5, x6, x7]), .nilIface]) ∧ At_ w w' r s D (i + 9) := by
  have ht : Calls Tryz.prog 99 #[.pointer (some ⟨r, 0, none⟩)] w fun e w' => e = .returned (.tuple #[.int .u8 130, .nilIface]) ∧ At_ w w' r s D (i + 1) := readType_yes r s D i w 130 h hc
  have HT := Lib.hid ht
  have HX := Lib.hid (And.intro h0 (And.intro h1 (And.intro h2 (And.intro h3 (And.intro h4 (And.intro h5 (And.intro h6 (And.intro h7 (trivial)))))))))
  clear ht h hc h0 h1 h2 h3 h4 h5 h6 h7
  have hf := fun (n : Nat) (w : World) => f64from_run n w
  have hf0 : ∀ w : World, (callFunc 148 #[.int .u64 0]).run Tryz.prog w = .ok (.value (.float .f64 0)) w := fun w => f64from_run 0 w
  go_enter Tryz.func112, Tryz.ntmps112
  go_wp2_with (first | (go_at_call 99; go_must (refine HT.out.mono ?_; rintro e w1 ⟨rfl, hA1⟩; have H1 := Lib.hid hA1; clear hA1)) | (go_at_call 141; go_must (refine (ReadUint64_yes r s D (i + 1) _ x0 x1 x2 x3 x4 x5 x6 x7 H1.out.buf (by exact HX.out.1) (by exact HX.out.2.1) (by exact HX.out.2.2.1) (by exact HX.out.2.2.2.1) (by exact HX.out.2.2.2.2.1) (by exact HX.out.2.2.2.2.2.1) (by exact HX.out.2.2.2.2.2.2.1) (by exact HX.out.2.2.2.2.2.2.2.1)).mono ?_; rintro e w2 ⟨rfl, hA2⟩; have H2 := Lib.hid (H1.out.trans hA2); clear hA2)))
  go_ret2
  exact ⟨ret2_of (by rfl), H2.out⟩
set_option maxRecDepth 100000 in
theorem readDouble_82_cut (h : Buf w r s D i) (hc : D[i]? = some 130) (hn : D.length < i + 9) :
    Calls Tryz.prog 112 #[.pointer (some ⟨r, 0, none⟩)] w (Fails w r) := by
  have ht : Calls Tryz.prog 99 #[.pointer (some ⟨r, 0, none⟩)] w fun e w' => e = .returned (.tuple #[.int .u8 130, .nilIface]) ∧ At_ w w' r s D (i + 1) := readType_yes r s D i w 130 h hc
  have HT := Lib.hid ht
  clear ht h hc
  have hf := fun (n : Nat) (w : World) => f64from_run n w
  have hf0 : ∀ w : World, (callFunc 148 #[.int .u64 0]).run Tryz.prog w = .ok (.value (.float .f64 0)) w := fun w => f64from_run 0 w
  go_enter Tryz.func112, Tryz.ntmps112
  go_wp2_with (first | (go_at_call 99; go_must (refine HT.out.mono ?_; rintro e w1 ⟨rfl, hA1⟩; have H1 := Lib.hid hA1; clear hA1)) | (go_at_call 141; go_must (refine (ReadUint64_no r s D (i + 1) _ H1.out.buf (by omega)).mono ?_; rintro e w2 ⟨x, v, rfl, rfl, ⟨T, z, rfl⟩, hA2⟩; have H2 := Lib.hid (H1.out.trans hA2); clear hA2)))
  go_ret2
  exact ⟨_, _, rfl, ⟨_, _, rfl⟩, H2.out.kept⟩
end
end Go.Proofs.YtbckofjoancdjaaGreatDoor
