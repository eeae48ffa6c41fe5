/- Bytes that lie at a place; numbers out of them. Package encoding: the head of a composite value, and its fields. Package encoding: Unmarshal into a field of a struct. -/
import Derived.Test.YtbckofjoancdjaaGreatDoorK11
import Derived.Test.YtbckofjoancdjaaGreatDoorK1
import Derived.Test.YtbckofjoancdjaaGreatDoorK10
import Derived.Deep.OwnRows
import Derived.OwnWalk
import Derived.Outline
import Derived.Laws.EntriesVeiled
namespace Go.Proofs.YtbckofjoancdjaaGreatDoor
open Go Go.RowKit Go.Lib
def Lies (D : List UInt8) (i : Nat) (bs : List UInt8) : Prop := ∀ k x, bs[k]? = some x → D[i + k]? = some x
namespace Lies
variable {D bs cs : List UInt8} {i : Nat}
theorem head {x : UInt8} (h : Lies D i (x :: bs)) : D[i]? = some x := by simpa using h 0 x rfl
theorem tail {x : UInt8} (h : Lies D i (x :: bs)) : Lies D (i + 1) bs := fun k y hk => by
  have := h (k + 1) y (by simpa using hk)
  rw [show i + 1 + k = i + (k + 1) by omega]; exact this
theorem left (h : Lies D i (bs ++ cs)) : Lies D i bs := fun k x hk => h k x (by
  have := (List.getElem?_eq_some_iff.1 hk).1
  rw [List.getElem?_append_left this]; exact hk)
theorem right (h : Lies D i (bs ++ cs)) : Lies D (i + bs.length) cs := fun k x hk => by
  have := h (bs.length + k) x (by rw [List.getElem?_append_right (by omega)]; simpa using hk)
  rw [show i + bs.length + k = i + (bs.length + k) by omega]; exact this
theorem len (h : Lies D i bs) (hi : i ≤ D.length) : i + bs.length ≤ D.length := by
  rcases Nat.eq_zero_or_pos bs.length with h0 | h0
  · omega
  · have hx : bs[bs.length - 1]? = some (bs[bs.length - 1]'(by omega)) := List.getElem?_eq_getElem (by omega)
    have := (List.getElem?_eq_some_iff.1 (h _ _ hx)).1
    omega
theorem eq_take (h : Lies D i bs) (hi : i ≤ D.length) : (D.drop i).take bs.length = bs := by
  have hl := h.len hi
  apply List.ext_getElem?
  intro k
  rw [List.getElem?_take]
  split
  · rename_i hk
    rw [List.getElem?_drop, h k _ (List.getElem?_eq_getElem hk), List.getElem?_eq_getElem hk]
  · rename_i hk
    rw [List.getElem?_eq_none (by omega)]
theorem self (pre bs post : List UInt8) : Lies (pre ++ bs ++ post) pre.length bs := fun k x hk => by
  have := (List.getElem?_eq_some_iff.1 hk).1
  rw [List.append_assoc, List.getElem?_append_right (by omega), show pre.length + k - pre.length = k by omega, List.getElem?_append_left this]; exact hk
end Lies
theorem beFrom_append (acc : Nat) (l : List UInt8) : ∀ m, Lib.beFrom acc (m ++ l) = Lib.beFrom (Lib.beFrom acc m) l := by
  intro m
  induction m generalizing acc with
  | nil => rfl
  | cons a m ih => exact ih _
theorem beFrom_be : ∀ (n u acc : Nat), Lib.beFrom acc (be n u) = acc * 256 ^ n + u % 256 ^ n
  | 0, u, acc => by simp [be, Lib.beFrom, Nat.mod_one]
  | n + 1, u, acc => by
    rw [be]
    show Lib.beFrom (acc * 256 + (UInt8.ofNat (u / 256 ^ n % 256)).toNat) (be n u) = _
    rw [beFrom_be n u]
    have h1 : (UInt8.ofNat (u / 256 ^ n % 256)).toNat = u / 256 ^ n % 256 := by simp
    rw [h1, Nat.pow_succ]
    have h2 : u % (256 ^ n * 256) = u % 256 ^ n + 256 ^ n * (u / 256 ^ n % 256) := Nat.mod_mul
    rw [h2, Nat.add_mul, Nat.mul_assoc, Nat.mul_comm 256 (256 ^ n), Nat.mul_comm (u / 256 ^ n % 256) (256 ^ n)]
    omega
theorem beNat_be (n u : Nat) : Lib.beNat (be n u) = u % 256 ^ n := by
  unfold Lib.beNat; rw [beFrom_be]; simp
theorem be1 (u : Nat) : be 1 u = [UInt8.ofNat (u % 256)] := by simp [be]
theorem be_cons (n u : Nat) : be (n + 1) u = UInt8.ofNat (u / 256 ^ n % 256) :: be n u := rfl
end Go.Proofs.YtbckofjoancdjaaGreatDoor
namespace Go.Proofs.YtbckofjoancdjaaGreatDoor
open Go Go.RowKit Go.Lib
section
variable (r : Nat) (s : Value) (D : List UInt8) (i : Nat) (w : World)
set_option maxRecDepth 100000 in
set_option maxHeartbeats 800000 in
theorem readComp_ok (c : UInt8) (n j : Nat) (h : Buf w r s D i) (h0 : D[i]? = some 0) (h1 : D[i + 1]? = some 83) (h2 : D[i + 2]? = some c)
    (hL : ∀ W, Buf W r s D (i + 3) → Calls Tryz.prog 101 #[.pointer (some ⟨r, 0, none⟩)] W fun e W' => e = .returned (.tuple #[.int .i64 n, .nilIface]) ∧ At_ W W' r s D j) :
    Calls Tryz.prog 93 #[.pointer (some ⟨r, 0, none⟩)] w fun e w' => e = .returned (.tuple #[.int .u8 c.toNat, .int .i64 n, .nilIface]) ∧ At_ w w' r s D j := by
  have ht := readType_yes r s D i w _ h h0
  have HT := Lib.hid ht
  have HX := Lib.hid (And.intro h1 h2)
  have HL := Lib.hid hL
  have hw : IntKind.u8.wrap (c.toNat : Int) = c.toNat := by have := c.toNat_lt; have h8 : IntKind.u8.wrap (c.toNat : Int) = (c.toNat : Int) % 256 := rfl; rw [h8]; omega
  clear ht h h0 h1 h2 hL
  go_enter Tryz.func93, Tryz.ntmps93
  go_wp2_with (first | (go_at_call 99; go_must (refine HT.out.mono ?_; rintro e w1 ⟨rfl, hA1⟩; have H1 := Lib.hid hA1; clear hA1)) | (go_at_call 100; go_must (refine (readUlong_53 r s D (i + 1) _ c H1.out.buf HX.out.1 HX.out.2).mono ?_; rintro e w2 ⟨rfl, hA2⟩; have H2 := Lib.hid (H1.out.trans hA2); clear hA2)) | (go_at_call 101; go_must (refine (HL.out _ H2.out.buf).mono ?_; rintro e w3 ⟨rfl, hA3⟩; have H3 := Lib.hid (H2.out.trans hA3); clear hA3)))
  go_ret3
  exact ⟨rfl, H3.out⟩
end
theorem neq_nilFunc (w : World) : (binOp .neq 183 .nilFunc .nilFunc).run Tryz.prog w = .ok (.bool false) w := by kernel_rfl
attribute [local go_sem ↓] neq_nilFunc
def TAt (T n : Nat) (w : World) : Prop := ∃ t cs, Blk w T t cs ∧ cs.size = n
theorem TAt.keep {T n : Nat} {M : Nat → Prop} {w w' : World} (h : TAt T n w) (hk : Kept M w w') (hT : ¬ M T) : TAt T n w' := by obtain ⟨t, cs, hb, hs⟩ := h; exact ⟨t, cs, hb.kept hk hT, hs⟩
theorem TAt.set_ {T n : Nat} {w : World} (h : TAt T n w) (i : Nat) (u : Value) : TAt T n (w.setCell ⟨T, i, none⟩ u) := by obtain ⟨t, cs, hb, hs⟩ := h; exact ⟨t, _, hb.set_ i u, by simpa using hs⟩
theorem TAt.cell {T n : Nat} {w : World} (h : TAt T n w) {i : Nat} (hi : i < n) : ∃ u, w.cell? ⟨T, i, none⟩ = some u := by obtain ⟨t, cs, hb, hs⟩ := h; rw [hb.cell i]; exact ⟨_, Array.getElem?_eq_getElem (by omega)⟩
theorem TAt.frozen {T n : Nat} {w : World} (h : TAt T n w) (i : Nat) : w.frozen? ⟨T, i, none⟩ = false := by obtain ⟨t, cs, hb, hs⟩ := h; exact hb.frozen i
theorem TAt.lt {T n : Nat} {w : World} (h : TAt T n w) : T < w.heap.size := by obtain ⟨t, cs, hb, hs⟩ := h; exact hb.lt
def FieldU (w0 : World) (r : Nat) (s : Value) (D : List UInt8) (T n : Nat) (x : Value) (i j : Nat) : Prop :=
  ∀ W, At_ w0 W r s D i → TAt T n W → Calls Tryz.prog 95 #[.pointer (some ⟨r, 0, none⟩), x] W (Gives fun e W' => e = .nilIface ∧ At_ w0 W' r s D j ∧ TAt T n W' ∧ Kept (Or2 r T) W W')
def FieldAt (w0 : World) (r : Nat) (s : Value) (D : List UInt8) (T n : Nat) (x h : Value) (i j : Nat) : Prop :=
  (D[i]? = some 64 ∧ h = .nilFunc ∧ j = i + 1) ∨ ((∃ c, D[i]? = some c ∧ c ≠ 64) ∧ FieldU w0 r s D T n x i j)
set_option maxRecDepth 100000 in
set_option maxHeartbeats 1600000 in
theorem UnmComp_ok (r : Nat) (s : Value) (D : List UInt8) (i : Nat) (w0 w : World) (T n : Nat) (c : UInt8) (F : List (Value × Value)) (g : Nat) (t : TypeId) (cs : Array Value) (pos : Nat → Nat)
    (h : At_ w0 w r s D i) (hT : TAt T n w) (hTr : T ≠ r) (hg : Blk w g t cs) (hgr : g ≠ r) (hgT : g ≠ T) (hm : F.length ≤ 100)
    (hc : ∀ k x y, F[k]? = some (x, y) → cs[k * 2]? = some x ∧ cs[k * 2 + 1]? = some y ∧ (∃ a b, x = .iface a b) ∧ (y = .nilFunc ∨ ∃ a b d, y = .func a b d))
    (hL : ∀ W, Buf W r s D i → Calls Tryz.prog 93 #[.pointer (some ⟨r, 0, none⟩)] W fun e W' => e = .returned (.tuple #[.int .u8 c.toNat, .int .i64 F.length, .nilIface]) ∧ At_ W W' r s D (pos 0))
    (hF : ∀ k x y, F[k]? = some (x, y) → FieldAt w0 r s D T n x y (pos k) (pos (k + 1))) :
    Calls Tryz.prog 62 #[.pointer (some ⟨r, 0, none⟩), .int .u8 c.toNat, .slice (some ⟨g, 0, none⟩) F.length F.length] w (Gives fun e w' => e = .nilIface ∧ At_ w0 w' r s D (pos F.length) ∧ TAt T n w' ∧ Kept (Or2 r T) w w') := by
  have HB := Lib.hid h
  have HT := Lib.hid (And.intro hT (And.intro hTr (And.intro hgr hgT)))
  have HG := Lib.hid hg
  have HL := Lib.hid hL
  have HF := Lib.hid hF
  have HC := Lib.hid hc
  obtain ⟨m, hmm⟩ : ∃ m, F.length = m := ⟨_, rfl⟩
  have HM := Lib.hid hmm
  rw [hmm] at hm ⊢
  have hm' : ¬ (m : Int) > (m : Int) := by omega
  have hm0 : (0 : Int) ≤ (m : Int) := by omega
  clear hc hL hF hmm h hT hTr hg hgr hgT
  go_enter Tryz.func62, Tryz.ntmps62
  go_wp2_with (go_at_call 93; go_must (refine (HL.out _ HB.out.buf).mono ?_; rw [HM.out]; rintro e w1 ⟨rfl, hA1⟩; have H1 := Lib.hid hA1; clear hA1))
  have HI0 : Hid (At_ w0 w1 r s D (pos 0) ∧ TAt T n w1 ∧ Kept (Or2 r T) w w1) := Lib.hid ⟨HB.out.trans H1.out, HT.out.1.keep H1.out.kept HT.out.2.1, H1.out.kept.mono fun b _ hb => .inl hb⟩
  go_loopw [36] (fun q w' => ∃ k : Nat, k ≤ m ∧ q = .int .i64 k ∧ Hid (At_ w0 w' r s D (pos k) ∧ TAt T n w' ∧ Kept (Or2 r T) w w')) (fun q _ => m - (RowKit.intOf q).toNat)
  case atStart => exact ⟨0, by omega, rfl, HI0⟩
  case round =>
    obtain ⟨k, hk, rfl, HI⟩ := hrel
    by_cases hkm : k < m
    · have hkm' : (k : Int) < (m : Int) := by omega
      have hk0 : (0 : Int) ≤ (k : Int) := by omega
      have e1 : IntKind.i64.wrap ((k : Int) + 1) = (k : Int) + 1 := IntWalk.i64_in _ (by omega)
      obtain ⟨⟨x, y⟩, hv⟩ : ∃ v, F[k]? = some v := ⟨F[k]'(by rw [HM.out]; exact hkm), List.getElem?_eq_getElem _⟩
      have hg := HG.out.kept HI.out.2.2 (fun e => Or.elim e HT.out.2.2.1 HT.out.2.2.2)
      obtain ⟨z0, z1, ⟨xa, xb, rfl⟩, hy⟩ := HC.out k x y hv
      rw [← hg.cell] at z0 z1
      have HV := Lib.hid hv
      have hf := HF.out k _ y hv
      clear hv hg
      rcases hf with ⟨hn, rfl, hj⟩ | ⟨⟨c0, hc0, hne⟩, hf⟩
      · have HN := Lib.hid (And.intro hn hj)
        clear hn hj hy
        go_wp2_with (go_at_call 94; go_must (refine (tryReadNull_yes r s D (pos k) _ (HI.out.1.nope ((Kept.refl _ _).alloc _)).buf HN.out.1).mono ?_; rintro e w3 ⟨rfl, hA3⟩; have z3 := ((Blk.new _ 185 #[.iface xa xb, .nilFunc]).kept hA3.kept (fun e => by have := HI.out.1.buf.lt; exact absurd e (by show ¬ (_ = r); omega))).cell 1; have H3 := Lib.hid hA3; clear hA3))
        go_roundw
        case rel => exact ⟨k + 1, by omega, by go_num, Lib.hid ⟨by rw [HN.out.2]; exact (HI.out.1.nope ((Kept.refl _ _).alloc _)).trans H3.out, (HI.out.2.1.keep ((Kept.refl Nope _).alloc _) (fun h => h)).keep H3.out.kept HT.out.2.1, HI.out.2.2.trans' (((Kept.refl _ _).alloc _).trans' (H3.out.kept.mono fun b _ hb => .inl hb))⟩⟩
        case measure => simp [RowKit.intOf]; omega
      · have HX := Lib.hid (And.intro hc0 (And.intro hne hf))
        clear hc0 hne hf
        rcases hy with rfl | ⟨ya, yb, yd, rfl⟩
        all_goals
          go_wp2_with (first | (go_at_call 94; go_must (refine (tryReadNull_no r s D (pos k) _ c0 (HI.out.1.nope ((Kept.refl _ _).alloc _)).buf HX.out.1 HX.out.2.1).mono ?_; rintro e w3 ⟨rfl, hA3⟩; have z3 := ((Blk.new _ 185 _).kept hA3.kept (fun e => by have := HI.out.1.buf.lt; exact absurd e (by show ¬ (_ = r); omega))).cell 0; have H3 := Lib.hid hA3; clear hA3)) | (go_at_call 95; go_must (refine (HX.out.2.2 _ ((HI.out.1.nope ((Kept.refl _ _).alloc _)).trans H3.out) ((HI.out.2.1.keep ((Kept.refl Nope _).alloc _) (fun h => h)).keep H3.out.kept HT.out.2.1)).mono ?_; rintro e w4 ⟨_, rfl, rfl, hB4, hT4, hk4⟩; have H4 := Lib.hid (And.intro hB4 (And.intro hT4 hk4)); clear hB4 hT4 hk4)))
          go_roundw
          case rel => exact ⟨k + 1, by omega, by go_num, Lib.hid ⟨H4.out.1, H4.out.2.1, HI.out.2.2.trans' (((Kept.refl _ _).alloc _).trans' ((H3.out.kept.mono fun b _ hb => .inl hb).trans' H4.out.2.2))⟩⟩
          case measure => simp [RowKit.intOf]; omega
    · obtain rfl : k = m := by omega
      go_wp2
      go_loopw [63] (fun q w' => q = .int .i64 0 ∧ w' = wr) (fun _ _ => 0)
      case atStart => exact ⟨rfl, rfl⟩
      case round =>
        obtain ⟨rfl, rfl⟩ := hrel
        go_wp2
        go_ret
        exact ⟨_, rfl, rfl, HI.out⟩
end Go.Proofs.YtbckofjoancdjaaGreatDoor
namespace Go.Proofs.YtbckofjoancdjaaGreatDoor
open Go Go.RowKit Go.Lib
theorem ut_u32_0 (v : Value) (W : World) : (Instr.typeAssert (.iface 143 v) 20 256 true).run Tryz.prog W = .ok (.tuple #[.pointer none, .bool false]) W := by kernel_rfl
theorem ut_u32_1 (v : Value) (W : World) : (Instr.typeAssert (.iface 143 v) 20 259 true).run Tryz.prog W = .ok (.tuple #[.pointer none, .bool false]) W := by kernel_rfl
theorem ut_u32_2 (v : Value) (W : World) : (Instr.typeAssert (.iface 143 v) 20 263 true).run Tryz.prog W = .ok (.tuple #[.pointer none, .bool false]) W := by kernel_rfl
theorem ut_u32_3 (v : Value) (W : World) : (Instr.typeAssert (.iface 143 v) 20 267 true).run Tryz.prog W = .ok (.tuple #[.pointer none, .bool false]) W := by kernel_rfl
theorem ut_u32_4 (v : Value) (W : World) : (Instr.typeAssert (.iface 143 v) 20 270 true).run Tryz.prog W = .ok (.tuple #[.pointer none, .bool false]) W := by kernel_rfl
theorem ut_u32_5 (v : Value) (W : World) : (Instr.typeAssert (.iface 143 v) 20 215 true).run Tryz.prog W = .ok (.tuple #[.pointer none, .bool false]) W := by kernel_rfl
theorem ut_u32_y (v : Value) (W : World) : (Instr.typeAssert (.iface 143 v) 20 143 true).run Tryz.prog W = .ok (.tuple #[v, .bool true]) W := by kernel_rfl
set_option maxRecDepth 1000000 in
set_option maxHeartbeats 8000000 in
theorem UnT_u32 (w0 : World) (r : Nat) (s : Value) (D : List UInt8) (i0 i j : Nat) (T n m : Nat) (c : UInt8) (h0 : Buf w0 r s D i0) (hT : w0.heap.size ≤ T) (hm : m < n) (hc : D[i]? = some c) (hn : c ≠ 64)
    (hr : ∀ W, Buf W r s D i → Calls Tryz.prog 108 #[.pointer (some ⟨r, 0, none⟩)] W (Gives2 fun x e W' => e = .nilIface ∧ (∃ a, x = .int .u32 a) ∧ At_ W W' r s D j)) :
    FieldU w0 r s D T n (.iface 143 (.pointer (some ⟨T, m, none⟩))) i j := by
  intro w hA hTA
  have H0 := Lib.hid (And.intro hA hTA)
  have HC := Lib.hid (And.intro hc hn)
  have HR := Lib.hid hr
  have HB := Lib.hid h0
  have HT := Lib.hid (And.intro hT hm)
  have hTr : T ≠ r := fun e => by have := h0.lt; omega
  have HTR := Lib.hid hTr
  clear hA hTA hc hn hr h0 hT hm hTr
  have f0 := fun W => ut_u32_0 (.pointer (some ⟨T, m, none⟩)) W
  have f1 := fun W => ut_u32_1 (.pointer (some ⟨T, m, none⟩)) W
  have f2 := fun W => ut_u32_2 (.pointer (some ⟨T, m, none⟩)) W
  have f3 := fun W => ut_u32_3 (.pointer (some ⟨T, m, none⟩)) W
  have f4 := fun W => ut_u32_4 (.pointer (some ⟨T, m, none⟩)) W
  have f5 := fun W => ut_u32_5 (.pointer (some ⟨T, m, none⟩)) W
  have fy := fun W => ut_u32_y (.pointer (some ⟨T, m, none⟩)) W
  go_enter Tryz.func95, Tryz.ntmps95
  go_wp2_with (first | (go_at_call 94; go_must (refine (tryReadNull_no r s D i _ c H0.out.1.buf HC.out.1 HC.out.2).mono ?_; rintro e w1 ⟨rfl, hA⟩; have H1 := Lib.hid (And.intro hA (H0.out.2.keep hA.kept HTR.out)); clear hA)) | (go_at_call 108; go_must (refine (HR.out _ H1.out.1.buf).mono ?_; rintro e w2 ⟨x, y, rfl, rfl, ⟨a, rfl⟩, hA⟩; have hta := H1.out.2.keep hA.kept HTR.out; have H2 := Lib.hid (And.intro hA hta); obtain ⟨u, hu⟩ := hta.cell HT.out.2; have hfz := hta.frozen m; clear hA hta)))
  go_ret
  exact ⟨_, rfl, rfl, ((H0.out.1.trans H1.out.1).trans H2.out.1).setNew HB.out HT.out.1 _, H2.out.2.set_ m _, ((H1.out.1.trans H2.out.1).kept.mono fun b _ hb => .inl hb).setCell (p := ⟨T, m, none⟩) (.inl (.inr rfl)) _⟩
theorem ut_u16_0 (v : Value) (W : World) : (Instr.typeAssert (.iface 131 v) 20 256 true).run Tryz.prog W = .ok (.tuple #[.pointer none, .bool false]) W := by kernel_rfl
theorem ut_u16_1 (v : Value) (W : World) : (Instr.typeAssert (.iface 131 v) 20 259 true).run Tryz.prog W = .ok (.tuple #[.pointer none, .bool false]) W := by kernel_rfl
theorem ut_u16_2 (v : Value) (W : World) : (Instr.typeAssert (.iface 131 v) 20 263 true).run Tryz.prog W = .ok (.tuple #[.pointer none, .bool false]) W := by kernel_rfl
theorem ut_u16_3 (v : Value) (W : World) : (Instr.typeAssert (.iface 131 v) 20 267 true).run Tryz.prog W = .ok (.tuple #[.pointer none, .bool false]) W := by kernel_rfl
theorem ut_u16_4 (v : Value) (W : World) : (Instr.typeAssert (.iface 131 v) 20 270 true).run Tryz.prog W = .ok (.tuple #[.pointer none, .bool false]) W := by kernel_rfl
theorem ut_u16_5 (v : Value) (W : World) : (Instr.typeAssert (.iface 131 v) 20 215 true).run Tryz.prog W = .ok (.tuple #[.pointer none, .bool false]) W := by kernel_rfl
theorem ut_u16_6 (v : Value) (W : World) : (Instr.typeAssert (.iface 131 v) 20 143 true).run Tryz.prog W = .ok (.tuple #[.pointer none, .bool false]) W := by kernel_rfl
theorem ut_u16_7 (v : Value) (W : World) : (Instr.typeAssert (.iface 131 v) 20 216 true).run Tryz.prog W = .ok (.tuple #[.pointer none, .bool false]) W := by kernel_rfl
theorem ut_u16_y (v : Value) (W : World) : (Instr.typeAssert (.iface 131 v) 20 131 true).run Tryz.prog W = .ok (.tuple #[v, .bool true]) W := by kernel_rfl
set_option maxRecDepth 1000000 in
set_option maxHeartbeats 8000000 in
theorem UnT_u16 (w0 : World) (r : Nat) (s : Value) (D : List UInt8) (i0 i j : Nat) (T n m : Nat) (c : UInt8) (h0 : Buf w0 r s D i0) (hT : w0.heap.size ≤ T) (hm : m < n) (hc : D[i]? = some c) (hn : c ≠ 64)
    (hr : ∀ W, Buf W r s D i → Calls Tryz.prog 109 #[.pointer (some ⟨r, 0, none⟩)] W (Gives2 fun x e W' => e = .nilIface ∧ (∃ a, x = .int .u16 a) ∧ At_ W W' r s D j)) :
    FieldU w0 r s D T n (.iface 131 (.pointer (some ⟨T, m, none⟩))) i j := by
  intro w hA hTA
  have H0 := Lib.hid (And.intro hA hTA)
  have HC := Lib.hid (And.intro hc hn)
  have HR := Lib.hid hr
  have HB := Lib.hid h0
  have HT := Lib.hid (And.intro hT hm)
  have hTr : T ≠ r := fun e => by have := h0.lt; omega
  have HTR := Lib.hid hTr
  clear hA hTA hc hn hr h0 hT hm hTr
  have f0 := fun W => ut_u16_0 (.pointer (some ⟨T, m, none⟩)) W
  have f1 := fun W => ut_u16_1 (.pointer (some ⟨T, m, none⟩)) W
  have f2 := fun W => ut_u16_2 (.pointer (some ⟨T, m, none⟩)) W
  have f3 := fun W => ut_u16_3 (.pointer (some ⟨T, m, none⟩)) W
  have f4 := fun W => ut_u16_4 (.pointer (some ⟨T, m, none⟩)) W
  have f5 := fun W => ut_u16_5 (.pointer (some ⟨T, m, none⟩)) W
  have f6 := fun W => ut_u16_6 (.pointer (some ⟨T, m, none⟩)) W
  have f7 := fun W => ut_u16_7 (.pointer (some ⟨T, m, none⟩)) W
  have fy := fun W => ut_u16_y (.pointer (some ⟨T, m, none⟩)) W
  go_enter Tryz.func95, Tryz.ntmps95
  go_wp2_with (first | (go_at_call 94; go_must (refine (tryReadNull_no r s D i _ c H0.out.1.buf HC.out.1 HC.out.2).mono ?_; rintro e w1 ⟨rfl, hA⟩; have H1 := Lib.hid (And.intro hA (H0.out.2.keep hA.kept HTR.out)); clear hA)) | (go_at_call 109; go_must (refine (HR.out _ H1.out.1.buf).mono ?_; rintro e w2 ⟨x, y, rfl, rfl, ⟨a, rfl⟩, hA⟩; have hta := H1.out.2.keep hA.kept HTR.out; have H2 := Lib.hid (And.intro hA hta); obtain ⟨u, hu⟩ := hta.cell HT.out.2; have hfz := hta.frozen m; clear hA hta)))
  go_ret
  exact ⟨_, rfl, rfl, ((H0.out.1.trans H1.out.1).trans H2.out.1).setNew HB.out HT.out.1 _, H2.out.2.set_ m _, ((H1.out.1.trans H2.out.1).kept.mono fun b _ hb => .inl hb).setCell (p := ⟨T, m, none⟩) (.inl (.inr rfl)) _⟩
theorem ut_str_0 (v : Value) (W : World) : (Instr.typeAssert (.iface 181 v) 20 256 true).run Tryz.prog W = .ok (.tuple #[.pointer none, .bool false]) W := by kernel_rfl
theorem ut_str_1 (v : Value) (W : World) : (Instr.typeAssert (.iface 181 v) 20 259 true).run Tryz.prog W = .ok (.tuple #[.pointer none, .bool false]) W := by kernel_rfl
theorem ut_str_2 (v : Value) (W : World) : (Instr.typeAssert (.iface 181 v) 20 263 true).run Tryz.prog W = .ok (.tuple #[.pointer none, .bool false]) W := by kernel_rfl
theorem ut_str_3 (v : Value) (W : World) : (Instr.typeAssert (.iface 181 v) 20 267 true).run Tryz.prog W = .ok (.tuple #[.pointer none, .bool false]) W := by kernel_rfl
theorem ut_str_4 (v : Value) (W : World) : (Instr.typeAssert (.iface 181 v) 20 270 true).run Tryz.prog W = .ok (.tuple #[.pointer none, .bool false]) W := by kernel_rfl
theorem ut_str_5 (v : Value) (W : World) : (Instr.typeAssert (.iface 181 v) 20 215 true).run Tryz.prog W = .ok (.tuple #[.pointer none, .bool false]) W := by kernel_rfl
theorem ut_str_6 (v : Value) (W : World) : (Instr.typeAssert (.iface 181 v) 20 143 true).run Tryz.prog W = .ok (.tuple #[.pointer none, .bool false]) W := by kernel_rfl
theorem ut_str_7 (v : Value) (W : World) : (Instr.typeAssert (.iface 181 v) 20 216 true).run Tryz.prog W = .ok (.tuple #[.pointer none, .bool false]) W := by kernel_rfl
theorem ut_str_8 (v : Value) (W : World) : (Instr.typeAssert (.iface 181 v) 20 131 true).run Tryz.prog W = .ok (.tuple #[.pointer none, .bool false]) W := by kernel_rfl
theorem ut_str_9 (v : Value) (W : World) : (Instr.typeAssert (.iface 181 v) 20 275 true).run Tryz.prog W = .ok (.tuple #[.pointer none, .bool false]) W := by kernel_rfl
theorem ut_str_10 (v : Value) (W : World) : (Instr.typeAssert (.iface 181 v) 20 278 true).run Tryz.prog W = .ok (.tuple #[.pointer none, .bool false]) W := by kernel_rfl
theorem ut_str_11 (v : Value) (W : World) : (Instr.typeAssert (.iface 181 v) 20 282 true).run Tryz.prog W = .ok (.tuple #[.pointer none, .bool false]) W := by kernel_rfl
theorem ut_str_y (v : Value) (W : World) : (Instr.typeAssert (.iface 181 v) 20 181 true).run Tryz.prog W = .ok (.tuple #[v, .bool true]) W := by kernel_rfl
set_option maxRecDepth 1000000 in
set_option maxHeartbeats 8000000 in
theorem UnT_str (w0 : World) (r : Nat) (s : Value) (D : List UInt8) (i0 i j : Nat) (T n m : Nat) (c : UInt8) (h0 : Buf w0 r s D i0) (hT : w0.heap.size ≤ T) (hm : m < n) (hc : D[i]? = some c) (hn : c ≠ 64)
    (hr : ∀ W, Buf W r s D i → Calls Tryz.prog 113 #[.pointer (some ⟨r, 0, none⟩)] W (Gives2 fun x e W' => e = .nilIface ∧ (∃ a, x = .string a) ∧ At_ W W' r s D j)) :
    FieldU w0 r s D T n (.iface 181 (.pointer (some ⟨T, m, none⟩))) i j := by
  intro w hA hTA
  have H0 := Lib.hid (And.intro hA hTA)
  have HC := Lib.hid (And.intro hc hn)
  have HR := Lib.hid hr
  have HB := Lib.hid h0
  have HT := Lib.hid (And.intro hT hm)
  have hTr : T ≠ r := fun e => by have := h0.lt; omega
  have HTR := Lib.hid hTr
  clear hA hTA hc hn hr h0 hT hm hTr
  have f0 := fun W => ut_str_0 (.pointer (some ⟨T, m, none⟩)) W
  have f1 := fun W => ut_str_1 (.pointer (some ⟨T, m, none⟩)) W
  have f2 := fun W => ut_str_2 (.pointer (some ⟨T, m, none⟩)) W
  have f3 := fun W => ut_str_3 (.pointer (some ⟨T, m, none⟩)) W
  have f4 := fun W => ut_str_4 (.pointer (some ⟨T, m, none⟩)) W
  have f5 := fun W => ut_str_5 (.pointer (some ⟨T, m, none⟩)) W
  have f6 := fun W => ut_str_6 (.pointer (some ⟨T, m, none⟩)) W
  have f7 := fun W => ut_str_7 (.pointer (some ⟨T, m, none⟩)) W
  have f8 := fun W => ut_str_8 (.pointer (some ⟨T, m, none⟩)) W
  have f9 := fun W => ut_str_9 (.pointer (some ⟨T, m, none⟩)) W
  have f10 := fun W => ut_str_10 (.pointer (some ⟨T, m, none⟩)) W
  have f11 := fun W => ut_str_11 (.pointer (some ⟨T, m, none⟩)) W
  have fy := fun W => ut_str_y (.pointer (some ⟨T, m, none⟩)) W
  go_enter Tryz.func95, Tryz.ntmps95
  go_wp2_with (first | (go_at_call 94; go_must (refine (tryReadNull_no r s D i _ c H0.out.1.buf HC.out.1 HC.out.2).mono ?_; rintro e w1 ⟨rfl, hA⟩; have H1 := Lib.hid (And.intro hA (H0.out.2.keep hA.kept HTR.out)); clear hA)) | (go_at_call 113; go_must (refine (HR.out _ H1.out.1.buf).mono ?_; rintro e w2 ⟨x, y, rfl, rfl, ⟨a, rfl⟩, hA⟩; have hta := H1.out.2.keep hA.kept HTR.out; have H2 := Lib.hid (And.intro hA hta); obtain ⟨u, hu⟩ := hta.cell HT.out.2; have hfz := hta.frozen m; clear hA hta)))
  go_ret
  exact ⟨_, rfl, rfl, ((H0.out.1.trans H1.out.1).trans H2.out.1).setNew HB.out HT.out.1 _, H2.out.2.set_ m _, ((H1.out.1.trans H2.out.1).kept.mono fun b _ hb => .inl hb).setCell (p := ⟨T, m, none⟩) (.inl (.inr rfl)) _⟩
theorem ut_bin_0 (v : Value) (W : World) : (Instr.typeAssert (.iface 217 v) 20 256 true).run Tryz.prog W = .ok (.tuple #[.pointer none, .bool false]) W := by kernel_rfl
theorem ut_bin_1 (v : Value) (W : World) : (Instr.typeAssert (.iface 217 v) 20 259 true).run Tryz.prog W = .ok (.tuple #[.pointer none, .bool false]) W := by kernel_rfl
theorem ut_bin_2 (v : Value) (W : World) : (Instr.typeAssert (.iface 217 v) 20 263 true).run Tryz.prog W = .ok (.tuple #[.pointer none, .bool false]) W := by kernel_rfl
theorem ut_bin_3 (v : Value) (W : World) : (Instr.typeAssert (.iface 217 v) 20 267 true).run Tryz.prog W = .ok (.tuple #[.pointer none, .bool false]) W := by kernel_rfl
theorem ut_bin_4 (v : Value) (W : World) : (Instr.typeAssert (.iface 217 v) 20 270 true).run Tryz.prog W = .ok (.tuple #[.pointer none, .bool false]) W := by kernel_rfl
theorem ut_bin_5 (v : Value) (W : World) : (Instr.typeAssert (.iface 217 v) 20 215 true).run Tryz.prog W = .ok (.tuple #[.pointer none, .bool false]) W := by kernel_rfl
theorem ut_bin_6 (v : Value) (W : World) : (Instr.typeAssert (.iface 217 v) 20 143 true).run Tryz.prog W = .ok (.tuple #[.pointer none, .bool false]) W := by kernel_rfl
theorem ut_bin_7 (v : Value) (W : World) : (Instr.typeAssert (.iface 217 v) 20 216 true).run Tryz.prog W = .ok (.tuple #[.pointer none, .bool false]) W := by kernel_rfl
theorem ut_bin_8 (v : Value) (W : World) : (Instr.typeAssert (.iface 217 v) 20 131 true).run Tryz.prog W = .ok (.tuple #[.pointer none, .bool false]) W := by kernel_rfl
theorem ut_bin_9 (v : Value) (W : World) : (Instr.typeAssert (.iface 217 v) 20 275 true).run Tryz.prog W = .ok (.tuple #[.pointer none, .bool false]) W := by kernel_rfl
theorem ut_bin_10 (v : Value) (W : World) : (Instr.typeAssert (.iface 217 v) 20 278 true).run Tryz.prog W = .ok (.tuple #[.pointer none, .bool false]) W := by kernel_rfl
theorem ut_bin_11 (v : Value) (W : World) : (Instr.typeAssert (.iface 217 v) 20 282 true).run Tryz.prog W = .ok (.tuple #[.pointer none, .bool false]) W := by kernel_rfl
theorem ut_bin_12 (v : Value) (W : World) : (Instr.typeAssert (.iface 217 v) 20 181 true).run Tryz.prog W = .ok (.tuple #[.pointer none, .bool false]) W := by kernel_rfl
theorem ut_bin_13 (v : Value) (W : World) : (Instr.typeAssert (.iface 217 v) 20 288 true).run Tryz.prog W = .ok (.tuple #[.pointer none, .bool false]) W := by kernel_rfl
theorem ut_bin_y (v : Value) (W : World) : (Instr.typeAssert (.iface 217 v) 20 217 true).run Tryz.prog W = .ok (.tuple #[v, .bool true]) W := by kernel_rfl
set_option maxRecDepth 1000000 in
set_option maxHeartbeats 8000000 in
theorem UnT_bin (w0 : World) (r : Nat) (s : Value) (D : List UInt8) (i0 i j : Nat) (T n m : Nat) (c : UInt8) (h0 : Buf w0 r s D i0) (hT : w0.heap.size ≤ T) (hm : m < n) (hc : D[i]? = some c) (hn : c ≠ 64)
    (hr : ∀ W, Buf W r s D i → Calls Tryz.prog 114 #[.pointer (some ⟨r, 0, none⟩)] W (Gives2 fun x e W' => e = .nilIface ∧ (∃ a b d, x = .slice a b d) ∧ At_ W W' r s D j)) :
    FieldU w0 r s D T n (.iface 217 (.pointer (some ⟨T, m, none⟩))) i j := by
  intro w hA hTA
  have H0 := Lib.hid (And.intro hA hTA)
  have HC := Lib.hid (And.intro hc hn)
  have HR := Lib.hid hr
  have HB := Lib.hid h0
  have HT := Lib.hid (And.intro hT hm)
  have hTr : T ≠ r := fun e => by have := h0.lt; omega
  have HTR := Lib.hid hTr
  clear hA hTA hc hn hr h0 hT hm hTr
  have f0 := fun W => ut_bin_0 (.pointer (some ⟨T, m, none⟩)) W
  have f1 := fun W => ut_bin_1 (.pointer (some ⟨T, m, none⟩)) W
  have f2 := fun W => ut_bin_2 (.pointer (some ⟨T, m, none⟩)) W
  have f3 := fun W => ut_bin_3 (.pointer (some ⟨T, m, none⟩)) W
  have f4 := fun W => ut_bin_4 (.pointer (some ⟨T, m, none⟩)) W
  have f5 := fun W => ut_bin_5 (.pointer (some ⟨T, m, none⟩)) W
  have f6 := fun W => ut_bin_6 (.pointer (some ⟨T, m, none⟩)) W
  have f7 := fun W => ut_bin_7 (.pointer (some ⟨T, m, none⟩)) W
  have f8 := fun W => ut_bin_8 (.pointer (some ⟨T, m, none⟩)) W
  have f9 := fun W => ut_bin_9 (.pointer (some ⟨T, m, none⟩)) W
  have f10 := fun W => ut_bin_10 (.pointer (some ⟨T, m, none⟩)) W
  have f11 := fun W => ut_bin_11 (.pointer (some ⟨T, m, none⟩)) W
  have f12 := fun W => ut_bin_12 (.pointer (some ⟨T, m, none⟩)) W
  have f13 := fun W => ut_bin_13 (.pointer (some ⟨T, m, none⟩)) W
  have fy := fun W => ut_bin_y (.pointer (some ⟨T, m, none⟩)) W
  go_enter Tryz.func95, Tryz.ntmps95
  go_wp2_with (first | (go_at_call 94; go_must (refine (tryReadNull_no r s D i _ c H0.out.1.buf HC.out.1 HC.out.2).mono ?_; rintro e w1 ⟨rfl, hA⟩; have H1 := Lib.hid (And.intro hA (H0.out.2.keep hA.kept HTR.out)); clear hA)) | (go_at_call 114; go_must (refine (HR.out _ H1.out.1.buf).mono ?_; rintro e w2 ⟨x, y, rfl, rfl, ⟨a, b, d, rfl⟩, hA⟩; have hta := H1.out.2.keep hA.kept HTR.out; have H2 := Lib.hid (And.intro hA hta); obtain ⟨u, hu⟩ := hta.cell HT.out.2; have hfz := hta.frozen m; clear hA hta)))
  go_ret
  exact ⟨_, rfl, rfl, ((H0.out.1.trans H1.out.1).trans H2.out.1).setNew HB.out HT.out.1 _, H2.out.2.set_ m _, ((H1.out.1.trans H2.out.1).kept.mono fun b _ hb => .inl hb).setCell (p := ⟨T, m, none⟩) (.inl (.inr rfl)) _⟩
end Go.Proofs.YtbckofjoancdjaaGreatDoor
