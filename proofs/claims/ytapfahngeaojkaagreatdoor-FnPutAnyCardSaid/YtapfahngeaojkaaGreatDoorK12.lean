/- Package msgp: AppendArrayHeader, AppendMapHeader, AppendFloat32, AppendFloat64: the bytes that they append. -/
import Derived.Laws.Externs
import Derived.Test.YtapfahngeaojkaaGreatDoorK11
namespace Go.Proofs.YtapfahngeaojkaaGreatDoor
open Go Go.RowKit Go.Lib
theorem f32bits_run (n : Nat) (w : World) : (callFunc 53 #[.float .f32 n]).run Tryz.prog w = .ok (.value (.int .u32 n)) w :=
  (run_callFunc_extern (e := Extern.MathFloatBits.float32bits) Tryz.func53 (by kernel_rfl) (by kernel_rfl) (by kernel_rfl) (by kernel_rfl) #[.float .f32 n] w).trans rfl
theorem f32frombits_run (n : Nat) (w : World) : (callFunc 21 #[.int .u32 n]).run Tryz.prog w = .ok (.value (.float .f32 n)) w :=
  (run_callFunc_extern (e := Extern.MathFloatBits.float32frombits) Tryz.func21 (by kernel_rfl) (by kernel_rfl) (by kernel_rfl) (by kernel_rfl) #[.int .u32 n] w).trans rfl
theorem f64bits_run (n : Nat) (w : World) : (callFunc 55 #[.float .f64 n]).run Tryz.prog w = .ok (.value (.int .u64 n)) w :=
  (run_callFunc_extern (e := Extern.MathFloatBits.float64bits) Tryz.func55 (by kernel_rfl) (by kernel_rfl) (by kernel_rfl) (by kernel_rfl) #[.float .f64 n] w).trans rfl
theorem f64frombits_run (n : Nat) (w : World) : (callFunc 22 #[.int .u64 n]).run Tryz.prog w = .ok (.value (.float .f64 n)) w :=
  (run_callFunc_extern (e := Extern.MathFloatBits.float64frombits) Tryz.func22 (by kernel_rfl) (by kernel_rfl) (by kernel_rfl) (by kernel_rfl) #[.int .u64 n] w).trans rfl
set_option maxRecDepth 100000 in
set_option maxHeartbeats 1600000 in
theorem AppendArrayH_fix (M : Nat → Prop) (w : World) (v : Value) (bs : List UInt8) (n : Nat) (h1 : n < 16) (hv : BRow M w v bs) (hl : bs.length ≤ 549755813888) (hb : ∀ k, w.heap.size ≤ k → M k) :
    Calls Tryz.prog 46 #[v, .int .u32 n] w (AppP M bs [UInt8.ofNat (0x90 + n)] w) := by
  have HV := Lib.hid (And.intro hv (And.intro hl hb))
  clear hv hl hb
  have t1 : (n : Int) ≤ 15 := by omega
  go_enter Tryz.func46, Tryz.ntmps46
  go_wp2_with (first | (go_at_call 80; go_must (refine (wfixarray_ok _ n (by omega)).mono ?_; rintro e w1 ⟨rfl, hk1⟩; have HK := Lib.hid hk1; clear hk1)) | (at_builtin; go_must (refine wpList_app1 rfl _ _ rfl M v bs _ rfl rfl (HV.out.1.nope HK.out) HV.out.2.1 (fun k h => HV.out.2.2 k (Nat.le_trans HK.out.size h)) (UInt8.ofNat (0x90 + n)) (u8v (by omega)) ?_; intro v' W H1)))
  go_ret
  exact ⟨_, rfl, H1.out.1, HK.out.nope.trans' H1.out.2⟩
set_option maxRecDepth 100000 in
set_option maxHeartbeats 1600000 in
theorem AppendArrayH_16 (M : Nat → Prop) (w : World) (v : Value) (bs : List UInt8) (n : Nat) (h0 : 15 < n) (h1 : n ≤ 65535) (hv : BRow M w v bs) (hl : bs.length ≤ 549755813888) (hb : ∀ k, w.heap.size ≤ k → M k) :
    Calls Tryz.prog 46 #[v, .int .u32 n] w (AppP M bs (UInt8.ofNat 0xdc :: be 2 n) w) := by
  have HV := Lib.hid (And.intro hv (And.intro hl hb))
  clear hv hl hb
  have t1 : ¬ (n : Int) ≤ 15 := by omega
  have t2 : (n : Int) ≤ 65535 := by omega
  go_enter Tryz.func46, Tryz.ntmps46
  go_wp2_with (first | (go_at_call 49; go_must (refine (ensure_n M _ _ bs 3 HV.out.1 (by omega) (by omega) HV.out.2.1 HV.out.2.2).mono ?_; rintro e w1 ⟨n1, g, cap, cur, rfl, hcn, hn1, H1⟩)) | (go_at_call 59; go_must (refine (prefixu16_ok _ g n1 _ _ cur H1.out.2.1.blk (by omega) H1.out.2.1.fit 0xdc n (by omega) (by omega)).mono ?_; rintro e w2 ⟨rfl, hk2, hp2⟩; have H2 := Lib.hid (And.intro hk2 hp2); clear hk2 hp2)))
  go_ret
  exact app_done H1 H2 (by simp)
set_option maxRecDepth 100000 in
set_option maxHeartbeats 1600000 in
theorem AppendMapH_fix (M : Nat → Prop) (w : World) (v : Value) (bs : List UInt8) (n : Nat) (h1 : n < 16) (hv : BRow M w v bs) (hl : bs.length ≤ 549755813888) (hb : ∀ k, w.heap.size ≤ k → M k) :
    Calls Tryz.prog 74 #[v, .int .u32 n] w (AppP M bs [UInt8.ofNat (0x80 + n)] w) := by
  have HV := Lib.hid (And.intro hv (And.intro hl hb))
  clear hv hl hb
  have t1 : (n : Int) ≤ 15 := by omega
  go_enter Tryz.func74, Tryz.ntmps74
  go_wp2_with (first | (go_at_call 81; go_must (refine (wfixmap_ok _ n (by omega)).mono ?_; rintro e w1 ⟨rfl, hk1⟩; have HK := Lib.hid hk1; clear hk1)) | (at_builtin; go_must (refine wpList_app1 rfl _ _ rfl M v bs _ rfl rfl (HV.out.1.nope HK.out) HV.out.2.1 (fun k h => HV.out.2.2 k (Nat.le_trans HK.out.size h)) (UInt8.ofNat (0x80 + n)) (u8v (by omega)) ?_; intro v' W H1)))
  go_ret
  exact ⟨_, rfl, H1.out.1, HK.out.nope.trans' H1.out.2⟩
set_option maxRecDepth 100000 in
set_option maxHeartbeats 1600000 in
theorem AppendMapH_16 (M : Nat → Prop) (w : World) (v : Value) (bs : List UInt8) (n : Nat) (h0 : 15 < n) (h1 : n ≤ 65535) (hv : BRow M w v bs) (hl : bs.length ≤ 549755813888) (hb : ∀ k, w.heap.size ≤ k → M k) :
    Calls Tryz.prog 74 #[v, .int .u32 n] w (AppP M bs (UInt8.ofNat 0xde :: be 2 n) w) := by
  have HV := Lib.hid (And.intro hv (And.intro hl hb))
  clear hv hl hb
  have t1 : ¬ (n : Int) ≤ 15 := by omega
  have t2 : (n : Int) ≤ 65535 := by omega
  go_enter Tryz.func74, Tryz.ntmps74
  go_wp2_with (first | (go_at_call 49; go_must (refine (ensure_n M _ _ bs 3 HV.out.1 (by omega) (by omega) HV.out.2.1 HV.out.2.2).mono ?_; rintro e w1 ⟨n1, g, cap, cur, rfl, hcn, hn1, H1⟩)) | (go_at_call 59; go_must (refine (prefixu16_ok _ g n1 _ _ cur H1.out.2.1.blk (by omega) H1.out.2.1.fit 0xde n (by omega) (by omega)).mono ?_; rintro e w2 ⟨rfl, hk2, hp2⟩; have H2 := Lib.hid (And.intro hk2 hp2); clear hk2 hp2)))
  go_ret
  exact app_done H1 H2 (by simp)
set_option maxRecDepth 100000 in
set_option maxHeartbeats 1600000 in
theorem AppendFloat32_ok (M : Nat → Prop) (w : World) (v : Value) (bs : List UInt8) (n : Nat) (h1 : n < 256 ^ 4) (hv : BRow M w v bs) (hl : bs.length ≤ 549755813888) (hb : ∀ k, w.heap.size ≤ k → M k) :
    Calls Tryz.prog 27 #[v, .float .f32 n] w (AppP M bs (UInt8.ofNat 0xca :: be 4 n) w) := by
  have HV := Lib.hid (And.intro hv (And.intro hl hb))
  clear hv hl hb
  have hfl := fun W => f32bits_run n W
  go_enter Tryz.func27, Tryz.ntmps27
  go_wp2_with (go_at_call 49; go_must (refine (ensure_n M _ _ bs 5 HV.out.1 (by omega) (by omega) HV.out.2.1 HV.out.2.2).mono ?_; rintro e w1 ⟨n1, g, cap, cur, rfl, hcn, hn1, H1⟩))
  have hf := H1.out.2.1.room
  have f0 : (0 : Int) ≤ (n1 : Int) := by omega
  have f1 : (n1 : Int) ≤ (n1 : Int) + 5 := by omega
  have f2 : (n1 : Int) ≤ (cap : Int) := by omega
  have f3 : n1 ≤ cap := by omega
  have f4 : n1 ≤ n1 + 5 := by omega
  have f5 : (n1 : Int) + 5 ≤ (cap : Int) := by omega
  have HD := Lib.hid (And.intro H1.out.1 (And.intro (H1.out.2.1.keep ((Kept.refl Nope w1).drew)) (H1.out.2.2.drew)))
  go_wp2_with (go_region_with (go_at_call 52; go_must (refine (prefixu32_ok _ g n1 _ _ cur HD.out.2.1.blk (by omega) HD.out.2.1.fit 0xca n (by omega) (by omega)).mono ?_; rintro e w2 ⟨rfl, hk2, hp2⟩; have H2 := Lib.hid (And.intro hk2 hp2); clear hk2 hp2)))
  all_goals
    go_ret
    exact app_done HD H2 (by simp)
set_option maxRecDepth 100000 in
set_option maxHeartbeats 1600000 in
theorem AppendFloat64_ok (M : Nat → Prop) (w : World) (v : Value) (bs : List UInt8) (n : Nat) (h1 : n < 256 ^ 8) (hv : BRow M w v bs) (hl : bs.length ≤ 549755813888) (hb : ∀ k, w.heap.size ≤ k → M k) :
    Calls Tryz.prog 28 #[v, .float .f64 n] w (AppP M bs (UInt8.ofNat 0xcb :: be 8 n) w) := by
  have HV := Lib.hid (And.intro hv (And.intro hl hb))
  clear hv hl hb
  have hfl := fun W => f64bits_run n W
  go_enter Tryz.func28, Tryz.ntmps28
  go_wp2_with (go_at_call 49; go_must (refine (ensure_n M _ _ bs 9 HV.out.1 (by omega) (by omega) HV.out.2.1 HV.out.2.2).mono ?_; rintro e w1 ⟨n1, g, cap, cur, rfl, hcn, hn1, H1⟩))
  have hf := H1.out.2.1.room
  have f0 : (0 : Int) ≤ (n1 : Int) := by omega
  have f1 : (n1 : Int) ≤ (n1 : Int) + 9 := by omega
  have f2 : (n1 : Int) ≤ (cap : Int) := by omega
  have f3 : n1 ≤ cap := by omega
  have f4 : n1 ≤ n1 + 9 := by omega
  have f5 : (n1 : Int) + 9 ≤ (cap : Int) := by omega
  have HD := Lib.hid (And.intro H1.out.1 (And.intro (H1.out.2.1.keep ((Kept.refl Nope w1).drew)) (H1.out.2.2.drew)))
  go_wp2_with (go_region_with (go_at_call 54; go_must (refine (prefixu64_ok _ g n1 _ _ cur HD.out.2.1.blk (by omega) HD.out.2.1.fit 0xcb n (by omega) (by omega)).mono ?_; rintro e w2 ⟨rfl, hk2, hp2⟩; have H2 := Lib.hid (And.intro hk2 hp2); clear hk2 hp2)))
  all_goals
    go_ret
    exact app_done HD H2 (by simp)
end Go.Proofs.YtapfahngeaojkaaGreatDoor
