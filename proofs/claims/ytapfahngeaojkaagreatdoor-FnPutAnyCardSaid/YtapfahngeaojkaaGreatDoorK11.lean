/- Package msgp: AppendNil, AppendBool, AppendInt64, AppendUint64: the bytes that they append. -/
import Derived.Test.YtapfahngeaojkaaGreatDoorK10
import Derived.Test.YtapfahngeaojkaaGreatDoorK9
namespace Go.Proofs.YtapfahngeaojkaaGreatDoor
open Go Go.RowKit Go.Lib
def AppP (M : Nat → Prop) (bs ds : List UInt8) (w : World) : Ending → World → Prop := fun e w' => ∃ x', e = .returned x' ∧ BRow M w' x' (bs ++ ds) ∧ Kept M w w'
def AppQ (M : Nat → Prop) (bs : List UInt8) (R : List UInt8 → Prop) (w : World) : Ending → World → Prop := fun e w' => ∃ x' ds, e = .returned x' ∧ R ds ∧ BRow M w' x' (bs ++ ds) ∧ Kept M w w'
theorem AppP.q {M : Nat → Prop} {bs ds : List UInt8} {w w' : World} {e : Ending} {R : List UInt8 → Prop} (h : AppP M bs ds w e w') (hR : R ds) : AppQ M bs R w e w' := by
  obtain ⟨x', h1, h2, h3⟩ := h
  exact ⟨x', ds, h1, hR, h2, h3⟩
def EnsN (M : Nat → Prop) (bs : List UInt8) (sz : Nat) (w : World) : Ending → World → Prop := fun e w' => ∃ (n g cap : Nat) (cur : Array Value), e = .returned (.tuple #[.slice (some ⟨g, 0, none⟩) (n + sz) cap, .int .i64 n]) ∧ ¬ cap = n ∧ n ≤ 549755813888 ∧ Hid (bs.length = n ∧ Wide M w' g cap (n + sz) cur bs ∧ Kept M w w')
theorem ensure_n (M : Nat → Prop) (w : World) (v : Value) (bs : List UInt8) (sz : Nat) (hv : BRow M w v bs) (hsz : 1 ≤ sz) (hs2 : sz ≤ 549755813888) (hl : bs.length ≤ 549755813888) (hb : ∀ k, w.heap.size ≤ k → M k) :
    Calls Tryz.prog 49 #[v, .int .i64 sz] w (EnsN M bs sz w) := by
  refine (ensure_ok M w v bs sz hv hsz (by omega) hb).mono ?_
  rintro e w' ⟨g, cap, cur, rfl, hw, hk⟩
  exact ⟨_, g, cap, cur, rfl, by have := hw.room; omega, hl, Lib.hid ⟨rfl, hw, hk⟩⟩
theorem Wide.fit {M : Nat → Prop} {w : World} {g cap m : Nat} {cur : Array Value} {bs : List UInt8} (h : Wide M w g cap m cur bs) : m ≤ cur.size := by rw [h.size]; exact h.room
theorem app_done {M : Nat → Prop} {n g cap sz : Nat} {cur : Array Value} {bs ds : List UInt8} {w w1 w2 : World} (H1 : Hid (bs.length = n ∧ Wide M w1 g cap (n + sz) cur bs ∧ Kept M w w1))
    (H2 : Hid (Kept (Only g) w1 w2 ∧ ∃ cur', Blk w2 g 5 cur' ∧ cur'.size = cur.size ∧ cur'.toList.take (n + ds.length) = cur.toList.take n ++ ds.map u8)) (hd : ds.length = sz) : AppP M bs ds w (.returned (.slice (some ⟨g, 0, none⟩) (n + sz) cap)) w2 := by
  obtain ⟨hn, hw, hk⟩ := H1.out
  obtain ⟨hk2, cur', hb2, hs2, ht2⟩ := H2.out
  subst hn
  have hw2 := (hw.put hb2 hs2 ht2 (by omega)).row
  rw [List.length_append, hd] at hw2
  exact ⟨_, rfl, hw2, hk.trans hk2 fun b _ e => by have e' : b = g := e; subst e'; exact hw.ge⟩
theorem wpList_app1 {ops : Array Oper} {rest : List Oper} {o : Oper} {a : Act} {w : World} {Q : Exit → Act → World → Prop} (hgd : o.guard = none) (s x : Operand) (ho : o.op = .call { callee := .builtin .append, args := #[s, x], argTypes := #[22, 22] })
    (M : Nat → Prop) (v : Value) (bs : List UInt8) (n : Int) (hs : a.eval s = v) (hx : a.eval x = .slice (some ⟨w.heap.size, 0, none⟩) 1 1) (hown : BRow M w v bs) (hl : bs.length ≤ 549755813888) (hb : ∀ k, w.heap.size ≤ k → M k) (b : UInt8) (hn : Value.int .u8 n = u8 b)
    (h : ∀ v' W, Hid (BRow M W v' (bs ++ [b]) ∧ Kept M w W) → wpList Tryz.prog ops Q rest (a.put o.dst v') W) : wpList Tryz.prog ops Q (o :: rest) a (w.alloc (.cells #[.int .u8 n] 5)) := by
  obtain ⟨i1, hi, hz0, hz1, hz2⟩ := info_parts info_u8
  have hk := (Kept.refl Nope w).alloc (.cells #[.int .u8 n] 5)
  have hC : CSl Any_ (w.alloc (.cells #[.int .u8 n] 5)) 1 (.slice (some ⟨w.heap.size, 0, none⟩) 1 1) 1 [u8 b] := by
    refine ⟨rfl, _, 1, rfl, Nat.le_refl _, by decide, .inr ⟨w.heap.size, 0, rfl, trivial, fun j u hu => ?_⟩⟩
    rw [(Blk.new w 5 #[.int .u8 n]).cell, Nat.zero_add, hn]
    simpa using hu
  refine wpList_append_c _ hgd s x 22 ho 0 5 i1 _ 1 1 Tryz.underlying22 hi hz0 hz1 hz2 rfl (by omega) v bs.length (bs.map u8) hs (hown.nope hk).1 Any_ _ 1 [u8 b] hx hC (by intro u hu; rw [List.mem_singleton.1 hu]; rfl) (by unfold maxLen; omega) (by omega) (Nat.zero_le _) fun v' w' h1 h2 h3 => h v' w' (Lib.hid ⟨?_, ?_⟩)
  · refine ⟨by rw [List.length_append, List.map_append]; exact h1, fun k e => ?_⟩
    rcases h3 with h3 | h3
    · exact hown.2 k (h3.symm.trans e)
    · have e' := h3.symm.trans e
      injection e' with e'
      exact hb k (by rw [← e']; exact hk.size)
  · have hg : Kept (fun k => v.ownBlock = some k) (w.alloc (.cells #[.int .u8 n] 5)) w' := ⟨h2.os, h2.tape, h2.output, h2.size, fun k hk' hn' => h2.block k hk' (fun e => hn' e.symm)⟩
    exact hk.nope.trans hg fun k _ e => hown.2 k e
set_option maxRecDepth 100000 in
set_option maxHeartbeats 1600000 in
theorem AppendNil_ok (M : Nat → Prop) (w : World) (v : Value) (bs : List UInt8)  (hv : BRow M w v bs) (hl : bs.length ≤ 549755813888) (hb : ∀ k, w.heap.size ≤ k → M k) :
    Calls Tryz.prog 24 #[v] w (AppP M bs [0xc0] w) := by
  have HV := Lib.hid (And.intro hv (And.intro hl hb))
  clear hv hl hb
  go_enter Tryz.func24, Tryz.ntmps24
  go_wp2_with (at_builtin; go_must (refine wpList_app1 rfl _ _ rfl M v bs _ rfl rfl HV.out.1 HV.out.2.1 HV.out.2.2 (0xc0) (rfl) ?_; intro v' W H1))
  go_ret
  exact ⟨_, rfl, H1.out.1, H1.out.2⟩
set_option maxRecDepth 100000 in
set_option maxHeartbeats 1600000 in
theorem AppendBool_1 (M : Nat → Prop) (w : World) (v : Value) (bs : List UInt8)  (hv : BRow M w v bs) (hl : bs.length ≤ 549755813888) (hb : ∀ k, w.heap.size ≤ k → M k) :
    Calls Tryz.prog 26 #[v, .bool true] w (AppP M bs [0xc3] w) := by
  have HV := Lib.hid (And.intro hv (And.intro hl hb))
  clear hv hl hb
  go_enter Tryz.func26, Tryz.ntmps26
  go_wp2_with (at_builtin; go_must (refine wpList_app1 rfl _ _ rfl M v bs _ rfl rfl HV.out.1 HV.out.2.1 HV.out.2.2 (0xc3) (rfl) ?_; intro v' W H1))
  go_ret
  exact ⟨_, rfl, H1.out.1, H1.out.2⟩
set_option maxRecDepth 100000 in
set_option maxHeartbeats 1600000 in
theorem AppendBool_0 (M : Nat → Prop) (w : World) (v : Value) (bs : List UInt8)  (hv : BRow M w v bs) (hl : bs.length ≤ 549755813888) (hb : ∀ k, w.heap.size ≤ k → M k) :
    Calls Tryz.prog 26 #[v, .bool false] w (AppP M bs [0xc2] w) := by
  have HV := Lib.hid (And.intro hv (And.intro hl hb))
  clear hv hl hb
  go_enter Tryz.func26, Tryz.ntmps26
  go_wp2_with (at_builtin; go_must (refine wpList_app1 rfl _ _ rfl M v bs _ rfl rfl HV.out.1 HV.out.2.1 HV.out.2.2 (0xc2) (rfl) ?_; intro v' W H1))
  go_ret
  exact ⟨_, rfl, H1.out.1, H1.out.2⟩
set_option maxRecDepth 100000 in
set_option maxHeartbeats 1600000 in
theorem AppendInt_fix (M : Nat → Prop) (w : World) (v : Value) (bs : List UInt8) (N : Nat) (h1 : N ≤ 127) (hv : BRow M w v bs) (hl : bs.length ≤ 549755813888) (hb : ∀ k, w.heap.size ≤ k → M k) :
    Calls Tryz.prog 36 #[v, .int .i64 N] w (AppP M bs [UInt8.ofNat N] w) := by
  have HV := Lib.hid (And.intro hv (And.intro hl hb))
  clear hv hl hb
  have t1 : (N : Int) ≤ 127 := by omega
  go_enter Tryz.func36, Tryz.ntmps36
  go_wp2_with (first | (go_at_call 60; go_must (refine (wfixint_ok _ N (by omega)).mono ?_; rintro e w1 ⟨rfl, hk1⟩; have HK := Lib.hid hk1; clear hk1)) | (at_builtin; go_must (refine wpList_app1 rfl _ _ rfl M v bs _ rfl rfl (HV.out.1.nope HK.out) HV.out.2.1 (fun k h => HV.out.2.2 k (Nat.le_trans HK.out.size h)) (UInt8.ofNat N) (u8v (by omega)) ?_; intro v' W H1)))
  go_ret
  exact ⟨_, rfl, H1.out.1, HK.out.nope.trans' H1.out.2⟩
set_option maxRecDepth 100000 in
set_option maxHeartbeats 1600000 in
theorem AppendInt_p16 (M : Nat → Prop) (w : World) (v : Value) (bs : List UInt8) (i : Int) (N : Nat) (hN : (N : Int) = i ∨ (N : Int) = i + 18446744073709551616) (h0 : 127 < i) (h1 : i ≤ 32767) (hv : BRow M w v bs) (hl : bs.length ≤ 549755813888) (hb : ∀ k, w.heap.size ≤ k → M k) :
    Calls Tryz.prog 36 #[v, .int .i64 i] w (AppP M bs (UInt8.ofNat 0xd1 :: be 2 N) w) := by
  have HV := Lib.hid (And.intro hv (And.intro hl hb))
  clear hv hl hb
  have t0 : 0 ≤ i := by omega
  have t1 : ¬ i ≤ 127 := by omega
  go_enter Tryz.func36, Tryz.ntmps36
  go_wp2_with (first | (go_at_call 49; go_must (refine (ensure_n M _ _ bs 3 HV.out.1 (by omega) (by omega) HV.out.2.1 HV.out.2.2).mono ?_; rintro e w1 ⟨n1, g, cap, cur, rfl, hcn, hn1, H1⟩)) | (go_at_call 61; go_must (refine (putMint16_ok _ g n1 _ _ cur H1.out.2.1.blk (by omega) H1.out.2.1.fit i N (by omega) (by omega) hN).mono ?_; rintro e w2 ⟨rfl, hk2, hp2⟩; have H2 := Lib.hid (And.intro hk2 hp2); clear hk2 hp2)))
  go_ret
  exact app_done H1 H2 (by simp)
set_option maxRecDepth 100000 in
set_option maxHeartbeats 1600000 in
theorem AppendInt_p32 (M : Nat → Prop) (w : World) (v : Value) (bs : List UInt8) (i : Int) (N : Nat) (hN : (N : Int) = i ∨ (N : Int) = i + 18446744073709551616) (h0 : 32767 < i) (h1 : i ≤ 2147483647) (hv : BRow M w v bs) (hl : bs.length ≤ 549755813888) (hb : ∀ k, w.heap.size ≤ k → M k) :
    Calls Tryz.prog 36 #[v, .int .i64 i] w (AppP M bs (UInt8.ofNat 0xd2 :: be 4 N) w) := by
  have HV := Lib.hid (And.intro hv (And.intro hl hb))
  clear hv hl hb
  have t0 : 0 ≤ i := by omega
  have t1 : ¬ i ≤ 127 := by omega
  have t2 : ¬ i ≤ 32767 := by omega
  go_enter Tryz.func36, Tryz.ntmps36
  go_wp2_with (first | (go_at_call 49; go_must (refine (ensure_n M _ _ bs 5 HV.out.1 (by omega) (by omega) HV.out.2.1 HV.out.2.2).mono ?_; rintro e w1 ⟨n1, g, cap, cur, rfl, hcn, hn1, H1⟩)) | (go_at_call 62; go_must (refine (putMint32_ok _ g n1 _ _ cur H1.out.2.1.blk (by omega) H1.out.2.1.fit i N (by omega) (by omega) hN).mono ?_; rintro e w2 ⟨rfl, hk2, hp2⟩; have H2 := Lib.hid (And.intro hk2 hp2); clear hk2 hp2)))
  go_ret
  exact app_done H1 H2 (by simp)
set_option maxRecDepth 100000 in
set_option maxHeartbeats 1600000 in
theorem AppendInt_p64 (M : Nat → Prop) (w : World) (v : Value) (bs : List UInt8) (i : Int) (N : Nat) (hN : (N : Int) = i ∨ (N : Int) = i + 18446744073709551616) (h0 : 2147483647 < i) (h1 : i < 9223372036854775808) (hv : BRow M w v bs) (hl : bs.length ≤ 549755813888) (hb : ∀ k, w.heap.size ≤ k → M k) :
    Calls Tryz.prog 36 #[v, .int .i64 i] w (AppP M bs (UInt8.ofNat 0xd3 :: be 8 N) w) := by
  have HV := Lib.hid (And.intro hv (And.intro hl hb))
  clear hv hl hb
  have t0 : 0 ≤ i := by omega
  have t1 : ¬ i ≤ 127 := by omega
  have t2 : ¬ i ≤ 32767 := by omega
  have t3 : ¬ i ≤ 2147483647 := by omega
  go_enter Tryz.func36, Tryz.ntmps36
  go_wp2_with (first | (go_at_call 49; go_must (refine (ensure_n M _ _ bs 9 HV.out.1 (by omega) (by omega) HV.out.2.1 HV.out.2.2).mono ?_; rintro e w1 ⟨n1, g, cap, cur, rfl, hcn, hn1, H1⟩)) | (go_at_call 63; go_must (refine (putMint64_ok _ g n1 _ _ cur H1.out.2.1.blk (by omega) H1.out.2.1.fit i N (by omega) (by omega) hN).mono ?_; rintro e w2 ⟨rfl, hk2, hp2⟩; have H2 := Lib.hid (And.intro hk2 hp2); clear hk2 hp2)))
  go_ret
  exact app_done H1 H2 (by simp)
set_option maxRecDepth 100000 in
set_option maxHeartbeats 1600000 in
theorem AppendInt_neg (M : Nat → Prop) (w : World) (v : Value) (bs : List UInt8) (i : Int) (N : Nat) (hN : (N : Int) = i + 18446744073709551616) (h0 : -32 ≤ i) (h1 : i < 0) (hv : BRow M w v bs) (hl : bs.length ≤ 549755813888) (hb : ∀ k, w.heap.size ≤ k → M k) :
    Calls Tryz.prog 36 #[v, .int .i64 i] w (AppP M bs [UInt8.ofNat (N % 256)] w) := by
  have HV := Lib.hid (And.intro hv (And.intro hl hb))
  clear hv hl hb
  have t0 : ¬ 0 ≤ i := by omega
  go_enter Tryz.func36, Tryz.ntmps36
  go_wp2_with (first | (go_at_call 64; go_must (refine (wnfixint_ok _ i h0 h1).mono ?_; rintro e w1 ⟨rfl, hk1⟩; have HK := Lib.hid hk1; clear hk1)) | (at_builtin; go_must (refine wpList_app1 rfl _ _ rfl M v bs _ rfl rfl (HV.out.1.nope HK.out) HV.out.2.1 (fun k h => HV.out.2.2 k (Nat.le_trans HK.out.size h)) (UInt8.ofNat (N % 256)) (u8v (by omega)) ?_; intro v' W H1)))
  go_ret
  exact ⟨_, rfl, H1.out.1, HK.out.nope.trans' H1.out.2⟩
set_option maxRecDepth 100000 in
set_option maxHeartbeats 1600000 in
theorem AppendInt_n8 (M : Nat → Prop) (w : World) (v : Value) (bs : List UInt8) (i : Int) (N : Nat) (hN : (N : Int) = i ∨ (N : Int) = i + 18446744073709551616) (h0 : -128 ≤ i) (h1 : i < -32) (hv : BRow M w v bs) (hl : bs.length ≤ 549755813888) (hb : ∀ k, w.heap.size ≤ k → M k) :
    Calls Tryz.prog 36 #[v, .int .i64 i] w (AppP M bs (UInt8.ofNat 0xd0 :: be 1 N) w) := by
  have HV := Lib.hid (And.intro hv (And.intro hl hb))
  clear hv hl hb
  have t0 : ¬ 0 ≤ i := by omega
  have t1 : ¬ -32 ≤ i := by omega
  go_enter Tryz.func36, Tryz.ntmps36
  go_wp2_with (first | (go_at_call 49; go_must (refine (ensure_n M _ _ bs 2 HV.out.1 (by omega) (by omega) HV.out.2.1 HV.out.2.2).mono ?_; rintro e w1 ⟨n1, g, cap, cur, rfl, hcn, hn1, H1⟩)) | (go_at_call 65; go_must (refine (putMint8_ok _ g n1 _ _ cur H1.out.2.1.blk (by omega) H1.out.2.1.fit i N (by omega) (by omega) hN).mono ?_; rintro e w2 ⟨rfl, hk2, hp2⟩; have H2 := Lib.hid (And.intro hk2 hp2); clear hk2 hp2)))
  go_ret
  exact app_done H1 H2 (by simp)
set_option maxRecDepth 100000 in
set_option maxHeartbeats 1600000 in
theorem AppendInt_n16 (M : Nat → Prop) (w : World) (v : Value) (bs : List UInt8) (i : Int) (N : Nat) (hN : (N : Int) = i ∨ (N : Int) = i + 18446744073709551616) (h0 : -32768 ≤ i) (h1 : i < -128) (hv : BRow M w v bs) (hl : bs.length ≤ 549755813888) (hb : ∀ k, w.heap.size ≤ k → M k) :
    Calls Tryz.prog 36 #[v, .int .i64 i] w (AppP M bs (UInt8.ofNat 0xd1 :: be 2 N) w) := by
  have HV := Lib.hid (And.intro hv (And.intro hl hb))
  clear hv hl hb
  have t0 : ¬ 0 ≤ i := by omega
  have t1 : ¬ -32 ≤ i := by omega
  have t2 : ¬ -128 ≤ i := by omega
  go_enter Tryz.func36, Tryz.ntmps36
  go_wp2_with (first | (go_at_call 49; go_must (refine (ensure_n M _ _ bs 3 HV.out.1 (by omega) (by omega) HV.out.2.1 HV.out.2.2).mono ?_; rintro e w1 ⟨n1, g, cap, cur, rfl, hcn, hn1, H1⟩)) | (go_at_call 61; go_must (refine (putMint16_ok _ g n1 _ _ cur H1.out.2.1.blk (by omega) H1.out.2.1.fit i N (by omega) (by omega) hN).mono ?_; rintro e w2 ⟨rfl, hk2, hp2⟩; have H2 := Lib.hid (And.intro hk2 hp2); clear hk2 hp2)))
  go_ret
  exact app_done H1 H2 (by simp)
set_option maxRecDepth 100000 in
set_option maxHeartbeats 1600000 in
theorem AppendInt_n32 (M : Nat → Prop) (w : World) (v : Value) (bs : List UInt8) (i : Int) (N : Nat) (hN : (N : Int) = i ∨ (N : Int) = i + 18446744073709551616) (h0 : -2147483648 ≤ i) (h1 : i < -32768) (hv : BRow M w v bs) (hl : bs.length ≤ 549755813888) (hb : ∀ k, w.heap.size ≤ k → M k) :
    Calls Tryz.prog 36 #[v, .int .i64 i] w (AppP M bs (UInt8.ofNat 0xd2 :: be 4 N) w) := by
  have HV := Lib.hid (And.intro hv (And.intro hl hb))
  clear hv hl hb
  have t0 : ¬ 0 ≤ i := by omega
  have t1 : ¬ -32 ≤ i := by omega
  have t2 : ¬ -128 ≤ i := by omega
  have t3 : ¬ -32768 ≤ i := by omega
  go_enter Tryz.func36, Tryz.ntmps36
  go_wp2_with (first | (go_at_call 49; go_must (refine (ensure_n M _ _ bs 5 HV.out.1 (by omega) (by omega) HV.out.2.1 HV.out.2.2).mono ?_; rintro e w1 ⟨n1, g, cap, cur, rfl, hcn, hn1, H1⟩)) | (go_at_call 62; go_must (refine (putMint32_ok _ g n1 _ _ cur H1.out.2.1.blk (by omega) H1.out.2.1.fit i N (by omega) (by omega) hN).mono ?_; rintro e w2 ⟨rfl, hk2, hp2⟩; have H2 := Lib.hid (And.intro hk2 hp2); clear hk2 hp2)))
  go_ret
  exact app_done H1 H2 (by simp)
set_option maxRecDepth 100000 in
set_option maxHeartbeats 1600000 in
theorem AppendInt_n64 (M : Nat → Prop) (w : World) (v : Value) (bs : List UInt8) (i : Int) (N : Nat) (hN : (N : Int) = i ∨ (N : Int) = i + 18446744073709551616) (h0 : -9223372036854775808 ≤ i) (h1 : i < -2147483648) (hv : BRow M w v bs) (hl : bs.length ≤ 549755813888) (hb : ∀ k, w.heap.size ≤ k → M k) :
    Calls Tryz.prog 36 #[v, .int .i64 i] w (AppP M bs (UInt8.ofNat 0xd3 :: be 8 N) w) := by
  have HV := Lib.hid (And.intro hv (And.intro hl hb))
  clear hv hl hb
  have t0 : ¬ 0 ≤ i := by omega
  have t1 : ¬ -32 ≤ i := by omega
  have t2 : ¬ -128 ≤ i := by omega
  have t3 : ¬ -32768 ≤ i := by omega
  have t4 : ¬ -2147483648 ≤ i := by omega
  go_enter Tryz.func36, Tryz.ntmps36
  go_wp2_with (first | (go_at_call 49; go_must (refine (ensure_n M _ _ bs 9 HV.out.1 (by omega) (by omega) HV.out.2.1 HV.out.2.2).mono ?_; rintro e w1 ⟨n1, g, cap, cur, rfl, hcn, hn1, H1⟩)) | (go_at_call 63; go_must (refine (putMint64_ok _ g n1 _ _ cur H1.out.2.1.blk (by omega) H1.out.2.1.fit i N (by omega) (by omega) hN).mono ?_; rintro e w2 ⟨rfl, hk2, hp2⟩; have H2 := Lib.hid (And.intro hk2 hp2); clear hk2 hp2)))
  go_ret
  exact app_done H1 H2 (by simp)
set_option maxRecDepth 100000 in
set_option maxHeartbeats 1600000 in
theorem AppendUint_fix (M : Nat → Prop) (w : World) (v : Value) (bs : List UInt8) (n : Nat) (h1 : n ≤ 127) (hv : BRow M w v bs) (hl : bs.length ≤ 549755813888) (hb : ∀ k, w.heap.size ≤ k → M k) :
    Calls Tryz.prog 37 #[v, .int .u64 n] w (AppP M bs [UInt8.ofNat n] w) := by
  have HV := Lib.hid (And.intro hv (And.intro hl hb))
  clear hv hl hb
  have t1 : (n : Int) ≤ 127 := by omega
  go_enter Tryz.func37, Tryz.ntmps37
  go_wp2_with (first | (go_at_call 60; go_must (refine (wfixint_ok _ n (by omega)).mono ?_; rintro e w1 ⟨rfl, hk1⟩; have HK := Lib.hid hk1; clear hk1)) | (at_builtin; go_must (refine wpList_app1 rfl _ _ rfl M v bs _ rfl rfl (HV.out.1.nope HK.out) HV.out.2.1 (fun k h => HV.out.2.2 k (Nat.le_trans HK.out.size h)) (UInt8.ofNat n) (u8v (by omega)) ?_; intro v' W H1)))
  go_ret
  exact ⟨_, rfl, H1.out.1, HK.out.nope.trans' H1.out.2⟩
set_option maxRecDepth 100000 in
set_option maxHeartbeats 1600000 in
theorem AppendUint_8 (M : Nat → Prop) (w : World) (v : Value) (bs : List UInt8) (n : Nat) (h0 : 127 < n) (h1 : n ≤ 255) (hv : BRow M w v bs) (hl : bs.length ≤ 549755813888) (hb : ∀ k, w.heap.size ≤ k → M k) :
    Calls Tryz.prog 37 #[v, .int .u64 n] w (AppP M bs (UInt8.ofNat 0xcc :: be 1 n) w) := by
  have HV := Lib.hid (And.intro hv (And.intro hl hb))
  clear hv hl hb
  have t1 : ¬ (n : Int) ≤ 127 := by omega
  have q : (n : Int) ≤ 255 := by omega
  go_enter Tryz.func37, Tryz.ntmps37
  go_wp2_with (first | (go_at_call 49; go_must (refine (ensure_n M _ _ bs 2 HV.out.1 (by omega) (by omega) HV.out.2.1 HV.out.2.2).mono ?_; rintro e w1 ⟨n1, g, cap, cur, rfl, hcn, hn1, H1⟩)) | (go_at_call 66; go_must (refine (putMuint8_ok _ g n1 _ _ cur H1.out.2.1.blk (by omega) H1.out.2.1.fit n (by omega)).mono ?_; rintro e w2 ⟨rfl, hk2, hp2⟩; have H2 := Lib.hid (And.intro hk2 hp2); clear hk2 hp2)))
  go_ret
  exact app_done H1 H2 (by simp)
set_option maxRecDepth 100000 in
set_option maxHeartbeats 1600000 in
theorem AppendUint_16 (M : Nat → Prop) (w : World) (v : Value) (bs : List UInt8) (n : Nat) (h0 : 255 < n) (h1 : n ≤ 65535) (hv : BRow M w v bs) (hl : bs.length ≤ 549755813888) (hb : ∀ k, w.heap.size ≤ k → M k) :
    Calls Tryz.prog 37 #[v, .int .u64 n] w (AppP M bs (UInt8.ofNat 0xcd :: be 2 n) w) := by
  have HV := Lib.hid (And.intro hv (And.intro hl hb))
  clear hv hl hb
  have t1 : ¬ (n : Int) ≤ 127 := by omega
  have t2 : ¬ (n : Int) ≤ 255 := by omega
  have q : (n : Int) ≤ 65535 := by omega
  go_enter Tryz.func37, Tryz.ntmps37
  go_wp2_with (first | (go_at_call 49; go_must (refine (ensure_n M _ _ bs 3 HV.out.1 (by omega) (by omega) HV.out.2.1 HV.out.2.2).mono ?_; rintro e w1 ⟨n1, g, cap, cur, rfl, hcn, hn1, H1⟩)) | (go_at_call 67; go_must (refine (putMuint16_ok _ g n1 _ _ cur H1.out.2.1.blk (by omega) H1.out.2.1.fit n (by omega)).mono ?_; rintro e w2 ⟨rfl, hk2, hp2⟩; have H2 := Lib.hid (And.intro hk2 hp2); clear hk2 hp2)))
  go_ret
  exact app_done H1 H2 (by simp)
set_option maxRecDepth 100000 in
set_option maxHeartbeats 1600000 in
theorem AppendUint_32 (M : Nat → Prop) (w : World) (v : Value) (bs : List UInt8) (n : Nat) (h0 : 65535 < n) (h1 : n ≤ 4294967295) (hv : BRow M w v bs) (hl : bs.length ≤ 549755813888) (hb : ∀ k, w.heap.size ≤ k → M k) :
    Calls Tryz.prog 37 #[v, .int .u64 n] w (AppP M bs (UInt8.ofNat 0xce :: be 4 n) w) := by
  have HV := Lib.hid (And.intro hv (And.intro hl hb))
  clear hv hl hb
  have t1 : ¬ (n : Int) ≤ 127 := by omega
  have t2 : ¬ (n : Int) ≤ 255 := by omega
  have t3 : ¬ (n : Int) ≤ 65535 := by omega
  have q : (n : Int) ≤ 4294967295 := by omega
  go_enter Tryz.func37, Tryz.ntmps37
  go_wp2_with (first | (go_at_call 49; go_must (refine (ensure_n M _ _ bs 5 HV.out.1 (by omega) (by omega) HV.out.2.1 HV.out.2.2).mono ?_; rintro e w1 ⟨n1, g, cap, cur, rfl, hcn, hn1, H1⟩)) | (go_at_call 68; go_must (refine (putMuint32_ok _ g n1 _ _ cur H1.out.2.1.blk (by omega) H1.out.2.1.fit n (by omega)).mono ?_; rintro e w2 ⟨rfl, hk2, hp2⟩; have H2 := Lib.hid (And.intro hk2 hp2); clear hk2 hp2)))
  go_ret
  exact app_done H1 H2 (by simp)
set_option maxRecDepth 100000 in
set_option maxHeartbeats 1600000 in
theorem AppendUint_64 (M : Nat → Prop) (w : World) (v : Value) (bs : List UInt8) (n : Nat) (h0 : 4294967295 < n) (h1 : n < 18446744073709551616) (hv : BRow M w v bs) (hl : bs.length ≤ 549755813888) (hb : ∀ k, w.heap.size ≤ k → M k) :
    Calls Tryz.prog 37 #[v, .int .u64 n] w (AppP M bs (UInt8.ofNat 0xcf :: be 8 n) w) := by
  have HV := Lib.hid (And.intro hv (And.intro hl hb))
  clear hv hl hb
  have t1 : ¬ (n : Int) ≤ 127 := by omega
  have t2 : ¬ (n : Int) ≤ 255 := by omega
  have t3 : ¬ (n : Int) ≤ 65535 := by omega
  have t4 : ¬ (n : Int) ≤ 4294967295 := by omega
  go_enter Tryz.func37, Tryz.ntmps37
  go_wp2_with (first | (go_at_call 49; go_must (refine (ensure_n M _ _ bs 9 HV.out.1 (by omega) (by omega) HV.out.2.1 HV.out.2.2).mono ?_; rintro e w1 ⟨n1, g, cap, cur, rfl, hcn, hn1, H1⟩)) | (go_at_call 69; go_must (refine (putMuint64_ok _ g n1 _ _ cur H1.out.2.1.blk (by omega) H1.out.2.1.fit n (by omega)).mono ?_; rintro e w2 ⟨rfl, hk2, hp2⟩; have H2 := Lib.hid (And.intro hk2 hp2); clear hk2 hp2)))
  go_ret
  exact app_done H1 H2 (by simp)
end Go.Proofs.YtapfahngeaojkaaGreatDoor
