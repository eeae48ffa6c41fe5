/- Package spec: PutValue writes a value in one of its forms ('Enc'). Package spec: PutValue where the forms are short: what bears a descriptor of one byte. -/
import Derived.LoopTactic
import Derived.IntWalk
import Derived.Outline
import Derived.Test.YtbckofjoancdjaaGreatDoorK21
namespace Go.Proofs.YtbckofjoancdjaaGreatDoor
open Go Go.RowKit Go.Lib
attribute [local go_sem ↓] Go.wp_at_zero Go.wp_at_succ
theorem lit_bsl {w : World} {c g : Nat} (hg : w.heap.size = g) (hc : c < 256) : BSl Any_ (w.alloc (.cells #[.int .u8 c] 5)) (.slice (some ⟨g, 0, none⟩) 1 1) [UInt8.ofNat c] := (BRow.lit1 (base := 0) hg (Nat.zero_le _) hc).bsl.mono fun _ _ _ => trivial
theorem lit_bsld {w : World} {c g : Nat} (hg : w.heap.size = g) (hc : c < 256) : BSl Any_ (w.alloc (.cells #[.int .u8 c] 5)).drew (.slice (some ⟨g, 0, none⟩) 1 1) [UInt8.ofNat c] := (lit_bsl hg hc).keep ((Kept.refl Nope _).drew) fun _ _ _ h => h
set_option maxRecDepth 100000 in
set_option maxHeartbeats 6400000 in
theorem PutValue_nil (v : V) (hp : PiecesOk v) (hd : v.desc = []) (hroom : v.room ≤ 1000000000) : PutOk v := by
  intro w f x hf hx
  have hi : v.inner ≤ 1000000000 := by have := v.room_inner; omega
  have HRM := Lib.hid hi
  have HLB := Lib.hid (show (0 : Nat) ≤ 1000000000 by omega)
  have HX := Lib.hid hx
  obtain ⟨ks, ds, rfl, hn, hks, hds⟩ := hx
  obtain ⟨pk, ck, rfl, _⟩ := hks.form
  rw [hd] at hds
  obtain ⟨pd, cd, rfl, _⟩ := hds.form
  have HP := Lib.hid hp
  have HF := Lib.hid hf
  have HDE := Lib.hid hd
  clear hks hds hn hf hp hd hi hroom
  unfold vagg at HX ⊢
  simp only [List.length_nil] at HX ⊢
  go_enter Tryz.func27, Tryz.ntmps27
  go_wp2_with (first | (go_at_call 59; go_must (refine (HP.out _ f _ (HF.out.keep ((Kept.refl Nope w).alloc _) (fun h => h)) (HX.out.keep ((Kept.refl Nope w).alloc _) (fun _ _ _ h => h))).mono ?_; rintro e w2 ⟨x2, fl, rfl, hps, hfo, hat, hk2⟩; have hne : fl ≠ [] := (fun h => by obtain ⟨d, hd⟩ := hfo.2.1; rw [h] at hd; cases hd); obtain ⟨g2, c2, rfl, hl2, hm2⟩ := hps.form1 hne; have hne' : 0 < fl.length := List.length_pos_iff.2 hne; obtain ⟨m, hm⟩ : ∃ m, fl.length = m := ⟨_, rfl⟩; have h13 := hfo.2.2; rw [hm] at hl2 hne' h13 ⊢; have HM := Lib.hid hm; have H2 := Lib.hid (And.intro hps (And.intro hfo (And.intro hat hk2))); clear hps hfo hat hk2 hm hm2 hne)) | (go_at_call 25; go_must (refine (pick_ok f m _ H2.out.2.2.1 (by omega) (by omega)).mono ?_; rintro e w3 ⟨i, hi, rfl, hat3, hk3⟩; obtain ⟨⟨pc, pdt⟩, hp⟩ : ∃ u, fl[i]? = some u := ⟨fl[i]'(by rw [HM.out]; exact hi), List.getElem?_eq_getElem _⟩; obtain ⟨a3, n3, k3, z0, z1, hb3⟩ := (H2.out.1.keep hk3 (fun b hb e => by have e' : b = f := e; have := HF.out.lt; rw [World.size_alloc] at hb; omega)).get hp; have hpq := H2.out.2.1.1 _ (List.mem_of_getElem? hp); have hi' : (i : Int) < (m : Int) := (by omega); have hi0 : (0 : Int) ≤ (i : Int) := (by omega); have H3 := Lib.hid (And.intro hb3 (And.intro hpq (And.intro hat3 (H2.out.2.2.2.trans' hk3)))); clear hb3 hpq hat3 hk3 hp)))
  have hpc : (pc : Int) < 256 := by have := H3.out.2.1.2; omega
  have hwp : IntKind.u8.wrap (pc : Int) = (pc : Int) := by have h8 : IntKind.u8.wrap (pc : Int) = (pc : Int) % 256 := rfl; rw [h8]; omega
  have hB := Blk.new w3 170 #[.int .i64 pc, .slice a3 n3 k3]
  have hK := (Kept.refl Nope w3).alloc (.cells #[.int .i64 pc, .slice a3 n3 k3] 170)
  generalize w3.alloc (.cells #[.int .i64 pc, .slice a3 n3 k3] 170) = W6 at hB hK ⊢
  have hg3 : w3.heap.size < W6.heap.size := hB.lt
  generalize hge : w3.heap.size = g at hB hg3 ⊢
  have HGE := Lib.hid hge
  have HKW := Lib.hid hK
  have hO : BRow (w.heap.size) W6 (.slice none 0 0) [] := BRow.nil _ _
  have hod : ∀ b, OwnB (.slice none 0 0) b → b < g := fun b hb => (by cases hb)
  have HO := Lib.hid (And.intro hO hod)
  have HM6 : Hid (∀ w', Kept (OwnB (.slice none 0 0)) W6 w' → w'.cell? ⟨g, 0, none⟩ = some (.int .i64 pc) ∧ w'.cell? ⟨g, 1, none⟩ = some (.slice a3 n3 k3)) := Lib.hid fun w' h => by have hb := hB.kept h (fun e => by have := hod _ e; omega); exact ⟨hb.cell 0, hb.cell 1⟩
  have HBB : Hid ((w.heap.size) ≤ W6.heap.size) := Lib.hid (Nat.le_trans (by have h1 := H3.out.2.2.2.size; rw [World.size_alloc] at h1; omega) (Nat.le_of_lt hg3))
  clear hB hK hge hO hod z0 z1
  go_region_held3 (fun w' => w'.cell? ⟨g, 0, none⟩ = some (.int .i64 pc) ∧ w'.cell? ⟨g, 1, none⟩ = some (.slice a3 n3 k3)) (first | exact HM6.out _ (Kept.refl _ W6).drew | exact HM6.out _ ‹Kept (OwnB (.slice none 0 0)) W6 _› | exact HM6.out _ ((Kept.refl _ W6).alloc _) | exact HM6.out _ ((Kept.refl _ W6).drew.alloc _) | exact HM6.out _ ((Kept.refl _ W6).alloc _).drew) (first | (refine step_app_b _ (.tmp 30) (.tmp 34) rfl rfl (w.heap.size) _ _ rfl (HO.out.1.nope ((Kept.refl Nope W6).alloc _)) Any_ _ _ rfl (lit_bsl rfl H3.out.2.1.2) (by have h3 := HRM.out; have h9 := HLB.out; simp <;> omega) (by have h2 := HBB.out; simp <;> omega) ?_; intro p7 c7 w7 ha7; have hS7 : Kept (OwnB (.slice none 0 0)) W6 w7 := Kept.trans' (Kept.nope ((Kept.refl Nope W6).alloc _)) ha7.2.1; have hN7 : ∀ b, OwnB (.slice p7 _ c7) b → OwnB (.slice none 0 0) b ∨ W6.heap.size ≤ b := (fun b hb => by rcases ha7.2.2 with e | e; exact .inl (e.symm.trans hb); exact .inr (by have e2 := e.symm.trans hb; have e3 := Option.some.inj e2; simp at e3; omega)); have H7 := Lib.hid (And.intro ha7.1 (And.intro hS7 hN7)); clear ha7 hN7) | (refine step_app_b _ (.tmp 30) (.tmp 34) rfl rfl (w.heap.size) _ _ rfl (HO.out.1.nope ((Kept.refl Nope W6).alloc _).drew) Any_ _ _ rfl (lit_bsld rfl H3.out.2.1.2) (by have h3 := HRM.out; have h9 := HLB.out; simp <;> omega) (by have h2 := HBB.out; simp <;> omega) ?_; intro p7 c7 w7 ha7; have hS7 : Kept (OwnB (.slice none 0 0)) W6 w7 := Kept.trans' (Kept.nope ((Kept.refl Nope W6).alloc _).drew) ha7.2.1; have hN7 : ∀ b, OwnB (.slice p7 _ c7) b → OwnB (.slice none 0 0) b ∨ W6.heap.size ≤ b := (fun b hb => by rcases ha7.2.2 with e | e; exact .inl (e.symm.trans hb); exact .inr (by have e2 := e.symm.trans hb; have e3 := Option.some.inj e2; simp at e3; omega)); have H7 := Lib.hid (And.intro ha7.1 (And.intro hS7 hN7)); clear ha7 hN7) | (refine step_app_b _ (.tmp 35) (.tmp 37) rfl rfl (w.heap.size) _ _ rfl H7.out.1 _ _ _ rfl (H3.out.1.keep (HKW.out.nope.trans' H7.out.2.1) (fun b _ hb e => by cases e)) (by have h2 := H3.out.2.1.1.len; have h3 := HRM.out; have h9 := HLB.out; simp <;> omega) (by have h1 := H7.out.2.1.size; have h2 := HBB.out; omega) ?_; intro p8 c8 w8 ha8; have hS8 := H7.out.2.1.trans ha8.2.1 (fun b hb e => (H7.out.2.2 b e).elim id (fun h => by omega)); have H8 := Lib.hid (And.intro ha8.1 hS8); clear ha8))
  go_wp2
  go_ret
  have hk8 : Kept (Only f) w _ := ((((Kept.refl Nope w).alloc _).nope.trans' (H3.out.2.2.2.trans' HKW.out.nope))).trans H8.out.2 (fun b hb e => (by cases e))
  refine ⟨_, _, rfl, H8.out.1, (.plain HDE.out H3.out.2.1.1), ?_, hk8⟩
  exact (H3.out.2.2.1.keep (HKW.out) (fun h => h)).keep H8.out.2 (fun e => (by cases e))
set_option maxRecDepth 100000 in
set_option maxHeartbeats 6400000 in
theorem PutValue_desc (v dd : V) (hp : PiecesOk v) (hd : v.desc = [dd]) (hpd : PutOk dd) (hroom : v.room ≤ 1000000000) : PutOk v := by
  intro w f x hf hx
  have hi : v.inner ≤ 1000000000 := by have := v.room_inner; omega
  have hr : dd.room ≤ 1000000000 := by have := v.room_inner; rw [hd] at this; simp only [sumOf] at this; omega
  have HRM := Lib.hid hi
  have HRD := Lib.hid hr
  have HX := Lib.hid hx
  obtain ⟨ks, ds, rfl, hn, hks, hds⟩ := hx
  obtain ⟨pk, ck, rfl, _⟩ := hks.form
  rw [hd] at hds
  have HDS := Lib.hid hds
  obtain ⟨b2, off2, cd, pk2, ck2, pd2, cd2, q2, hvd, u0, u1, u2, u3, u4, u5⟩ := hds.sixS (i := 0) (v := dd) rfl
  subst q2
  simp only [List.length_cons, List.length_nil, Nat.zero_add, Nat.zero_mul, Nat.add_zero] at HX u0 u1 u2 u3 u4 u5
  obtain ⟨pd, hpd'⟩ : ∃ pd, pd = some (⟨b2, off2, none⟩ : Addr) := ⟨_, rfl⟩
  clear hpd'
  have v0 := fun (o o' : Obj) => (((Kept.refl Nope w).alloc o).alloc o').cell u0 (fun h => h)
  have v1 := fun (o o' : Obj) => (((Kept.refl Nope w).alloc o).alloc o').cell u1 (fun h => h)
  have v2 := fun (o o' : Obj) => (((Kept.refl Nope w).alloc o).alloc o').cell u2 (fun h => h)
  have v3 := fun (o o' : Obj) => (((Kept.refl Nope w).alloc o).alloc o').cell u3 (fun h => h)
  have v4 := fun (o o' : Obj) => (((Kept.refl Nope w).alloc o).alloc o').cell u4 (fun h => h)
  have v5 := fun (o o' : Obj) => (((Kept.refl Nope w).alloc o).alloc o').cell u5 (fun h => h)
  have HVD := Lib.hid hvd
  have HP := Lib.hid hp
  have HPD := Lib.hid hpd
  have HF := Lib.hid hf
  have HDE := Lib.hid hd
  have HBX := Lib.hid ((Blk.new w 92 #[.int .i64 v.kind, .int .u64 v.num, .string v.text, .slice pk v.kids.length ck, .int .i64 v.of_, .slice (some ⟨b2, off2, none⟩) 1 cd]).alloc (.cells #[.int .u8 0] 5))
  have HL0 := Lib.hid (BRow.lit1 (base := w.heap.size + 1) (w := w.alloc (.cells #[.int .i64 v.kind, .int .u64 v.num, .string v.text, .slice pk v.kids.length ck, .int .i64 v.of_, .slice (some ⟨b2, off2, none⟩) 1 cd] 92)) (c := 0) (g := w.heap.size + 1) (by simp) (by simp) (by decide))
  clear hks hds hn hf hp hpd hd hi hr hroom hvd u0 u1 u2 u3 u4 u5 pd
  unfold vagg at HX ⊢
  go_enter Tryz.func27, Tryz.ntmps27
  go_wp2_with (first | (go_at_call 27; go_must (refine (HPD.out _ f _ (HF.out.keep (((Kept.refl Nope w).alloc _).alloc _) (fun h => h)) (HVD.out.keep (((Kept.refl Nope w).alloc _).alloc _) (fun _ _ _ h => h))).mono ?_; rintro e w4 ⟨x4, be4, rfl, hb4, he4, hat4, hk4⟩; obtain ⟨p4, c4, rfl⟩ := hb4.form; have H4 := Lib.hid (And.intro hb4 (And.intro he4 (And.intro hat4 hk4))); have HLB := Lib.hid (show be4.length ≤ 1000000000 from Nat.le_trans he4.len HRD.out); clear hb4 he4 hat4 hk4)) | (at_builtin; go_must (refine wpList_app_b _ (.tmp 12) (.tmp 18) rfl rfl (w.heap.size + 1) _ _ rfl (HL0.out.keep H4.out.2.2.2 (fun b hb e => by have e' : b = f := e; have := HF.out.lt; omega)) _ _ _ rfl H4.out.1.bsl (by have := HLB.out; simp <;> omega) (by have h1 := H4.out.2.2.2.size; rw [World.size_alloc, World.size_alloc] at h1; omega) ?_; intro p5 c5 w5 ha5; have hk5 := ((((Kept.refl Nope w).alloc _).alloc _).nope.trans' H4.out.2.2.2).trans ha5.2.1 (fun b hb e => by have := HL0.out.own b e; omega); have hbx := (HBX.out.kept H4.out.2.2.2 (fun e => by have e' : w.heap.size = f := e; have := HF.out.lt; omega)).kept ha5.2.1 (fun e => by have := HL0.out.own _ e; omega); have q0 := hbx.cell 0; have q1 := hbx.cell 1; have q2 := hbx.cell 2; have q3 := hbx.cell 3; have q4 := hbx.cell 4; have q5 := hbx.cell 5; simp only [List.getElem?_toArray, List.getElem?_cons_zero, List.getElem?_cons_succ] at q0 q1 q2 q3 q4 q5; have H5 := Lib.hid (And.intro ha5.1 (And.intro hk5 (H4.out.2.2.1.keep ha5.2.1 (fun e => by have h1 := HL0.out.own _ e; have := HF.out.lt; omega)))); clear ha5 hk5 hbx)) | (go_at_call 59; go_must (refine (HP.out _ f _ H5.out.2.2 (HX.out.keep H5.out.2.1 (fun b _ hb e => hb e))).mono ?_; rintro e w2 ⟨x2, fl, rfl, hps, hfo, hat, hk2⟩; have hne : fl ≠ [] := (fun h => by obtain ⟨d, hd⟩ := hfo.2.1; rw [h] at hd; cases hd); obtain ⟨g2, c2, rfl, hl2, hm2⟩ := hps.form1 hne; have hne' : 0 < fl.length := List.length_pos_iff.2 hne; obtain ⟨m, hm⟩ : ∃ m, fl.length = m := ⟨_, rfl⟩; have h13 := hfo.2.2; rw [hm] at hl2 hne' h13 ⊢; have HM := Lib.hid hm; have H2 := Lib.hid (And.intro hps (And.intro hfo (And.intro hat hk2))); clear hps hfo hat hk2 hm hm2 hne)) | (go_at_call 25; go_must (refine (pick_ok f m _ H2.out.2.2.1 (by omega) (by omega)).mono ?_; rintro e w3 ⟨i, hi, rfl, hat3, hk3⟩; obtain ⟨⟨pc, pdt⟩, hp⟩ : ∃ u, fl[i]? = some u := ⟨fl[i]'(by rw [HM.out]; exact hi), List.getElem?_eq_getElem _⟩; obtain ⟨a3, n3, k3, z0, z1, hb3⟩ := (H2.out.1.keep hk3 (fun b hb e => by have e' : b = f := e; have := HF.out.lt; have h9 := H5.out.2.1.size; omega)).get hp; have hpq := H2.out.2.1.1 _ (List.mem_of_getElem? hp); have hi' : (i : Int) < (m : Int) := (by omega); have hi0 : (0 : Int) ≤ (i : Int) := (by omega); have H3 := Lib.hid (And.intro hb3 (And.intro hpq (And.intro hat3 (H2.out.2.2.2.trans' hk3)))); clear hb3 hpq hat3 hk3 hp)))
  have hpc : (pc : Int) < 256 := by have := H3.out.2.1.2; omega
  have hwp : IntKind.u8.wrap (pc : Int) = (pc : Int) := by have h8 : IntKind.u8.wrap (pc : Int) = (pc : Int) % 256 := rfl; rw [h8]; omega
  have hB := Blk.new w3 170 #[.int .i64 pc, .slice a3 n3 k3]
  have hK := (Kept.refl Nope w3).alloc (.cells #[.int .i64 pc, .slice a3 n3 k3] 170)
  generalize w3.alloc (.cells #[.int .i64 pc, .slice a3 n3 k3] 170) = W6 at hB hK ⊢
  have hg3 : w3.heap.size < W6.heap.size := hB.lt
  generalize hge : w3.heap.size = g at hB hg3 ⊢
  have HGE := Lib.hid hge
  have HKW := Lib.hid hK
  have hO : BRow (w.heap.size + 1) W6 (.slice p5 ([UInt8.ofNat 0].length + be4.length) c5) ([UInt8.ofNat 0] ++ be4) := (H5.out.1.keep H3.out.2.2.2 (fun b hb e => by have e' : b = f := e; have := HF.out.lt; omega)).nope HKW.out
  have hod : ∀ b, OwnB (.slice p5 ([UInt8.ofNat 0].length + be4.length) c5) b → b < g := fun b hb => (by have h1 := (H5.out.1.lt b hb).2; have h2 := H3.out.2.2.2.size; have h3 := HGE.out; omega)
  have HO := Lib.hid (And.intro hO hod)
  have HM6 : Hid (∀ w', Kept (OwnB (.slice p5 ([UInt8.ofNat 0].length + be4.length) c5)) W6 w' → w'.cell? ⟨g, 0, none⟩ = some (.int .i64 pc) ∧ w'.cell? ⟨g, 1, none⟩ = some (.slice a3 n3 k3)) := Lib.hid fun w' h => by have hb := hB.kept h (fun e => by have := hod _ e; omega); exact ⟨hb.cell 0, hb.cell 1⟩
  have HBB : Hid ((w.heap.size + 1) ≤ W6.heap.size) := Lib.hid (by have h1 := H5.out.2.1.size; have h2 := H3.out.2.2.2.size; have h3 := HGE.out; omega)
  clear hB hK hge hO hod z0 z1
  go_region_held3 (fun w' => w'.cell? ⟨g, 0, none⟩ = some (.int .i64 pc) ∧ w'.cell? ⟨g, 1, none⟩ = some (.slice a3 n3 k3)) (first | exact HM6.out _ (Kept.refl _ W6).drew | exact HM6.out _ ‹Kept (OwnB (.slice p5 ([UInt8.ofNat 0].length + be4.length) c5)) W6 _› | exact HM6.out _ ((Kept.refl _ W6).alloc _) | exact HM6.out _ ((Kept.refl _ W6).drew.alloc _) | exact HM6.out _ ((Kept.refl _ W6).alloc _).drew) (first | (refine step_app_b _ (.tmp 30) (.tmp 34) rfl rfl (w.heap.size + 1) _ _ rfl (HO.out.1.nope ((Kept.refl Nope W6).alloc _)) Any_ _ _ rfl (lit_bsl rfl H3.out.2.1.2) (by have h3 := HRM.out; have h9 := HLB.out; simp <;> omega) (by have h2 := HBB.out; simp <;> omega) ?_; intro p7 c7 w7 ha7; have hS7 : Kept (OwnB (.slice p5 ([UInt8.ofNat 0].length + be4.length) c5)) W6 w7 := Kept.trans' (Kept.nope ((Kept.refl Nope W6).alloc _)) ha7.2.1; have hN7 : ∀ b, OwnB (.slice p7 _ c7) b → OwnB (.slice p5 ([UInt8.ofNat 0].length + be4.length) c5) b ∨ W6.heap.size ≤ b := (fun b hb => by rcases ha7.2.2 with e | e; exact .inl (e.symm.trans hb); exact .inr (by have e2 := e.symm.trans hb; have e3 := Option.some.inj e2; simp at e3; omega)); have H7 := Lib.hid (And.intro ha7.1 (And.intro hS7 hN7)); clear ha7 hN7) | (refine step_app_b _ (.tmp 30) (.tmp 34) rfl rfl (w.heap.size + 1) _ _ rfl (HO.out.1.nope ((Kept.refl Nope W6).alloc _).drew) Any_ _ _ rfl (lit_bsld rfl H3.out.2.1.2) (by have h3 := HRM.out; have h9 := HLB.out; simp <;> omega) (by have h2 := HBB.out; simp <;> omega) ?_; intro p7 c7 w7 ha7; have hS7 : Kept (OwnB (.slice p5 ([UInt8.ofNat 0].length + be4.length) c5)) W6 w7 := Kept.trans' (Kept.nope ((Kept.refl Nope W6).alloc _).drew) ha7.2.1; have hN7 : ∀ b, OwnB (.slice p7 _ c7) b → OwnB (.slice p5 ([UInt8.ofNat 0].length + be4.length) c5) b ∨ W6.heap.size ≤ b := (fun b hb => by rcases ha7.2.2 with e | e; exact .inl (e.symm.trans hb); exact .inr (by have e2 := e.symm.trans hb; have e3 := Option.some.inj e2; simp at e3; omega)); have H7 := Lib.hid (And.intro ha7.1 (And.intro hS7 hN7)); clear ha7 hN7) | (refine step_app_b _ (.tmp 35) (.tmp 37) rfl rfl (w.heap.size + 1) _ _ rfl H7.out.1 _ _ _ rfl (H3.out.1.keep (HKW.out.nope.trans' H7.out.2.1) (fun b _ hb e => by have h1 := (H5.out.1.lt b e).2; omega)) (by have h2 := H3.out.2.1.1.len; have h3 := HRM.out; have h9 := HLB.out; simp <;> omega) (by have h1 := H7.out.2.1.size; have h2 := HBB.out; omega) ?_; intro p8 c8 w8 ha8; have hS8 := H7.out.2.1.trans ha8.2.1 (fun b hb e => (H7.out.2.2 b e).elim id (fun h => by omega)); have H8 := Lib.hid (And.intro ha8.1 hS8); clear ha8))
  go_wp2
  go_ret
  have hk8 : Kept (Only f) w _ := ((H5.out.2.1.trans' (H3.out.2.2.2.trans' HKW.out.nope))).trans H8.out.2 (fun b hb e => (by have := H5.out.1.own b e; omega))
  refine ⟨_, _, rfl, (by have h := BRow.mono H8.out.1 (Nat.le_succ _); have e : ([UInt8.ofNat 0] ++ be4 ++ [UInt8.ofNat pc]).length + pdt.length = be4.length + 1 + 1 + pdt.length := (by simp only [List.length_append, List.length_cons, List.length_nil]; omega); rw [e] at h; exact h), (by have h := Enc.desc HDE.out H4.out.2.1 H3.out.2.1.1; simpa using h), ?_, hk8⟩
  exact (H3.out.2.2.1.keep (HKW.out) (fun h => h)).keep H8.out.2 (fun e => (by have := H5.out.1.own _ e; have := HF.out.lt; omega))
theorem Own.bare {v : V} (h : Own v) : Own v.bare := ⟨h.kind, h.leaf, h.text, h.num, Nat.zero_le _, h.few, h.size, fun d hd => by cases hd⟩
theorem Fits.bare {v : V} (h : Fits v) : Fits v.bare := .mk h.own.bare ⟨h.content.flag, h.content.n1, h.content.n2, h.content.n4, h.content.s1, h.content.s2, h.content.s4, h.content.wide, h.content.utf, h.content.ascii, h.content.even, h.content.arr⟩ (fun k hk => h.kid hk) (fun k hk => by cases hk)
theorem desc_room {d : V} (h : Fits d) (hd : (d.kind = 5 ∨ d.kind = 20) ∧ d.desc = []) : d.room ≤ 1000000 := by
  have hk : d.kids = [] := by
    rcases h.own.leaf with h1 | h1 | h1 | h1
    · omega
    · omega
    · omega
    · exact h1
  have h2 := d.room_eq
  have h3 := h.own.size
  rw [hk, hd.2] at h2
  simp only [sumOf] at h2
  omega
theorem pieces_any (v : V) (hfi : Fits v) (hnn : 0 ≤ v.num ∧ v.num ≤ 18446744073709551615) (hroom : v.room ≤ 1000000000) (ihk : ∀ k ∈ v.kids, PutOk k ∧ PiecesOk k.bare) (ihd : ∀ k ∈ v.kids, ∀ d ∈ k.desc, PutOk d) : PiecesOk v := by
  intro W f x hf hx
  have hs := hfi.own.size
  have hl := hfi.own.few
  rcases kind_cases hfi.own.kind with h | h | h | h | h | h | h | h | h | h | h | h | h | h | h | h | h | h | h | h | h | h | h | h
  · exact pieces_0 v f W x h hf hx
  · exact pieces_1 v f W x h (by have := hfi.content.flag h; omega) hf hx
  all_goals first
    | exact pieces_num v f W x (by unfold numKind; omega) hnn hf hx
    | exact pieces_14 v f W x h (hfi.content.wide (.inl h)) hf hx
    | exact pieces_17 v f W x h (hfi.content.wide (.inr h)) hf hx
    | exact pieces_18 v f W x h hs hf hx
    | exact pieces_19 v f W x h hs hf hx
    | exact pieces_20 v f W x h hs hf hx
    | exact pieces_21 v f W x h hl hroom (fun k hk => (ihk k hk).1) hf hx
    | exact pieces_22 v f W x h hl hroom (fun k hk => (ihk k hk).1) hf hx
    | skip
  refine pieces_23 v f W x h (fun W x hf hx => ?_) hf hx
  cases hkd : v.kids with
  | nil => exact array_nil v f W x h hkd hfi hf hx
  | cons k0 r =>
    have h0 : v.kids[0]? = some k0 := by rw [hkd]; rfl
    have hm := List.mem_of_getElem? h0
    cases hdd : k0.desc with
    | nil => exact array_plain v k0 f W x h h0 hdd hfi hroom hf hx (fun k hk => (ihk k hk).2)
    | cons dd r2 =>
      have hf0 := hfi.kid hm
      have h1 : k0.desc = [dd] := by
        have := hf0.own.desc
        rw [hdd] at this ⊢
        simp only [List.length_cons] at this
        rw [List.eq_nil_of_length_eq_zero (by omega : r2.length = 0)]
      have hmd : dd ∈ k0.desc := by rw [h1]; simp
      exact array_desc v k0 dd f W x h h0 h1 hfi hroom hf hx (fun k hk => (ihk k hk).2) (ihd k0 hm dd hmd) (desc_room (hf0.descr hmd) (hf0.own.dkind dd hmd))
theorem put_all : ∀ (n : Nat) (v : V), SizeOf.sizeOf v ≤ n → Fits v → Nums v → v.room ≤ 1000000000 → PutOk v ∧ PiecesOk v ∧ PiecesOk v.bare := by
  intro n
  induction n using Nat.strongRecOn with
  | _ n ih =>
    intro v hn hfi hnu hroom
    have hnum : 0 ≤ v.num ∧ v.num ≤ 18446744073709551615 := by cases hnu; assumption
    have hnk : ∀ k ∈ v.kids, Nums k := by cases hnu; assumption
    have hnd : ∀ k ∈ v.desc, Nums k := by cases hnu; assumption
    have hre := v.room_eq
    have hk : ∀ k ∈ v.kids, PutOk k ∧ PiecesOk k.bare := fun k hk => by
      have h := ih (SizeOf.sizeOf k) (by have := V.sizeOf_kid hk; omega) k (Nat.le_refl _) (hfi.kid hk) (hnk k hk) (by have := sumOf_room_mem hk; omega)
      exact ⟨h.1, h.2.2⟩
    have hkd : ∀ k ∈ v.kids, ∀ d ∈ k.desc, PutOk d := fun k hk d hd => by
      have hkn := hnk k hk
      have hkdn : ∀ x ∈ k.desc, Nums x := by cases hkn; assumption
      exact (ih (SizeOf.sizeOf d) (by have := V.sizeOf_kid hk; have := V.sizeOf_desc hd; omega) d (Nat.le_refl _) ((hfi.kid hk).descr hd) (hkdn d hd) (by have := desc_room ((hfi.kid hk).descr hd) ((hfi.kid hk).own.dkind d hd); omega)).1
    have hp := pieces_any v hfi hnum hroom hk hkd
    have hpb := pieces_any v.bare hfi.bare hnum (by have h1 := v.room_inner; have h2 := v.bare.room_inner; have h3 : v.bare.inner = v.inner := rfl; have h4 : sumOf V.room v.bare.desc = 0 := rfl; omega) hk hkd
    refine ⟨?_, hp, hpb⟩
    cases hd : v.desc with
    | nil => exact PutValue_nil v hp hd hroom
    | cons dd r2 =>
      have h1 : v.desc = [dd] := by
        have := hfi.own.desc
        rw [hd] at this ⊢
        simp only [List.length_cons] at this
        rw [List.eq_nil_of_length_eq_zero (by omega : r2.length = 0)]
      have hmd : dd ∈ v.desc := by rw [h1]; simp
      exact PutValue_desc v dd hp h1 (ih (SizeOf.sizeOf dd) (by have := V.sizeOf_desc hmd; omega) dd (Nat.le_refl _) (hfi.descr hmd) (hnd dd hmd) (by have := desc_room (hfi.descr hmd) (hfi.own.dkind dd hmd); omega)).1 hroom
theorem PutValue_ok (v : V) (hfi : Fits v) (hnu : Nums v) (hc : v.count ≤ 2000) : PutOk v := (put_all _ v (Nat.le_refl _) hfi hnu (by have := room_le _ v (Nat.le_refl _) hfi; omega)).1
end Go.Proofs.YtbckofjoancdjaaGreatDoor
namespace Go.Proofs.YtbckofjoancdjaaGreatDoor
open Go Go.RowKit Go.Lib
attribute [local go_sem ↓] Go.wp_at_zero Go.wp_at_succ
def ShortAt (w : World) (f : Nat) : Prop := ∃ st : Int, Blk w f 34 #[.int .u64 st, .bool true] ∧ 0 ≤ st ∧ st < 18446744073709551616
theorem ShortAt.forms {w : World} {f : Nat} (h : ShortAt w f) : FormsAt w f := by obtain ⟨st, h1, h2⟩ := h; exact ⟨st, true, h1, h2⟩
theorem ShortAt.keep {S : Nat → Prop} {w w' : World} {f : Nat} (h : ShortAt w f) (hk : Kept S w w') (hs : ¬ S f) : ShortAt w' f := by obtain ⟨st, h1, h2⟩ := h; exact ⟨st, h1.kept hk hs, h2⟩
theorem ShortAt.kept {w w' : World} {f : Nat} (h : ShortAt w f) (hk : Kept Nope w w') : ShortAt w' f := h.keep hk fun h => h
def NmPost (w : World) (v : V) : Ending → World → Prop := fun e w' => ∃ x, e = .returned x ∧ PSl w.heap.size w' x (numForms v) ∧ Kept Nope w w'
def PutIs (v : V) (D : List UInt8) : Prop := ∀ (W : World) (f : Nat) (x : Value), ShortAt W f → VAgg (fun b => b ≠ f) W x v → Calls Tryz.prog 27 #[x, .pointer (some ⟨f, 0, none⟩)] W (fun e w' => ∃ x bs, e = .returned x ∧ BRow W.heap.size w' x bs ∧ bs = D ∧ FormsAt w' f ∧ Kept (Only f) W w')
def PutSh (v : V) (D : List UInt8) : Prop := ∀ (W : World) (f : Nat) (x : Value), ShortAt W f → VAgg (fun b => b ≠ f) W x v → Calls Tryz.prog 27 #[x, .pointer (some ⟨f, 0, none⟩)] W (fun e w' => ∃ x bs c p, e = .returned x ∧ BRow W.heap.size w' x bs ∧ bs = 0 :: (D ++ UInt8.ofNat c :: p) ∧ Form v c p ∧ c < 256 ∧ FormsAt w' f ∧ Kept (Only f) W w')
theorem numForms_five {v : V} (h5 : v.kind = 5) (h0 : 0 < v.num ∧ v.num < 256) : numForms v = [(83, be 1 v.num.toNat), (128, be 8 v.num.toNat)] := by
  have e : numForms v = numForms (.mk 5 v.num v.text [] 0 []) := by rw [← h5]; rfl
  rw [e, numForms_b 5 v.num v.text (.inr rfl) h0.2 (by omega)]
  rfl
set_option maxRecDepth 100000 in
set_option maxHeartbeats 1600000 in
theorem pick_short (f : Nat) (n : Nat) (w : World) (h : ShortAt w f) : Calls Tryz.prog 25 #[.pointer (some ⟨f, 0, none⟩), .int .i64 n] w (fun e w' => e = .returned (.int .i64 0) ∧ Kept Nope w w') := by
  obtain ⟨st, hb, s0, s1⟩ := h
  have c0 := hb.cell 0
  have c1 := hb.cell 1
  have f0 := hb.frozen 0
  simp only [List.getElem?_toArray, List.getElem?_cons_zero, List.getElem?_cons_succ] at c0 c1
  clear hb
  go_enter Tryz.func25, Tryz.ntmps25
  go_wp2
  go_ret
  exact ⟨rfl, Kept.refl _ _⟩
set_option maxRecDepth 100000 in
set_option maxHeartbeats 6400000 in
theorem pieces_numN (v : V) (f : Nat) (w : World) (x : Value) (hk : numKind v.kind) (hnn : 0 ≤ v.num ∧ v.num ≤ 18446744073709551615) (hx : VAgg (fun b => b ≠ f) w x v) :
    Calls Tryz.prog 59 #[.pointer (some ⟨f, 0, none⟩), x] w (NmPost w v) := by
  have hx' := hx
  obtain ⟨ks, ds, rfl, hn, hks, hds⟩ := hx
  have HX := Lib.hid hx'
  obtain ⟨pk, ck, rfl, _⟩ := hks.form
  obtain ⟨pd, cd, rfl, _⟩ := hds.form
  have HF := Lib.hid (And.intro True.intro (And.intro hk hnn))
  obtain ⟨k, hkk⟩ : ∃ k, v.kind = k := ⟨_, rfl⟩
  rw [hkk] at hk
  have HFX : Hid (NumFx k) := Lib.hid ⟨fun W => coded_at (by unfold numKind at hk; omega) W, fun W => by
    have h := fixedSize_ok k 0 W (.inl rfl) fun W => boolSize_zero k W (by unfold numKind at hk; omega)
    rw [fsz_look hk, Int.sub_zero] at h
    exact h⟩
  have k0 : (k == 0) = false := by unfold numKind at hk; simp; omega
  have k1 : (k == 1) = false := by unfold numKind at hk; simp; omega
  have k14 : (k == 14) = false := by unfold numKind at hk; simp; omega
  have k17 : (k == 17) = false := by unfold numKind at hk; simp; omega
  have k18 : (k == 18) = false := by unfold numKind at hk; simp; omega
  have k19 : (k == 19) = false := by unfold numKind at hk; simp; omega
  have k20 : (k == 20) = false := by unfold numKind at hk; simp; omega
  have k21 : (k == 21) = false := by unfold numKind at hk; simp; omega
  have k22 : (k == 22) = false := by unfold numKind at hk; simp; omega
  have k23 : (k == 23) = false := by unfold numKind at hk; simp; omega
  have HK := Lib.hid (And.intro hk hkk)
  clear hks hds hn hx' hk hnn
  unfold vagg
  rw [hkk]
  clear hkk
  obtain ⟨n, hnn⟩ : ∃ n, v.num = n := ⟨_, rfl⟩
  have HN := Lib.hid hnn
  rw [hnn]
  clear hnn
  go_enter Tryz.func59, Tryz.ntmps59
  go_wp2_with (go_at_call 92; go_must (refine (numbered_ok k n _ _ _ _ _ HK.out.1 (HN.out ▸ HF.out.2.2) HFX.out).mono ?_; rintro e w9 ⟨x9, rfl, hps9, hk9⟩; obtain ⟨p9, c9, rfl, _⟩ := hps9.form; have H9 := Lib.hid (And.intro hps9 (((Kept.refl Nope w).alloc _).trans' hk9)); clear hps9 hk9))
  go_ret
  have e : numForms v = numForms (.mk k n v.text [] 0 []) := by rw [← HK.out.2, ← HN.out]; rfl
  exact ⟨_, rfl, by rw [e]; exact H9.out.1.mono (by simp), H9.out.2⟩
set_option maxRecDepth 100000 in
set_option maxHeartbeats 6400000 in
theorem PutValue_num1 (v : V) (h5 : v.kind = 5) (h0 : 0 < v.num ∧ v.num < 256) (hd : v.desc = []) (hroom : v.room ≤ 1000000000) : PutIs v (83 :: be 1 v.num.toNat) := by
  intro w f x hsh hx
  have hf := hsh.forms
  have HSH := Lib.hid hsh
  have hfe : numForms v = [(83, be 1 v.num.toNat), (128, be 8 v.num.toNat)] := numForms_five h5 h0
  have HFE := Lib.hid hfe
  have hp := fun (W : World) (f : Nat) (x : Value) => pieces_numN v f W x (by unfold numKind; omega) (by omega)
  have HFO := Lib.hid (Forms.num (v := v) (by unfold numKind; omega))
  clear hsh hfe h5 h0
  have hi : v.inner ≤ 1000000000 := by have := v.room_inner; omega
  have HRM := Lib.hid hi
  have HLB := Lib.hid (show (0 : Nat) ≤ 1000000000 by omega)
  have HX := Lib.hid hx
  obtain ⟨ks, ds, rfl, hn, hks, hds⟩ := hx
  obtain ⟨pk, ck, rfl, _⟩ := hks.form
  rw [hd] at hds
  obtain ⟨pd, cd, rfl, _⟩ := hds.form
  have HP := Lib.hid hp
  have HF := Lib.hid hf
  have HDE := Lib.hid hd
  clear hks hds hn hf hp hd hi hroom
  unfold vagg at HX ⊢
  simp only [List.length_nil] at HX ⊢
  go_enter Tryz.func27, Tryz.ntmps27
  go_wp2_with (first | (go_at_call 59; go_must (refine (HP.out _ f _ (HX.out.keep ((Kept.refl Nope w).alloc _) (fun _ _ _ h => h))).mono ?_; rintro e w2 ⟨x2, rfl, hps, hk2⟩; obtain ⟨fl, hfl⟩ : ∃ fl, numForms v = fl := ⟨_, rfl⟩; rw [hfl] at hps; have hfo : Forms v fl := hfl ▸ HFO.out; have hat : ShortAt w2 f := HSH.out.kept (((Kept.refl Nope w).alloc _).trans' hk2); have HFL := Lib.hid (hfl.symm.trans HFE.out); clear hfl; have hne : fl ≠ [] := (fun h => by obtain ⟨d, hd⟩ := hfo.2.1; rw [h] at hd; cases hd); obtain ⟨g2, c2, rfl, hl2, hm2⟩ := hps.form1 hne; have hne' : 0 < fl.length := List.length_pos_iff.2 hne; obtain ⟨m, hm⟩ : ∃ m, fl.length = m := ⟨_, rfl⟩; have h13 := hfo.2.2; rw [hm] at hl2 hne' h13 ⊢; have HM := Lib.hid hm; have H2 := Lib.hid (And.intro hps (And.intro hfo (And.intro hat hk2))); clear hps hfo hat hk2 hm hm2 hne)) | (go_at_call 25; go_must (refine (pick_short f m _ H2.out.2.2.1).mono ?_; rintro e w3 ⟨hre, hk3⟩; have hat3 : ShortAt w3 f := H2.out.2.2.1.kept hk3; obtain ⟨i, hi0e⟩ : ∃ i : Nat, i = 0 := ⟨0, rfl⟩; have hi : i < m := (by omega); have hii : e = .returned (.int .i64 (i : Int)) := (by rw [hre, hi0e]; rfl); clear hre; subst hii; obtain ⟨⟨pc, pdt⟩, hp⟩ : ∃ u, fl[i]? = some u := ⟨fl[i]'(by rw [HM.out]; exact hi), List.getElem?_eq_getElem _⟩; obtain ⟨a3, n3, k3, z0, z1, hb3⟩ := (H2.out.1.keep hk3 (fun b hb e => e)).get hp; have hpq := H2.out.2.1.1 _ (List.mem_of_getElem? hp); have hi' : (i : Int) < (m : Int) := (by omega); have hi0 : (0 : Int) ≤ (i : Int) := (by omega); have H3 := Lib.hid (And.intro hb3 (And.intro hpq (And.intro hat3 (And.intro (H2.out.2.2.2.trans' hk3) (HFL.out ▸ hi0e ▸ hp))))); clear hb3 hpq hat3 hk3 hp hi0e)))
  have hpc : (pc : Int) < 256 := by have := H3.out.2.1.2; omega
  have hwp : IntKind.u8.wrap (pc : Int) = (pc : Int) := by have h8 : IntKind.u8.wrap (pc : Int) = (pc : Int) % 256 := rfl; rw [h8]; omega
  have hB := Blk.new w3 170 #[.int .i64 pc, .slice a3 n3 k3]
  have hK := (Kept.refl Nope w3).alloc (.cells #[.int .i64 pc, .slice a3 n3 k3] 170)
  generalize w3.alloc (.cells #[.int .i64 pc, .slice a3 n3 k3] 170) = W6 at hB hK ⊢
  have hg3 : w3.heap.size < W6.heap.size := hB.lt
  generalize hge : w3.heap.size = g at hB hg3 ⊢
  have HGE := Lib.hid hge
  have HKW := Lib.hid hK
  have hO : BRow (w.heap.size) W6 (.slice none 0 0) [] := BRow.nil _ _
  have hod : ∀ b, OwnB (.slice none 0 0) b → b < g := fun b hb => (by cases hb)
  have HO := Lib.hid (And.intro hO hod)
  have HM6 : Hid (∀ w', Kept (OwnB (.slice none 0 0)) W6 w' → w'.cell? ⟨g, 0, none⟩ = some (.int .i64 pc) ∧ w'.cell? ⟨g, 1, none⟩ = some (.slice a3 n3 k3)) := Lib.hid fun w' h => by have hb := hB.kept h (fun e => by have := hod _ e; omega); exact ⟨hb.cell 0, hb.cell 1⟩
  have HBB : Hid ((w.heap.size) ≤ W6.heap.size) := Lib.hid (Nat.le_trans (by have h1 := H3.out.2.2.2.1.size; rw [World.size_alloc] at h1; omega) (Nat.le_of_lt hg3))
  clear hB hK hge hO hod z0 z1
  go_region_held3 (fun w' => w'.cell? ⟨g, 0, none⟩ = some (.int .i64 pc) ∧ w'.cell? ⟨g, 1, none⟩ = some (.slice a3 n3 k3)) (first | exact HM6.out _ (Kept.refl _ W6).drew | exact HM6.out _ ‹Kept (OwnB (.slice none 0 0)) W6 _› | exact HM6.out _ ((Kept.refl _ W6).alloc _) | exact HM6.out _ ((Kept.refl _ W6).drew.alloc _) | exact HM6.out _ ((Kept.refl _ W6).alloc _).drew) (first | (refine step_app_b _ (.tmp 30) (.tmp 34) rfl rfl (w.heap.size) _ _ rfl (HO.out.1.nope ((Kept.refl Nope W6).alloc _)) Any_ _ _ rfl (lit_bsl rfl H3.out.2.1.2) (by have h3 := HRM.out; have h9 := HLB.out; simp <;> omega) (by have h2 := HBB.out; simp <;> omega) ?_; intro p7 c7 w7 ha7; have hS7 : Kept (OwnB (.slice none 0 0)) W6 w7 := Kept.trans' (Kept.nope ((Kept.refl Nope W6).alloc _)) ha7.2.1; have hN7 : ∀ b, OwnB (.slice p7 _ c7) b → OwnB (.slice none 0 0) b ∨ W6.heap.size ≤ b := (fun b hb => by rcases ha7.2.2 with e | e; exact .inl (e.symm.trans hb); exact .inr (by have e2 := e.symm.trans hb; have e3 := Option.some.inj e2; simp at e3; omega)); have H7 := Lib.hid (And.intro ha7.1 (And.intro hS7 hN7)); clear ha7 hN7) | (refine step_app_b _ (.tmp 30) (.tmp 34) rfl rfl (w.heap.size) _ _ rfl (HO.out.1.nope ((Kept.refl Nope W6).alloc _).drew) Any_ _ _ rfl (lit_bsld rfl H3.out.2.1.2) (by have h3 := HRM.out; have h9 := HLB.out; simp <;> omega) (by have h2 := HBB.out; simp <;> omega) ?_; intro p7 c7 w7 ha7; have hS7 : Kept (OwnB (.slice none 0 0)) W6 w7 := Kept.trans' (Kept.nope ((Kept.refl Nope W6).alloc _).drew) ha7.2.1; have hN7 : ∀ b, OwnB (.slice p7 _ c7) b → OwnB (.slice none 0 0) b ∨ W6.heap.size ≤ b := (fun b hb => by rcases ha7.2.2 with e | e; exact .inl (e.symm.trans hb); exact .inr (by have e2 := e.symm.trans hb; have e3 := Option.some.inj e2; simp at e3; omega)); have H7 := Lib.hid (And.intro ha7.1 (And.intro hS7 hN7)); clear ha7 hN7) | (refine step_app_b _ (.tmp 35) (.tmp 37) rfl rfl (w.heap.size) _ _ rfl H7.out.1 _ _ _ rfl (H3.out.1.keep (HKW.out.nope.trans' H7.out.2.1) (fun b _ hb e => by cases e)) (by have h2 := H3.out.2.1.1.len; have h3 := HRM.out; have h9 := HLB.out; simp <;> omega) (by have h1 := H7.out.2.1.size; have h2 := HBB.out; omega) ?_; intro p8 c8 w8 ha8; have hS8 := H7.out.2.1.trans ha8.2.1 (fun b hb e => (H7.out.2.2 b e).elim id (fun h => by omega)); have H8 := Lib.hid (And.intro ha8.1 hS8); clear ha8))
  go_wp2
  go_ret
  have hk8 : Kept (Only f) w _ := ((((Kept.refl Nope w).alloc _).nope.trans' (H3.out.2.2.2.1.nope.trans' HKW.out.nope))).trans H8.out.2 (fun b hb e => (by cases e))
  refine ⟨_, _, rfl, H8.out.1, ?_, ?_, hk8⟩
  · have h := H3.out.2.2.2.2
    simp only [List.getElem?_cons_zero, Option.some.injEq, Prod.mk.injEq] at h
    obtain ⟨rfl, rfl⟩ := h
    rfl
  · exact (H3.out.2.2.1.forms.keep (HKW.out) (fun h => h)).keep H8.out.2 (fun e => (by cases e))
set_option maxRecDepth 100000 in
set_option maxHeartbeats 6400000 in
theorem PutValue_descS (v dd : V) (D : List UInt8) (hp : PiecesOk v) (hd : v.desc = [dd]) (hpd : PutIs dd D) (hD : D.length ≤ 1000) (hroom : v.room ≤ 1000000000) : PutSh v D := by
  intro w f x hsh hx
  have hf := hsh.forms
  have HSH := Lib.hid hsh
  have HDL := Lib.hid hD
  clear hsh hD
  have hi : v.inner ≤ 1000000000 := by have := v.room_inner; omega
  have hr : dd.room ≤ 1000000000 := by have := v.room_inner; rw [hd] at this; simp only [sumOf] at this; omega
  have HRM := Lib.hid hi
  have HRD := Lib.hid hr
  have HX := Lib.hid hx
  obtain ⟨ks, ds, rfl, hn, hks, hds⟩ := hx
  obtain ⟨pk, ck, rfl, _⟩ := hks.form
  rw [hd] at hds
  have HDS := Lib.hid hds
  obtain ⟨b2, off2, cd, pk2, ck2, pd2, cd2, q2, hvd, u0, u1, u2, u3, u4, u5⟩ := hds.sixS (i := 0) (v := dd) rfl
  subst q2
  simp only [List.length_cons, List.length_nil, Nat.zero_add, Nat.zero_mul, Nat.add_zero] at HX u0 u1 u2 u3 u4 u5
  obtain ⟨pd, hpd'⟩ : ∃ pd, pd = some (⟨b2, off2, none⟩ : Addr) := ⟨_, rfl⟩
  clear hpd'
  have v0 := fun (o o' : Obj) => (((Kept.refl Nope w).alloc o).alloc o').cell u0 (fun h => h)
  have v1 := fun (o o' : Obj) => (((Kept.refl Nope w).alloc o).alloc o').cell u1 (fun h => h)
  have v2 := fun (o o' : Obj) => (((Kept.refl Nope w).alloc o).alloc o').cell u2 (fun h => h)
  have v3 := fun (o o' : Obj) => (((Kept.refl Nope w).alloc o).alloc o').cell u3 (fun h => h)
  have v4 := fun (o o' : Obj) => (((Kept.refl Nope w).alloc o).alloc o').cell u4 (fun h => h)
  have v5 := fun (o o' : Obj) => (((Kept.refl Nope w).alloc o).alloc o').cell u5 (fun h => h)
  have HVD := Lib.hid hvd
  have HP := Lib.hid hp
  have HPD := Lib.hid hpd
  have HF := Lib.hid hf
  have HDE := Lib.hid hd
  have HBX := Lib.hid ((Blk.new w 92 #[.int .i64 v.kind, .int .u64 v.num, .string v.text, .slice pk v.kids.length ck, .int .i64 v.of_, .slice (some ⟨b2, off2, none⟩) 1 cd]).alloc (.cells #[.int .u8 0] 5))
  have HL0 := Lib.hid (BRow.lit1 (base := w.heap.size + 1) (w := w.alloc (.cells #[.int .i64 v.kind, .int .u64 v.num, .string v.text, .slice pk v.kids.length ck, .int .i64 v.of_, .slice (some ⟨b2, off2, none⟩) 1 cd] 92)) (c := 0) (g := w.heap.size + 1) (by simp) (by simp) (by decide))
  clear hks hds hn hf hp hpd hd hi hr hroom hvd u0 u1 u2 u3 u4 u5 pd
  unfold vagg at HX ⊢
  go_enter Tryz.func27, Tryz.ntmps27
  go_wp2_with (first | (go_at_call 27; go_must (refine (HPD.out _ f _ (HSH.out.kept (((Kept.refl Nope w).alloc _).alloc _)) (HVD.out.keep (((Kept.refl Nope w).alloc _).alloc _) (fun _ _ _ h => h))).mono ?_; rintro e w4 ⟨x4, be4, rfl, hb4, he4, hat4, hk4⟩; obtain ⟨p4, c4, rfl⟩ := hb4.form; have H4 := Lib.hid (And.intro hb4 (And.intro he4 (And.intro hat4 hk4))); have HLB := Lib.hid (show be4.length ≤ 1000000000 from by have := HDL.out; rw [he4]; omega); clear hb4 he4 hat4 hk4)) | (at_builtin; go_must (refine wpList_app_b _ (.tmp 12) (.tmp 18) rfl rfl (w.heap.size + 1) _ _ rfl (HL0.out.keep H4.out.2.2.2 (fun b hb e => by have e' : b = f := e; have := HF.out.lt; omega)) _ _ _ rfl H4.out.1.bsl (by have := HLB.out; simp <;> omega) (by have h1 := H4.out.2.2.2.size; rw [World.size_alloc, World.size_alloc] at h1; omega) ?_; intro p5 c5 w5 ha5; have hk5 := ((((Kept.refl Nope w).alloc _).alloc _).nope.trans' H4.out.2.2.2).trans ha5.2.1 (fun b hb e => by have := HL0.out.own b e; omega); have hbx := (HBX.out.kept H4.out.2.2.2 (fun e => by have e' : w.heap.size = f := e; have := HF.out.lt; omega)).kept ha5.2.1 (fun e => by have := HL0.out.own _ e; omega); have q0 := hbx.cell 0; have q1 := hbx.cell 1; have q2 := hbx.cell 2; have q3 := hbx.cell 3; have q4 := hbx.cell 4; have q5 := hbx.cell 5; simp only [List.getElem?_toArray, List.getElem?_cons_zero, List.getElem?_cons_succ] at q0 q1 q2 q3 q4 q5; have H5 := Lib.hid (And.intro ha5.1 (And.intro hk5 (H4.out.2.2.1.keep ha5.2.1 (fun e => by have h1 := HL0.out.own _ e; have := HF.out.lt; omega)))); clear ha5 hk5 hbx)) | (go_at_call 59; go_must (refine (HP.out _ f _ H5.out.2.2 (HX.out.keep H5.out.2.1 (fun b _ hb e => hb e))).mono ?_; rintro e w2 ⟨x2, fl, rfl, hps, hfo, hat, hk2⟩; have hne : fl ≠ [] := (fun h => by obtain ⟨d, hd⟩ := hfo.2.1; rw [h] at hd; cases hd); obtain ⟨g2, c2, rfl, hl2, hm2⟩ := hps.form1 hne; have hne' : 0 < fl.length := List.length_pos_iff.2 hne; obtain ⟨m, hm⟩ : ∃ m, fl.length = m := ⟨_, rfl⟩; have h13 := hfo.2.2; rw [hm] at hl2 hne' h13 ⊢; have HM := Lib.hid hm; have H2 := Lib.hid (And.intro hps (And.intro hfo (And.intro hat hk2))); clear hps hfo hat hk2 hm hm2 hne)) | (go_at_call 25; go_must (refine (pick_ok f m _ H2.out.2.2.1 (by omega) (by omega)).mono ?_; rintro e w3 ⟨i, hi, rfl, hat3, hk3⟩; obtain ⟨⟨pc, pdt⟩, hp⟩ : ∃ u, fl[i]? = some u := ⟨fl[i]'(by rw [HM.out]; exact hi), List.getElem?_eq_getElem _⟩; obtain ⟨a3, n3, k3, z0, z1, hb3⟩ := (H2.out.1.keep hk3 (fun b hb e => by have e' : b = f := e; have := HF.out.lt; have h9 := H5.out.2.1.size; omega)).get hp; have hpq := H2.out.2.1.1 _ (List.mem_of_getElem? hp); have hi' : (i : Int) < (m : Int) := (by omega); have hi0 : (0 : Int) ≤ (i : Int) := (by omega); have H3 := Lib.hid (And.intro hb3 (And.intro hpq (And.intro hat3 (H2.out.2.2.2.trans' hk3)))); clear hb3 hpq hat3 hk3 hp)))
  have hpc : (pc : Int) < 256 := by have := H3.out.2.1.2; omega
  have hwp : IntKind.u8.wrap (pc : Int) = (pc : Int) := by have h8 : IntKind.u8.wrap (pc : Int) = (pc : Int) % 256 := rfl; rw [h8]; omega
  have hB := Blk.new w3 170 #[.int .i64 pc, .slice a3 n3 k3]
  have hK := (Kept.refl Nope w3).alloc (.cells #[.int .i64 pc, .slice a3 n3 k3] 170)
  generalize w3.alloc (.cells #[.int .i64 pc, .slice a3 n3 k3] 170) = W6 at hB hK ⊢
  have hg3 : w3.heap.size < W6.heap.size := hB.lt
  generalize hge : w3.heap.size = g at hB hg3 ⊢
  have HGE := Lib.hid hge
  have HKW := Lib.hid hK
  have hO : BRow (w.heap.size + 1) W6 (.slice p5 ([UInt8.ofNat 0].length + be4.length) c5) ([UInt8.ofNat 0] ++ be4) := (H5.out.1.keep H3.out.2.2.2 (fun b hb e => by have e' : b = f := e; have := HF.out.lt; omega)).nope HKW.out
  have hod : ∀ b, OwnB (.slice p5 ([UInt8.ofNat 0].length + be4.length) c5) b → b < g := fun b hb => (by have h1 := (H5.out.1.lt b hb).2; have h2 := H3.out.2.2.2.size; have h3 := HGE.out; omega)
  have HO := Lib.hid (And.intro hO hod)
  have HM6 : Hid (∀ w', Kept (OwnB (.slice p5 ([UInt8.ofNat 0].length + be4.length) c5)) W6 w' → w'.cell? ⟨g, 0, none⟩ = some (.int .i64 pc) ∧ w'.cell? ⟨g, 1, none⟩ = some (.slice a3 n3 k3)) := Lib.hid fun w' h => by have hb := hB.kept h (fun e => by have := hod _ e; omega); exact ⟨hb.cell 0, hb.cell 1⟩
  have HBB : Hid ((w.heap.size + 1) ≤ W6.heap.size) := Lib.hid (by have h1 := H5.out.2.1.size; have h2 := H3.out.2.2.2.size; have h3 := HGE.out; omega)
  clear hB hK hge hO hod z0 z1
  go_region_held3 (fun w' => w'.cell? ⟨g, 0, none⟩ = some (.int .i64 pc) ∧ w'.cell? ⟨g, 1, none⟩ = some (.slice a3 n3 k3)) (first | exact HM6.out _ (Kept.refl _ W6).drew | exact HM6.out _ ‹Kept (OwnB (.slice p5 ([UInt8.ofNat 0].length + be4.length) c5)) W6 _› | exact HM6.out _ ((Kept.refl _ W6).alloc _) | exact HM6.out _ ((Kept.refl _ W6).drew.alloc _) | exact HM6.out _ ((Kept.refl _ W6).alloc _).drew) (first | (refine step_app_b _ (.tmp 30) (.tmp 34) rfl rfl (w.heap.size + 1) _ _ rfl (HO.out.1.nope ((Kept.refl Nope W6).alloc _)) Any_ _ _ rfl (lit_bsl rfl H3.out.2.1.2) (by have h3 := HRM.out; have h9 := HLB.out; simp <;> omega) (by have h2 := HBB.out; simp <;> omega) ?_; intro p7 c7 w7 ha7; have hS7 : Kept (OwnB (.slice p5 ([UInt8.ofNat 0].length + be4.length) c5)) W6 w7 := Kept.trans' (Kept.nope ((Kept.refl Nope W6).alloc _)) ha7.2.1; have hN7 : ∀ b, OwnB (.slice p7 _ c7) b → OwnB (.slice p5 ([UInt8.ofNat 0].length + be4.length) c5) b ∨ W6.heap.size ≤ b := (fun b hb => by rcases ha7.2.2 with e | e; exact .inl (e.symm.trans hb); exact .inr (by have e2 := e.symm.trans hb; have e3 := Option.some.inj e2; simp at e3; omega)); have H7 := Lib.hid (And.intro ha7.1 (And.intro hS7 hN7)); clear ha7 hN7) | (refine step_app_b _ (.tmp 30) (.tmp 34) rfl rfl (w.heap.size + 1) _ _ rfl (HO.out.1.nope ((Kept.refl Nope W6).alloc _).drew) Any_ _ _ rfl (lit_bsld rfl H3.out.2.1.2) (by have h3 := HRM.out; have h9 := HLB.out; simp <;> omega) (by have h2 := HBB.out; simp <;> omega) ?_; intro p7 c7 w7 ha7; have hS7 : Kept (OwnB (.slice p5 ([UInt8.ofNat 0].length + be4.length) c5)) W6 w7 := Kept.trans' (Kept.nope ((Kept.refl Nope W6).alloc _).drew) ha7.2.1; have hN7 : ∀ b, OwnB (.slice p7 _ c7) b → OwnB (.slice p5 ([UInt8.ofNat 0].length + be4.length) c5) b ∨ W6.heap.size ≤ b := (fun b hb => by rcases ha7.2.2 with e | e; exact .inl (e.symm.trans hb); exact .inr (by have e2 := e.symm.trans hb; have e3 := Option.some.inj e2; simp at e3; omega)); have H7 := Lib.hid (And.intro ha7.1 (And.intro hS7 hN7)); clear ha7 hN7) | (refine step_app_b _ (.tmp 35) (.tmp 37) rfl rfl (w.heap.size + 1) _ _ rfl H7.out.1 _ _ _ rfl (H3.out.1.keep (HKW.out.nope.trans' H7.out.2.1) (fun b _ hb e => by have h1 := (H5.out.1.lt b e).2; omega)) (by have h2 := H3.out.2.1.1.len; have h3 := HRM.out; have h9 := HLB.out; simp <;> omega) (by have h1 := H7.out.2.1.size; have h2 := HBB.out; omega) ?_; intro p8 c8 w8 ha8; have hS8 := H7.out.2.1.trans ha8.2.1 (fun b hb e => (H7.out.2.2 b e).elim id (fun h => by omega)); have H8 := Lib.hid (And.intro ha8.1 hS8); clear ha8))
  go_wp2
  go_ret
  have hk8 : Kept (Only f) w _ := ((H5.out.2.1.trans' (H3.out.2.2.2.trans' HKW.out.nope))).trans H8.out.2 (fun b hb e => (by have := H5.out.1.own b e; omega))
  refine ⟨_, _, pc, pdt, rfl, (by have h := BRow.mono H8.out.1 (Nat.le_succ _); have e : ([UInt8.ofNat 0] ++ be4 ++ [UInt8.ofNat pc]).length + pdt.length = be4.length + 1 + 1 + pdt.length := (by simp only [List.length_append, List.length_cons, List.length_nil]; omega); rw [e] at h; exact h), (by rw [H4.out.2.1]; simp), H3.out.2.1.1, H3.out.2.1.2, ?_, hk8⟩
  exact (H3.out.2.2.1.keep (HKW.out) (fun h => h)).keep H8.out.2 (fun e => (by have := H5.out.1.own _ e; have := HF.out.lt; omega))
end Go.Proofs.YtbckofjoancdjaaGreatDoor
