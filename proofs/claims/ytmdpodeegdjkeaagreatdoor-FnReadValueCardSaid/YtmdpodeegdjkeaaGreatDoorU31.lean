/- Part 31 of the proof of the readers and the guards. No conditions. -/
import Derived.LoopTactic
import Derived.IntWalk
import Derived.Outline
import Derived.BigQuiet
import Derived.Test.YtmdpodeegdjkeaaGreatDoorU0
import Derived.Test.YtmdpodeegdjkeaaGreatDoorU7
import Derived.Test.YtmdpodeegdjkeaaGreatDoorU8
import Derived.Test.YtmdpodeegdjkeaaGreatDoorU27
import Derived.Test.YtmdpodeegdjkeaaGreatDoorU30
set_option maxRecDepth 100000
set_option maxHeartbeats 3200000
namespace Go.Proofs.YtmdpodeegdjkeaaGreatDoor
open Go Go.RowKit Go.Lib Tryz
attribute [local go_sem ↓] Go.wp_at_zero Go.wp_at_succ
theorem xnc {w:World} {c g:Nat} (hg:w.heap.size=g) (hc:c < 256):BSl Any_ (w.alloc (.cells #[.int .u8 c] 5)) (.slice (some ⟨g,0,none⟩) 1 1) [UInt8.ofNat c]:=(BRow.lit1 (base:=0) hg (Nat.zero_le _) hc).bsl.mono fun _ _ _=>trivial
theorem xog {w:World} {c g:Nat} (hg:w.heap.size=g) (hc:c < 256):BSl Any_ (w.alloc (.cells #[.int .u8 c] 5)).drew (.slice (some ⟨g,0,none⟩) 1 1) [UInt8.ofNat c]:=(xnc hg hc).keep ((kR Nope _).drew) fun _ _ _ h=>h
set_option maxHeartbeats 6400000 in
theorem xmi (v:V) (hp:xcO v) (hd:v.desc=[]) (hroom:v.room<=1000000000):xio v:=by
 intro w f x hf hx;have hi:v.inner<=1000000000:=by have:=v.room_inner;omega
 have HRM:=hid hi;have HLB:=hid (show (0:Nat)<=1000000000 by omega);have HX:=hid hx;obtain ⟨ks,ds,rfl,hn,hks,hds⟩:=hx;obtain ⟨pk,ck,rfl,_⟩:=hks.form;rw [hd] at hds;obtain ⟨pd,cd,rfl,_⟩:=hds.form;have HP:=hid hp;have HF:=hid hf;have HDE:=hid hd;clear hks hds hn hf hp hd hi hroom;unfold vagg at HX ⊢;simp only [List.length_nil] at HX ⊢;go_enter func14,ntmps14;go_wp2_with (first | (go_at_call 38;go_must (refine (HP.out _ f _ (HF.out.keep ((kR Nope w).alloc _) (fun h=>h)) (HX.out.keep ((kR Nope w).alloc _) (fun _ _ _ h=>h))).mono ?_;rintro e w2 ⟨x2,fl,rfl,hps,hfo,hat,hk2⟩;have hne:fl≠[]:=(fun h=>by obtain ⟨d,hd⟩:=hfo.2.1;rw [h] at hd;cases hd);obtain ⟨g2,c2,rfl,hl2,hm2⟩:=hps.form1 hne;have hne':0 < fl.length:=List.length_pos_iff.2 hne;obtain ⟨m,hm⟩:∃ m,fl.length=m:=⟨_,rfl⟩;have h13:=hfo.2.2;rw [hm] at hl2 hne' h13 ⊢;have HM:=hid hm;have H2:=hid (aI hps (aI hfo (aI hat hk2)));clear hps hfo hat hk2 hm hm2 hne)) | (go_at_call 39;go_must (refine (xhT f m _ H2.out.2.2.1 (by omega) (by omega)).mono ?_;rintro e w3 ⟨i,hi,rfl,hat3,hk3⟩;obtain ⟨⟨pc,pdt⟩,hp⟩:∃ u,fl[i]? = some u:=⟨fl[i]'(by rw [HM.out];exact hi),ge _⟩;obtain ⟨a3,n3,k3,z0,z1,hb3⟩:=(H2.out.1.keep hk3 (fun b hb e=>by have e':b=f:=e;have:=HF.out.lt;rw [World.size_alloc] at hb;omega)).get hp;have hpq:=H2.out.2.1.1 _ (gm hp);have hi':(i:Int) < (m:Int):=(by omega);have hi0:(0:Int)<=(i:Int):=(by omega);have H3:=hid (aI hb3 (aI hpq (aI hat3 (H2.out.2.2.2.trans' hk3))));clear hb3 hpq hat3 hk3 hp)));have hpc:(pc:Int) < 256:=by have:=H3.out.2.1.2;omega
 have hwp:IntKind.u8.wrap (pc:Int)=(pc:Int):=by have h8:IntKind.u8.wrap (pc:Int)=(pc:Int) % 256:=rfl;rw [h8];omega
 have hB:=Blk.new w3 64 #[.int .i64 pc,.slice a3 n3 k3];have hK:=(kR Nope w3).alloc (.cells #[.int .i64 pc,.slice a3 n3 k3] 64);generalize w3.alloc (.cells #[.int .i64 pc,.slice a3 n3 k3] 64)=W6 at hB hK ⊢;have hg3:w3.heap.size < W6.heap.size:=hB.lt;generalize hge:w3.heap.size=g at hB hg3 ⊢;have HGE:=hid hge;have HKW:=hid hK;have hO:BRow (w.heap.size) W6 (.slice none 0 0) []:=BRow.nil _ _;have hod:∀ b,OwnB (.slice none 0 0) b->b < g:=fun b hb=>(by cases hb)
 have HO:=hid (aI hO hod);have HM6:Hid (∀ w',Kept (OwnB (.slice none 0 0)) W6 w'->w'.cell? ⟨g,0,none⟩=some (.int .i64 pc)/\w'.cell? ⟨g,1,none⟩=some (.slice a3 n3 k3)):=hid fun w' h=>by have hb:=hB.kept h (fun e=>by have:=hod _ e;omega);exact ⟨hb.cell 0,hb.cell 1⟩
 have HBB:Hid ((w.heap.size)<=W6.heap.size):=hid (Nat.le_trans (by have h1:=H3.out.2.2.2.size;rw [World.size_alloc] at h1;omega) (Nat.le_of_lt hg3));clear hB hK hge hO hod z0 z1
 go_region_held3 (fun w'=>w'.cell? ⟨g,0,none⟩=some (.int .i64 pc)/\w'.cell? ⟨g,1,none⟩=some (.slice a3 n3 k3)) (first | exact HM6.out _ (kR _ W6).drew | exact HM6.out _ ‹Kept (OwnB (.slice none 0 0)) W6 _› | exact HM6.out _ ((kR _ W6).alloc _) | exact HM6.out _ ((kR _ W6).drew.alloc _) | exact HM6.out _ ((kR _ W6).alloc _).drew) (first | (refine xbm _ (.tmp 30) (.tmp 34) rfl rfl (w.heap.size) _ _ rfl (HO.out.1.nope ((kR Nope W6).alloc _)) Any_ _ _ rfl (xnc rfl H3.out.2.1.2) (by have h3:=HRM.out;have h9:=HLB.out;simp <;> omega) (by have h2:=HBB.out;simp <;> omega) ?_;intro p7 c7 w7 ha7;have hS7:Kept (OwnB (.slice none 0 0)) W6 w7:=Kept.trans' (Kept.nope ((kR Nope W6).alloc _)) ha7.2.1;have hN7:∀ b,OwnB (.slice p7 _ c7) b->OwnB (.slice none 0 0) b\/W6.heap.size<=b:=(fun b hb=>by rcases ha7.2.2 with e | e;exact .inl (e.symm.trans hb);exact .inr (by have e2:=e.symm.trans hb;have e3:=Option.some.inj e2;simp at e3;omega));have H7:=hid (aI ha7.1 (aI hS7 hN7));clear ha7 hN7) | (refine xbm _ (.tmp 30) (.tmp 34) rfl rfl (w.heap.size) _ _ rfl (HO.out.1.nope ((kR Nope W6).alloc _).drew) Any_ _ _ rfl (xog rfl H3.out.2.1.2) (by have h3:=HRM.out;have h9:=HLB.out;simp <;> omega) (by have h2:=HBB.out;simp <;> omega) ?_;intro p7 c7 w7 ha7;have hS7:Kept (OwnB (.slice none 0 0)) W6 w7:=Kept.trans' (Kept.nope ((kR Nope W6).alloc _).drew) ha7.2.1;have hN7:∀ b,OwnB (.slice p7 _ c7) b->OwnB (.slice none 0 0) b\/W6.heap.size<=b:=(fun b hb=>by rcases ha7.2.2 with e | e;exact .inl (e.symm.trans hb);exact .inr (by have e2:=e.symm.trans hb;have e3:=Option.some.inj e2;simp at e3;omega));have H7:=hid (aI ha7.1 (aI hS7 hN7));clear ha7 hN7) | (refine xbm _ (.tmp 35) (.tmp 37) rfl rfl (w.heap.size) _ _ rfl H7.out.1 _ _ _ rfl (H3.out.1.keep (HKW.out.nope.trans' H7.out.2.1) (fun b _ hb e=>by cases e)) (by have h2:=H3.out.2.1.1.len;have h3:=HRM.out;have h9:=HLB.out;simp <;> omega) (by have h1:=H7.out.2.1.size;have h2:=HBB.out;omega) ?_;intro p8 c8 w8 ha8;have hS8:=H7.out.2.1.trans ha8.2.1 (fun b hb e=>(H7.out.2.2 b e).elim id (fun h=>by omega));have H8:=hid (aI ha8.1 hS8);clear ha8))
 go_wp2;go_ret;have hk8:Kept (Only f) w _:=((((kR Nope w).alloc _).nope.trans' (H3.out.2.2.2.trans' HKW.out.nope))).trans H8.out.2 (fun b hb e=>(by cases e));refine ⟨_,_,rfl,H8.out.1,(.plain HDE.out H3.out.2.1.1),?_,hk8⟩;exact (H3.out.2.2.1.keep (HKW.out) (fun h=>h)).keep H8.out.2 (fun e=>(by cases e))
set_option maxHeartbeats 6400000 in
theorem xkt (v dd:V) (hp:xcO v) (hd:v.desc=[dd]) (hpd:xio dd) (hroom:v.room<=1000000000):xio v:=by
 intro w f x hf hx;have hi:v.inner<=1000000000:=by have:=v.room_inner;omega
 have hr:dd.room<=1000000000:=by have:=v.room_inner;rw [hd] at this;simp only [sumOf] at this;omega
 have HRM:=hid hi;have HRD:=hid hr;have HX:=hid hx;obtain ⟨ks,ds,rfl,hn,hks,hds⟩:=hx;obtain ⟨pk,ck,rfl,_⟩:=hks.form;rw [hd] at hds;have HDS:=hid hds;obtain ⟨b2,off2,cd,pk2,ck2,pd2,cd2,q2,hvd,u0,u1,u2,u3,u4,u5⟩:=hds.sixS (i:=0) (v:=dd) rfl;subst q2;simp only [lC,List.length_nil,Nat.zero_add,Nat.zero_mul,Nat.add_zero] at HX u0 u1 u2 u3 u4 u5;obtain ⟨pd,hpd'⟩:∃ pd,pd=some (⟨b2,off2,none⟩:Addr):=⟨_,rfl⟩
 clear hpd';have v0:=fun (o o':Obj)=>(((kR Nope w).alloc o).alloc o').cell u0 (fun h=>h)
 have v1:=fun (o o':Obj)=>(((kR Nope w).alloc o).alloc o').cell u1 (fun h=>h)
 have v2:=fun (o o':Obj)=>(((kR Nope w).alloc o).alloc o').cell u2 (fun h=>h)
 have v3:=fun (o o':Obj)=>(((kR Nope w).alloc o).alloc o').cell u3 (fun h=>h)
 have v4:=fun (o o':Obj)=>(((kR Nope w).alloc o).alloc o').cell u4 (fun h=>h)
 have v5:=fun (o o':Obj)=>(((kR Nope w).alloc o).alloc o').cell u5 (fun h=>h)
 have HVD:=hid hvd;have HP:=hid hp;have HPD:=hid hpd;have HF:=hid hf;have HDE:=hid hd;have HBX:=hid ((Blk.new w 25 #[.int .i64 v.kind,.int .u64 v.num,.string v.text,.slice pk v.kids.length ck,.int .i64 v.of_,.slice (some ⟨b2,off2,none⟩) 1 cd]).alloc (.cells #[.int .u8 0] 5));have HL0:=hid (BRow.lit1 (base:=w.heap.size+1) (w:=w.alloc (.cells #[.int .i64 v.kind,.int .u64 v.num,.string v.text,.slice pk v.kids.length ck,.int .i64 v.of_,.slice (some ⟨b2,off2,none⟩) 1 cd] 25)) (c:=0) (g:=w.heap.size+1) (by simp) (by simp) (by decide));clear hks hds hn hf hp hpd hd hi hr hroom hvd u0 u1 u2 u3 u4 u5 pd;unfold vagg at HX ⊢;go_enter func14,ntmps14;go_wp2_with (first | (go_at_call 14;go_must (refine (HPD.out _ f _ (HF.out.keep (((kR Nope w).alloc _).alloc _) (fun h=>h)) (HVD.out.keep (((kR Nope w).alloc _).alloc _) (fun _ _ _ h=>h))).mono ?_;rintro e w4 ⟨x4,be4,rfl,hb4,he4,hat4,hk4⟩;obtain ⟨p4,c4,rfl⟩:=hb4.form;have H4:=hid (aI hb4 (aI he4 (aI hat4 hk4)));have HLB:=hid (show be4.length<=1000000000 from Nat.le_trans he4.len HRD.out);clear hb4 he4 hat4 hk4)) | (at_builtin;go_must (refine xbz _ (.tmp 12) (.tmp 18) rfl rfl (w.heap.size+1) _ _ rfl (HL0.out.keep H4.out.2.2.2 (fun b hb e=>by have e':b=f:=e;have:=HF.out.lt;omega)) _ _ _ rfl H4.out.1.bsl (by have:=HLB.out;simp <;> omega) (by have h1:=H4.out.2.2.2.size;rw [World.size_alloc,World.size_alloc] at h1;omega) ?_;intro p5 c5 w5 ha5;have hk5:=((((kR Nope w).alloc _).alloc _).nope.trans' H4.out.2.2.2).trans ha5.2.1 (fun b hb e=>by have:=HL0.out.own b e;omega);have hbx:=(HBX.out.kept H4.out.2.2.2 (fun e=>by have e':w.heap.size=f:=e;have:=HF.out.lt;omega)).kept ha5.2.1 (fun e=>by have:=HL0.out.own _ e;omega);have q0:=hbx.cell 0;have q1:=hbx.cell 1;have q2:=hbx.cell 2;have q3:=hbx.cell 3;have q4:=hbx.cell 4;have q5:=hbx.cell 5;simp only [gt,gz,gs] at q0 q1 q2 q3 q4 q5;have H5:=hid (aI ha5.1 (aI hk5 (H4.out.2.2.1.keep ha5.2.1 (fun e=>by have h1:=HL0.out.own _ e;have:=HF.out.lt;omega))));clear ha5 hk5 hbx)) | (go_at_call 38;go_must (refine (HP.out _ f _ H5.out.2.2 (HX.out.keep H5.out.2.1 (fun b _ hb e=>hb e))).mono ?_;rintro e w2 ⟨x2,fl,rfl,hps,hfo,hat,hk2⟩;have hne:fl≠[]:=(fun h=>by obtain ⟨d,hd⟩:=hfo.2.1;rw [h] at hd;cases hd);obtain ⟨g2,c2,rfl,hl2,hm2⟩:=hps.form1 hne;have hne':0 < fl.length:=List.length_pos_iff.2 hne;obtain ⟨m,hm⟩:∃ m,fl.length=m:=⟨_,rfl⟩;have h13:=hfo.2.2;rw [hm] at hl2 hne' h13 ⊢;have HM:=hid hm;have H2:=hid (aI hps (aI hfo (aI hat hk2)));clear hps hfo hat hk2 hm hm2 hne)) | (go_at_call 39;go_must (refine (xhT f m _ H2.out.2.2.1 (by omega) (by omega)).mono ?_;rintro e w3 ⟨i,hi,rfl,hat3,hk3⟩;obtain ⟨⟨pc,pdt⟩,hp⟩:∃ u,fl[i]? = some u:=⟨fl[i]'(by rw [HM.out];exact hi),ge _⟩;obtain ⟨a3,n3,k3,z0,z1,hb3⟩:=(H2.out.1.keep hk3 (fun b hb e=>by have e':b=f:=e;have:=HF.out.lt;have h9:=H5.out.2.1.size;omega)).get hp;have hpq:=H2.out.2.1.1 _ (gm hp);have hi':(i:Int) < (m:Int):=(by omega);have hi0:(0:Int)<=(i:Int):=(by omega);have H3:=hid (aI hb3 (aI hpq (aI hat3 (H2.out.2.2.2.trans' hk3))));clear hb3 hpq hat3 hk3 hp)));have hpc:(pc:Int) < 256:=by have:=H3.out.2.1.2;omega
 have hwp:IntKind.u8.wrap (pc:Int)=(pc:Int):=by have h8:IntKind.u8.wrap (pc:Int)=(pc:Int) % 256:=rfl;rw [h8];omega
 have hB:=Blk.new w3 64 #[.int .i64 pc,.slice a3 n3 k3];have hK:=(kR Nope w3).alloc (.cells #[.int .i64 pc,.slice a3 n3 k3] 64);generalize w3.alloc (.cells #[.int .i64 pc,.slice a3 n3 k3] 64)=W6 at hB hK ⊢;have hg3:w3.heap.size < W6.heap.size:=hB.lt;generalize hge:w3.heap.size=g at hB hg3 ⊢;have HGE:=hid hge;have HKW:=hid hK;have hO:BRow (w.heap.size+1) W6 (.slice p5 ([UInt8.ofNat 0].length+be4.length) c5) ([UInt8.ofNat 0] ++ be4):=(H5.out.1.keep H3.out.2.2.2 (fun b hb e=>by have e':b=f:=e;have:=HF.out.lt;omega)).nope HKW.out;have hod:∀ b,OwnB (.slice p5 ([UInt8.ofNat 0].length+be4.length) c5) b->b < g:=fun b hb=>(by have h1:=(H5.out.1.lt b hb).2;have h2:=H3.out.2.2.2.size;have h3:=HGE.out;omega)
 have HO:=hid (aI hO hod);have HM6:Hid (∀ w',Kept (OwnB (.slice p5 ([UInt8.ofNat 0].length+be4.length) c5)) W6 w'->w'.cell? ⟨g,0,none⟩=some (.int .i64 pc)/\w'.cell? ⟨g,1,none⟩=some (.slice a3 n3 k3)):=hid fun w' h=>by have hb:=hB.kept h (fun e=>by have:=hod _ e;omega);exact ⟨hb.cell 0,hb.cell 1⟩
 have HBB:Hid ((w.heap.size+1)<=W6.heap.size):=hid (by have h1:=H5.out.2.1.size;have h2:=H3.out.2.2.2.size;have h3:=HGE.out;omega);clear hB hK hge hO hod z0 z1
 go_region_held3 (fun w'=>w'.cell? ⟨g,0,none⟩=some (.int .i64 pc)/\w'.cell? ⟨g,1,none⟩=some (.slice a3 n3 k3)) (first | exact HM6.out _ (kR _ W6).drew | exact HM6.out _ ‹Kept (OwnB (.slice p5 ([UInt8.ofNat 0].length+be4.length) c5)) W6 _› | exact HM6.out _ ((kR _ W6).alloc _) | exact HM6.out _ ((kR _ W6).drew.alloc _) | exact HM6.out _ ((kR _ W6).alloc _).drew) (first | (refine xbm _ (.tmp 30) (.tmp 34) rfl rfl (w.heap.size+1) _ _ rfl (HO.out.1.nope ((kR Nope W6).alloc _)) Any_ _ _ rfl (xnc rfl H3.out.2.1.2) (by have h3:=HRM.out;have h9:=HLB.out;simp <;> omega) (by have h2:=HBB.out;simp <;> omega) ?_;intro p7 c7 w7 ha7;have hS7:Kept (OwnB (.slice p5 ([UInt8.ofNat 0].length+be4.length) c5)) W6 w7:=Kept.trans' (Kept.nope ((kR Nope W6).alloc _)) ha7.2.1;have hN7:∀ b,OwnB (.slice p7 _ c7) b->OwnB (.slice p5 ([UInt8.ofNat 0].length+be4.length) c5) b\/W6.heap.size<=b:=(fun b hb=>by rcases ha7.2.2 with e | e;exact .inl (e.symm.trans hb);exact .inr (by have e2:=e.symm.trans hb;have e3:=Option.some.inj e2;simp at e3;omega));have H7:=hid (aI ha7.1 (aI hS7 hN7));clear ha7 hN7) | (refine xbm _ (.tmp 30) (.tmp 34) rfl rfl (w.heap.size+1) _ _ rfl (HO.out.1.nope ((kR Nope W6).alloc _).drew) Any_ _ _ rfl (xog rfl H3.out.2.1.2) (by have h3:=HRM.out;have h9:=HLB.out;simp <;> omega) (by have h2:=HBB.out;simp <;> omega) ?_;intro p7 c7 w7 ha7;have hS7:Kept (OwnB (.slice p5 ([UInt8.ofNat 0].length+be4.length) c5)) W6 w7:=Kept.trans' (Kept.nope ((kR Nope W6).alloc _).drew) ha7.2.1;have hN7:∀ b,OwnB (.slice p7 _ c7) b->OwnB (.slice p5 ([UInt8.ofNat 0].length+be4.length) c5) b\/W6.heap.size<=b:=(fun b hb=>by rcases ha7.2.2 with e | e;exact .inl (e.symm.trans hb);exact .inr (by have e2:=e.symm.trans hb;have e3:=Option.some.inj e2;simp at e3;omega));have H7:=hid (aI ha7.1 (aI hS7 hN7));clear ha7 hN7) | (refine xbm _ (.tmp 35) (.tmp 37) rfl rfl (w.heap.size+1) _ _ rfl H7.out.1 _ _ _ rfl (H3.out.1.keep (HKW.out.nope.trans' H7.out.2.1) (fun b _ hb e=>by have h1:=(H5.out.1.lt b e).2;omega)) (by have h2:=H3.out.2.1.1.len;have h3:=HRM.out;have h9:=HLB.out;simp <;> omega) (by have h1:=H7.out.2.1.size;have h2:=HBB.out;omega) ?_;intro p8 c8 w8 ha8;have hS8:=H7.out.2.1.trans ha8.2.1 (fun b hb e=>(H7.out.2.2 b e).elim id (fun h=>by omega));have H8:=hid (aI ha8.1 hS8);clear ha8))
 go_wp2;go_ret;have hk8:Kept (Only f) w _:=((H5.out.2.1.trans' (H3.out.2.2.2.trans' HKW.out.nope))).trans H8.out.2 (fun b hb e=>(by have:=H5.out.1.own b e;omega));refine ⟨_,_,rfl,(by have h:=BRow.mono H8.out.1 (Nat.le_succ _);have e:([UInt8.ofNat 0] ++ be4 ++ [UInt8.ofNat pc]).length+pdt.length=be4.length+1+1+pdt.length:=(by simp only [lA,lC,List.length_nil];omega);rw [e] at h;exact h),(by have h:=Enc.desc HDE.out H4.out.2.1 H3.out.2.1.1;simpa using h),?_,hk8⟩;exact (H3.out.2.2.1.keep (HKW.out) (fun h=>h)).keep H8.out.2 (fun e=>(by have:=H5.out.1.own _ e;have:=HF.out.lt;omega))
theorem Own.bare {v:V} (h:Own v):Own v.bare:=⟨h.kind,h.leaf,h.text,h.num,Nat.zero_le _,h.few,h.size,fun d hd=>by cases hd⟩
theorem Fits.bare {v:V} (h:Fits v):Fits v.bare:=.mk h.own.bare ⟨h.content.flag,h.content.n1,h.content.n2,h.content.n4,h.content.s1,h.content.s2,h.content.s4,h.content.wide,h.content.utf,h.content.ascii,h.content.even,h.content.arr⟩ (fun k hk=>h.kid hk) (fun k hk=>by cases hk)
theorem xie {d:V} (h:Fits d) (hd:(d.kind=5\/d.kind=20)/\d.desc=[]):d.room<=1000000:=by
 have hk:d.kids=[]:=by
  rcases h.own.leaf with h1 | h1 | h1 | h1
  ·omega
  ·omega
  ·omega
  ·exact h1
 have h2:=d.room_eq;have h3:=h.own.size;rw [hk,hd.2] at h2;simp only [sumOf] at h2;omega
theorem pieces_any (v:V) (hfi:Fits v) (hnn:0<=v.num/\v.num<=18446744073709551615) (hroom:v.room<=1000000000) (ihk:∀ k ∈ v.kids,xio k/\xcO k.bare) (ihd:∀ k ∈ v.kids,∀ d ∈ k.desc,xio d):xcO v:=by
 intro W f x hf hx;have hs:=hfi.own.size;have hl:=hfi.own.few
 rcases xdm hfi.own.kind with h | h | h | h | h | h | h | h | h | h | h | h | h | h | h | h | h | h | h | h | h | h | h | h
 ·exact pieces_0 v f W x h hf hx
 ·exact pieces_1 v f W x h (by have:=hfi.content.flag h;omega) hf hx
 all_goals first
  | exact xoI v f W x (by unfold xay;omega) hnn hf hx
  | exact xpL v f W x h (hfi.content.wide (.inl h)) hf hx
  | exact xpK v f W x h (hfi.content.wide (.inr h)) hf hx
  | exact xpJ v f W x h hs hf hx
  | exact xpI v f W x h hs hf hx
  | exact xpH v f W x h hs hf hx
  | exact xpG v f W x h hl hroom (fun k hk=>(ihk k hk).1) hf hx
  | exact xpF v f W x h hl hroom (fun k hk=>(ihk k hk).1) hf hx
  | skip
 refine xpE v f W x h (fun W x hf hx => ?_) hf hx
 cases hkd:v.kids with
 | nil=>exact xqi v f W x h hkd hfi hf hx
 | cons k0 r =>
  have h0:v.kids[0]? = some k0:=by rw [hkd];rfl
  have hm:=gm h0
  cases hdd:k0.desc with
  | nil=>exact xnw v k0 f W x h h0 hdd hfi hroom hf hx (fun k hk=>(ihk k hk).2)
  | cons dd r2 =>
   have hf0:=hfi.kid hm
   have h1:k0.desc=[dd]:=by
    have:=hf0.own.desc;rw [hdd] at this ⊢;simp only [lC] at this;rw [List.eq_nil_of_length_eq_zero (by omega:r2.length=0)]
   have hmd:dd ∈ k0.desc:=by rw [h1];simp
   exact xpb v k0 dd f W x h h0 h1 hfi hroom hf hx (fun k hk=>(ihk k hk).2) (ihd k0 hm dd hmd) (xie (hf0.descr hmd) (hf0.own.dkind dd hmd))
theorem put_all:∀ (n:Nat) (v:V),SizeOf.sizeOf v<=n->Fits v->Nums v->v.room<=1000000000->xio v/\xcO v/\xcO v.bare:=by
 intro n
 induction n using Nat.strongRecOn with
 | _ n ih =>
  intro v hn hfi hnu hroom;have hnum:0<=v.num/\v.num<=18446744073709551615:=by cases hnu;assumption
  have hnk:∀ k ∈ v.kids,Nums k:=by cases hnu;assumption
  have hnd:∀ k ∈ v.desc,Nums k:=by cases hnu;assumption
  have hre:=v.room_eq
  have hk:∀ k ∈ v.kids,xio k/\xcO k.bare:=fun k hk=>by
   have h:=ih (SizeOf.sizeOf k) (by have:=V.sizeOf_kid hk;omega) k (Nat.le_refl _) (hfi.kid hk) (hnk k hk) (by have:=xdP hk;omega);exact ⟨h.1,h.2.2⟩
  have hkd:∀ k ∈ v.kids,∀ d ∈ k.desc,xio d:=fun k hk d hd=>by
   have hkn:=hnk k hk;have hkdn:∀ x ∈ k.desc,Nums x:=by cases hkn;assumption
   exact (ih (SizeOf.sizeOf d) (by have:=V.sizeOf_kid hk;have:=V.sizeOf_desc hd;omega) d (Nat.le_refl _) ((hfi.kid hk).descr hd) (hkdn d hd) (by have:=xie ((hfi.kid hk).descr hd) ((hfi.kid hk).own.dkind d hd);omega)).1
  have hp:=pieces_any v hfi hnum hroom hk hkd;have hpb:=pieces_any v.bare hfi.bare hnum (by have h1:=v.room_inner;have h2:=v.bare.room_inner;have h3:v.bare.inner=v.inner:=rfl;have h4:sumOf V.room v.bare.desc=0:=rfl;omega) hk hkd;refine ⟨?_,hp,hpb⟩
  cases hd:v.desc with
  | nil=>exact xmi v hp hd hroom
  | cons dd r2 =>
   have h1:v.desc=[dd]:=by
    have:=hfi.own.desc;rw [hd] at this ⊢;simp only [lC] at this;rw [List.eq_nil_of_length_eq_zero (by omega:r2.length=0)]
   have hmd:dd ∈ v.desc:=by rw [h1];simp
   exact xkt v dd hp h1 (ih (SizeOf.sizeOf dd) (by have:=V.sizeOf_desc hmd;omega) dd (Nat.le_refl _) (hfi.descr hmd) (hnd dd hmd) (by have:=xie (hfi.descr hmd) (hfi.own.dkind dd hmd);omega)).1 hroom
theorem xcF {w w1:World} {a b c d e f:Value} {t:TypeId} (h:Kept Nope (w.alloc (.cells #[a,b,c,d,e,f] t)) w1) :
  w1.cell? ⟨w.heap.size,0,none⟩=some a/\w1.cell? ⟨w.heap.size,1,none⟩=some b/\w1.cell? ⟨w.heap.size,2,none⟩=some c/\w1.cell? ⟨w.heap.size,3,none⟩=some d/\w1.cell? ⟨w.heap.size,4,none⟩=some e/\w1.cell? ⟨w.heap.size,5,none⟩=some f/\Hid (Kept Nope w w1):=by
 have hb:=(Blk.new w t #[a,b,c,d,e,f]).kept h (fun h=>h);exact ⟨hb.cell 0,hb.cell 1,hb.cell 2,hb.cell 3,hb.cell 4,hb.cell 5,hid (((kR Nope w).alloc _).trans' h)⟩
def FxOk (k sz:Int):Prop:=∀ W,Calls prog 151 #[.int .i64 k] W fun e w'=>e = .returned (.int .i64 sz)/\Kept Nope W w'
def CfOk (k n:Int) (t:ByteArray) (ks ds:Value) (o:Int) (w:World) (P:Prop):Prop:=Calls prog 148 #[.agg #[.int .i64 k,.int .u64 n,.string t,ks,.int .i64 o,ds]] w (AskT P w)
theorem xhH (b:Bool) {w w':World} (h:Kept Nope w w'):AskT True w (.returned (.bool b)) w':=by
 cases b
 ·exact ⟨.inr rfl,h⟩
 ·exact ⟨.inl ⟨rfl,trivial⟩,h⟩
def uT:List (Int × Int × Int × Int):=[(2,1,256,72057594037927936),(3,2,65536,281474976710656),(4,4,4294967296,4294967296),(10,4,4294967296,4294967296),(12,4,4294967296,4294967296)]
set_option maxHeartbeats 6400000 in
theorem xcC (k sz B M n:Int) (t:ByteArray) (ks ds:Value) (o:Int) (w:World) (hT:(k,sz,B,M) ∈ uT) (hn:0<=n/\n<=18446744073709551615) (hfx:FxOk k sz):CfOk k n t ks ds o w (n < B):=by
 have hd:¬ n < B->(IntKind.u64.wrap (n*M) / M != n)=true:=fun h=>by
  rw [bne_iff_ne];have e:IntKind.u64.wrap (n*M)=(n*M) % 18446744073709551616:=rfl;rw [e];simp only [uT,List.mem_cons,List.mem_nil_iff,or_false,Prod.mk.injEq] at hT
  rcases hT with ⟨_,_,rfl,rfl⟩ | ⟨_,_,rfl,rfl⟩ | ⟨_,_,rfl,rfl⟩ | ⟨_,_,rfl,rfl⟩ | ⟨_,_,rfl,rfl⟩ <;> omega
 have HD:=hid hd;have HC:=hid (Classical.em (n < B));have HFX:=hid hfx;clear hfx hd;simp only [uT,List.mem_cons,List.mem_nil_iff,or_false,Prod.mk.injEq] at hT
 rcases hT with ⟨rfl,rfl,rfl,rfl⟩ | ⟨rfl,rfl,rfl,rfl⟩ | ⟨rfl,rfl,rfl,rfl⟩ | ⟨rfl,rfl,rfl,rfl⟩ | ⟨rfl,rfl,rfl,rfl⟩
 all_goals
  unfold CfOk;go_enter func148,ntmps148;go_wp2_with (go_at_call 151;go_must (refine (HFX.out _).mono ?_;rintro e w1 ⟨rfl,hk1⟩;obtain ⟨c0,c1,c2,c3,c4,c5,HK⟩:=xcF hk1;clear hk1;generalize w.heap.size=A at c0 c1 c2 c3 c4 c5 ⊢))
  rcases HC.out with h | h
  ·go_quiet (fail);go_wp2;go_ret;refine ⟨?_,HK.out.trans' ((kR Nope _).drewN _)⟩;cases o == 0
   ·exact .inr rfl
   ·exact .inl ⟨rfl,h⟩
  ·have hd:=HD.out h;go_quiet (fail);go_wp2;go_ret;exact ⟨.inr rfl,HK.out.trans' ((kR Nope _).drewN _)⟩
set_option maxHeartbeats 6400000 in
theorem xka (n:Int) (t:ByteArray) (ks ds:Value) (o:Int) (w:World) (hn:0<=n/\n<=18446744073709551615) (hfx:FxOk 6 1):CfOk 6 n t ks ds o w (n < 128\/18446744073709551488<=n):=by
 have HFX:=hid hfx;have hs:=sgn_6 n hn;clear hfx hn;unfold CfOk;go_enter func148,ntmps148;go_wp2_with (go_at_call 151;go_must (refine (HFX.out _).mono ?_;rintro e w1 ⟨rfl,hk1⟩;obtain ⟨c0,c1,c2,c3,c4,c5,HK⟩:=xcF hk1;clear hk1;generalize w.heap.size=A at c0 c1 c2 c3 c4 c5 ⊢));obtain ⟨x,hx⟩:∃ x,IntKind.u64.wrap (n*72057594037927936)=x:=⟨_,rfl⟩
 rw [hx] at hs;obtain ⟨y,hy⟩:∃ y,IntKind.i64.wrap x=y:=⟨_,rfl⟩
 rw [hy] at hs;obtain ⟨z,hz⟩:∃ z,IntKind.u64.wrap (y / 72057594037927936)=z:=⟨_,rfl⟩
 rw [hz] at hs;have HS:=hid hs;clear hs
 by_cases h:z=n
 ·have H:=hid h;have hd:(z != n)=false:=by rw [bne_eq_false_iff_eq];exact h
  clear h;go_quiet (fail);go_wp2;go_ret;refine ⟨?_,HK.out.trans' ((kR Nope _).drewN _)⟩;cases o == 0
  ·exact .inr rfl
  ·exact .inl ⟨rfl,HS.out.1 H.out⟩
 ·have hd:(z != n)=true:=by rw [bne_iff_ne];exact h
  clear h;go_quiet (fail);go_wp2;go_ret;exact ⟨.inr rfl,HK.out.trans' ((kR Nope _).drewN _)⟩
set_option maxHeartbeats 6400000 in
theorem xjZ (n:Int) (t:ByteArray) (ks ds:Value) (o:Int) (w:World) (hn:0<=n/\n<=18446744073709551615) (hfx:FxOk 7 2):CfOk 7 n t ks ds o w (n < 32768\/18446744073709518848<=n):=by
 have HFX:=hid hfx;have hs:=sgn_7 n hn;clear hfx hn;unfold CfOk;go_enter func148,ntmps148;go_wp2_with (go_at_call 151;go_must (refine (HFX.out _).mono ?_;rintro e w1 ⟨rfl,hk1⟩;obtain ⟨c0,c1,c2,c3,c4,c5,HK⟩:=xcF hk1;clear hk1;generalize w.heap.size=A at c0 c1 c2 c3 c4 c5 ⊢));obtain ⟨x,hx⟩:∃ x,IntKind.u64.wrap (n*281474976710656)=x:=⟨_,rfl⟩
 rw [hx] at hs;obtain ⟨y,hy⟩:∃ y,IntKind.i64.wrap x=y:=⟨_,rfl⟩
 rw [hy] at hs;obtain ⟨z,hz⟩:∃ z,IntKind.u64.wrap (y / 281474976710656)=z:=⟨_,rfl⟩
 rw [hz] at hs;have HS:=hid hs;clear hs
 by_cases h:z=n
 ·have H:=hid h;have hd:(z != n)=false:=by rw [bne_eq_false_iff_eq];exact h
  clear h;go_quiet (fail);go_wp2;go_ret;refine ⟨?_,HK.out.trans' ((kR Nope _).drewN _)⟩;cases o == 0
  ·exact .inr rfl
  ·exact .inl ⟨rfl,HS.out.1 H.out⟩
 ·have hd:(z != n)=true:=by rw [bne_iff_ne];exact h
  clear h;go_quiet (fail);go_wp2;go_ret;exact ⟨.inr rfl,HK.out.trans' ((kR Nope _).drewN _)⟩
set_option maxHeartbeats 6400000 in
theorem xjY (n:Int) (t:ByteArray) (ks ds:Value) (o:Int) (w:World) (hn:0<=n/\n<=18446744073709551615) (hfx:FxOk 8 4):CfOk 8 n t ks ds o w (n < 2147483648\/18446744071562067968<=n):=by
 have HFX:=hid hfx;have hs:=sgn_8 n hn;clear hfx hn;unfold CfOk;go_enter func148,ntmps148;go_wp2_with (go_at_call 151;go_must (refine (HFX.out _).mono ?_;rintro e w1 ⟨rfl,hk1⟩;obtain ⟨c0,c1,c2,c3,c4,c5,HK⟩:=xcF hk1;clear hk1;generalize w.heap.size=A at c0 c1 c2 c3 c4 c5 ⊢));obtain ⟨x,hx⟩:∃ x,IntKind.u64.wrap (n*4294967296)=x:=⟨_,rfl⟩
 rw [hx] at hs;obtain ⟨y,hy⟩:∃ y,IntKind.i64.wrap x=y:=⟨_,rfl⟩
 rw [hy] at hs;obtain ⟨z,hz⟩:∃ z,IntKind.u64.wrap (y / 4294967296)=z:=⟨_,rfl⟩
 rw [hz] at hs;have HS:=hid hs;clear hs
 by_cases h:z=n
 ·have H:=hid h;have hd:(z != n)=false:=by rw [bne_eq_false_iff_eq];exact h
  clear h;go_quiet (fail);go_wp2;go_ret;refine ⟨?_,HK.out.trans' ((kR Nope _).drewN _)⟩;cases o == 0
  ·exact .inr rfl
  ·exact .inl ⟨rfl,HS.out.1 H.out⟩
 ·have hd:(z != n)=true:=by rw [bne_iff_ne];exact h
  clear h;go_quiet (fail);go_wp2;go_ret;exact ⟨.inr rfl,HK.out.trans' ((kR Nope _).drewN _)⟩
set_option maxHeartbeats 6400000 in
theorem xek (k n:Int) (t:ByteArray) (ks ds:Value) (o:Int) (w:World) (hk:k=0\/k=18\/k=21) (hfx:FxOk k (-1)):CfOk k n t ks ds o w True:=by
 have HFX:=hid hfx;clear hfx
 rcases hk with rfl | rfl | rfl
 all_goals
  unfold CfOk;go_enter func148,ntmps148;go_wp2_with (go_at_call 151;go_must (refine (HFX.out _).mono ?_;rintro e w1 ⟨rfl,hk1⟩;obtain ⟨c0,c1,c2,c3,c4,c5,HK⟩:=xcF hk1;clear hk1;generalize w.heap.size=A at c0 c1 c2 c3 c4 c5 ⊢));go_ret;refine ⟨?_,HK.out⟩;cases o == 0
  ·exact .inr rfl
  ·exact .inl ⟨rfl,trivial⟩
set_option maxHeartbeats 6400000 in
theorem xkb (n:Int) (t:ByteArray) (ks ds:Value) (o:Int) (w:World) (hfx:FxOk 1 (-1)):CfOk 1 n t ks ds o w (n<=1):=by
 have HFX:=hid hfx;clear hfx;unfold CfOk;go_enter func148,ntmps148;go_wp2_with (go_at_call 151;go_must (refine (HFX.out _).mono ?_;rintro e w1 ⟨rfl,hk1⟩;obtain ⟨c0,c1,c2,c3,c4,c5,HK⟩:=xcF hk1;clear hk1;generalize w.heap.size=A at c0 c1 c2 c3 c4 c5 ⊢));go_ret;refine ⟨?_,HK.out⟩
 by_cases h:n<=1
 ·exact .inl ⟨congrArg (fun b=>Ending.returned (.bool b)) (decide_eq_true h),h⟩
 ·exact .inr (congrArg (fun b=>Ending.returned (.bool b)) (decide_eq_false h))
set_option maxHeartbeats 6400000 in
theorem xgb (k n:Int) (t:ByteArray) (ks ds:Value) (o:Int) (w:World) (hk:k=14\/k=17) (hfx:FxOk k 16):CfOk k n t ks ds o w (t.size=16):=by
 have HFX:=hid hfx;clear hfx
 by_cases h:t.size=16
 ·have h':(((t.size:Nat):Int) == 16)=true:=by simp [h]
  have H:=hid h;clear h
  rcases hk with rfl | rfl
  all_goals
   unfold CfOk;go_enter func148,ntmps148;go_wp2_with (go_at_call 151;go_must (refine (HFX.out _).mono ?_;rintro e w1 ⟨rfl,hk1⟩;obtain ⟨c0,c1,c2,c3,c4,c5,HK⟩:=xcF hk1;clear hk1;generalize w.heap.size=A at c0 c1 c2 c3 c4 c5 ⊢));go_ret;exact ⟨.inl ⟨rfl,H.out⟩,HK.out⟩
 ·have h':(((t.size:Nat):Int) == 16)=false:=by simpa using (by omega:¬ ((t.size:Nat):Int)=16)
  clear h
  rcases hk with rfl | rfl
  all_goals
   unfold CfOk;go_enter func148,ntmps148;go_wp2_with (go_at_call 151;go_must (refine (HFX.out _).mono ?_;rintro e w1 ⟨rfl,hk1⟩;obtain ⟨c0,c1,c2,c3,c4,c5,HK⟩:=xcF hk1;clear hk1;generalize w.heap.size=A at c0 c1 c2 c3 c4 c5 ⊢));go_ret;exact ⟨.inr rfl,HK.out⟩
set_option maxHeartbeats 6400000 in
theorem xiF (n:Int) (t:ByteArray) (ks ds:Value) (o:Int) (w:World) (ht:t.size<=maxLen) (hT:Tabs w) (hfx:FxOk 19 (-1)):CfOk 19 n t ks ds o w (Lib.validD (bytesOf t)=true):=by
 have HT:=hid (aI hT ht);clear hT ht;have HFX:=hid hfx;clear hfx;unfold CfOk;go_enter func148,ntmps148;go_wp2_with (first | (go_at_call 151;go_must (refine (HFX.out _).mono ?_;rintro e w1 ⟨rfl,hk1⟩;obtain ⟨c0,c1,c2,c3,c4,c5,HK⟩:=xcF hk1;clear hk1;generalize w.heap.size=A at c0 c1 c2 c3 c4 c5 ⊢)) | (go_at_call 189;go_must (refine (xjA t _ HT.out.2 (HT.out.1.nope HK.out)).mono ?_;rintro e w2 ⟨rfl,hk2⟩;have HK2:=hid (HK.out.trans' hk2);clear hk2)));go_ret;refine ⟨?_,HK2.out⟩;cases h:Lib.validD (bytesOf t)
 ·exact .inr rfl
 ·exact .inl ⟨rfl,rfl⟩
set_option maxHeartbeats 6400000 in
theorem xiE (n:Int) (t:ByteArray) (ks ds:Value) (o:Int) (w:World) (ht:t.size<=maxLen) (hfx:FxOk 20 (-1)):CfOk 20 n t ks ds o w (∀ b ∈ bytesOf t,b.toNat < 128):=by
 have HT:=hid ht;clear ht;have HFX:=hid hfx;clear hfx;unfold CfOk;go_enter func148,ntmps148;go_wp2_with (first | (go_at_call 151;go_must (refine (HFX.out _).mono ?_;rintro e w1 ⟨rfl,hk1⟩;obtain ⟨c0,c1,c2,c3,c4,c5,HK⟩:=xcF hk1;clear hk1;generalize w.heap.size=A at c0 c1 c2 c3 c4 c5 ⊢)) | (go_at_call 190;go_must (refine (xlE t _ HT.out).mono ?_;rintro e w2 ⟨⟨rfl,hb⟩ | rfl,hk2⟩;all_goals have HK2:=hid (HK.out.trans' hk2);all_goals clear hk2)))
 ·go_ret;exact ⟨.inl ⟨rfl,hb⟩,HK2.out⟩
 ·go_ret;exact ⟨.inr rfl,HK2.out⟩
set_option maxHeartbeats 6400000 in
theorem xiD (n:Int) (t:ByteArray) (p:Option Addr) (m c:Nat) (ds:Value) (o:Int) (w:World) (hm:m<=1000) (hfx:FxOk 22 (-1)):CfOk 22 n t (.slice p m c) ds o w (m % 2=0):=by
 have HFX:=hid hfx;clear hfx
 by_cases h:m % 2=0
 ·have h':((m:Int) % 2 == 0)=true:=by simpa using (by omega:(m:Int) % 2=0)
  have H:=hid h;clear h;unfold CfOk;go_enter func148,ntmps148;go_wp2_with (go_at_call 151;go_must (refine (HFX.out _).mono ?_;rintro e w1 ⟨rfl,hk1⟩;obtain ⟨c0,c1,c2,c3,c4,c5,HK⟩:=xcF hk1;clear hk1;generalize w.heap.size=A at c0 c1 c2 c3 c4 c5 ⊢));go_ret;exact ⟨.inl ⟨rfl,H.out⟩,HK.out⟩
 ·have h':((m:Int) % 2 == 0)=false:=by simpa using (by omega:¬ (m:Int) % 2=0)
  clear h;unfold CfOk;go_enter func148,ntmps148;go_wp2_with (go_at_call 151;go_must (refine (HFX.out _).mono ?_;rintro e w1 ⟨rfl,hk1⟩;obtain ⟨c0,c1,c2,c3,c4,c5,HK⟩:=xcF hk1;clear hk1;generalize w.heap.size=A at c0 c1 c2 c3 c4 c5 ⊢));go_ret;exact ⟨.inr rfl,HK.out⟩
set_option maxHeartbeats 6400000 in
theorem xdg (k n:Int) (t:ByteArray) (ks ds:Value) (o:Int) (w:World) (hk:k=5\/k=11\/k=13\/k=16) (hn:0<=n/\n<=18446744073709551615) (hfx:FxOk k 8):CfOk k n t ks ds o w True:=by
 have hw:IntKind.u64.wrap n=n:=by rw [IntKind.wrap_u64];omega
 have hd:(IntKind.u64.wrap n != n)=false:=by rw [hw];simp
 have HFX:=hid hfx;clear hfx hw hn
 rcases hk with rfl | rfl | rfl | rfl
 all_goals
  unfold CfOk;go_enter func148,ntmps148;go_wp2_with (go_at_call 151;go_must (refine (HFX.out _).mono ?_;rintro e w1 ⟨rfl,hk1⟩;obtain ⟨c0,c1,c2,c3,c4,c5,HK⟩:=xcF hk1;clear hk1;generalize w.heap.size=A at c0 c1 c2 c3 c4 c5 ⊢));go_quiet (fail);go_wp2;go_ret;exact xhH _ (HK.out.trans' ((kR Nope _).drewN _))
set_option maxHeartbeats 6400000 in
theorem xiG (n:Int) (t:ByteArray) (ks ds:Value) (o:Int) (w:World) (hn:0<=n/\n<=18446744073709551615) (hfx:FxOk 15 4):CfOk 15 n t ks ds o w True:=by
 have HFX:=hid hfx;clear hfx;refine (Classical.em (n < 4294967296)).elim (fun h => ?_) (fun h => ?_)
 ·by_cases h1:n<=1114111
  ·rcases (show n < 55296\/(¬ n < 55296/\¬ 57343 < n)\/57343 < n by omega) with h2 | ⟨h2,h3⟩ | h2
   all_goals
    unfold CfOk;go_enter func148,ntmps148;go_wp2_with (go_at_call 151;go_must (refine (HFX.out _).mono ?_;rintro e w1 ⟨rfl,hk1⟩;obtain ⟨c0,c1,c2,c3,c4,c5,HK⟩:=xcF hk1;clear hk1;generalize w.heap.size=A at c0 c1 c2 c3 c4 c5 ⊢));go_quiet (fail);go_wp2;go_ret;exact xhH _ (HK.out.trans' ((kR Nope _).drewN _))
  ·have h1':1114111 < n:=by omega
   unfold CfOk;go_enter func148,ntmps148;go_wp2_with (go_at_call 151;go_must (refine (HFX.out _).mono ?_;rintro e w1 ⟨rfl,hk1⟩;obtain ⟨c0,c1,c2,c3,c4,c5,HK⟩:=xcF hk1;clear hk1;generalize w.heap.size=A at c0 c1 c2 c3 c4 c5 ⊢));go_quiet (fail);go_wp2;go_ret;exact xhH _ (HK.out.trans' ((kR Nope _).drewN _))
 ·have hd:(IntKind.u64.wrap (n*4294967296) / 4294967296 != n)=true:=by
   rw [bne_iff_ne];have e:IntKind.u64.wrap (n*4294967296)=(n*4294967296) % 18446744073709551616:=rfl;rw [e];omega
  unfold CfOk;go_enter func148,ntmps148;go_wp2_with (go_at_call 151;go_must (refine (HFX.out _).mono ?_;rintro e w1 ⟨rfl,hk1⟩;obtain ⟨c0,c1,c2,c3,c4,c5,HK⟩:=xcF hk1;clear hk1;generalize w.heap.size=A at c0 c1 c2 c3 c4 c5 ⊢));go_quiet (fail);go_wp2;go_ret;exact ⟨.inr rfl,HK.out.trans' ((kR Nope _).drewN _)⟩
set_option maxHeartbeats 6400000 in
theorem xjX (n:Int) (t:ByteArray) (ks ds:Value) (o:Int) (w:World) (hn:0<=n/\n<=18446744073709551615) (hfx:FxOk 9 8):CfOk 9 n t ks ds o w True:=by
  have hw:IntKind.u64.wrap n=n:=by rw [IntKind.wrap_u64];omega
  have hv:IntKind.u64.wrap (IntKind.i64.wrap n)=n:=by rw [xlt _ hn,IntKind.wrap_u64];split <;> omega
  obtain ⟨x,hx⟩:∃ x,IntKind.u64.wrap n=x:=⟨_,rfl⟩
  obtain ⟨y,hy⟩:∃ y,IntKind.i64.wrap x=y:=⟨_,rfl⟩
  obtain ⟨z,hz⟩:∃ z,IntKind.u64.wrap y=z:=⟨_,rfl⟩
  have hd:(z != n)=false:=by rw [<- hz,<- hy,<- hx,hw,hv];simp
  clear hv hw hn;have HFX:=hid hfx;clear hfx;unfold CfOk;go_enter func148,ntmps148;go_wp2_with (go_at_call 151;go_must (refine (HFX.out _).mono ?_;rintro e w1 ⟨rfl,hk1⟩;obtain ⟨c0,c1,c2,c3,c4,c5,HK⟩:=xcF hk1;clear hk1;generalize w.heap.size=A at c0 c1 c2 c3 c4 c5 ⊢));go_quiet (fail);go_wp2;go_ret;exact xhH _ (HK.out.trans' ((kR Nope _).drewN _))
theorem AskT.to {P Q:Prop} {w w':World} {e:Ending} (h:AskT P w e w') (f:P->Q):AskT Q w e w':=⟨h.1.imp (fun g=>⟨g.1,f g.2⟩) id,h.2⟩
theorem xcn (k sz:Int) (hk:1 < k/\k < 18) (h:look fixT k=sz):FxOk k sz:=fun W=>by
 have:=xeD k 0 W (.inl rfl) (fun W=>xge k W hk);rw [Int.sub_zero,h] at this;exact this
theorem fx_one (k:Int) (hk:k=0\/k=1\/18<=k) (h:look fixT k=0):FxOk k (-1):=fun W=>by
 have:=xeD k 1 W (.inr rfl) (fun W=>xlz k W hk);rw [h] at this;exact this
theorem content_of {v:V} (h1:v.kind=1->v.num<=1) (h2:v.kind=2->v.num < 256) (h3:v.kind=3->v.num < 65536) (h4:v.kind=4\/v.kind=10->v.num < 4294967296)
  (h6:v.kind=6->v.num < 128\/18446744073709551488<=v.num) (h7:v.kind=7->v.num < 32768\/18446744073709518848<=v.num) (h8:v.kind=8->v.num < 2147483648\/18446744071562067968<=v.num)
  (ht:v.kind=14\/v.kind=17->v.text.size=16) (h19:v.kind=19->Go.Lib.validD (bytesOf v.text)=true) (h20:v.kind=20->∀ b ∈ bytesOf v.text,b.toNat < 128) (h22:v.kind=22->v.kids.length % 2=0) (h23:v.kind≠23):xeQ v :=
 ⟨h1,h2,h3,h4,h6,h7,h8,ht,h19,h20,h22,fun h=>absurd h h23⟩
theorem xjW (v:V) (w:World) (xa:Value) (ha:VAgg Any_ w xa v) (hk:0<=v.kind/\v.kind < 23) (hf:v.kids.length<=1000) (hs:v.text.size<=131072) (hT:Tabs w):Calls prog 148 #[xa] w (AskT (xeQ v) w):=by
 obtain ⟨ks,ds,rfl,hn,hks,hds⟩:=ha
 replace hn:=hn.num
 obtain ⟨pk,ck,rfl,_⟩:=hks.form;have hm:v.text.size<=maxLen:=by unfold maxLen;omega
 unfold vagg;have hc:v.kind=0\/v.kind=1\/v.kind=2\/v.kind=3\/v.kind=4\/v.kind=5\/v.kind=6\/v.kind=7\/v.kind=8\/v.kind=9\/v.kind=10\/v.kind=11\/v.kind=12\/v.kind=13\/v.kind=14\/v.kind=15\/v.kind=16\/v.kind=17\/v.kind=18\/v.kind=19\/v.kind=20\/v.kind=21\/v.kind=22:=by omega
 have key:∀ P:Prop,CfOk v.kind v.num v.text (.slice pk v.kids.length ck) ds v.of_ w P->(P->xeQ v)->Calls prog 148 #[.agg #[.int .i64 v.kind,.int .u64 v.num,.string v.text,.slice pk v.kids.length ck,.int .i64 v.of_,ds]] w (AskT (xeQ v) w):=fun P h f=>by
  unfold CfOk at h;exact h.mono fun _ _ g=>g.to f
 rcases hc with h | h | h | h | h | h | h | h | h | h | h | h | h | h | h | h | h | h | h | h | h | h | h
 ·refine key _ (by rw [h];exact xek _ _ _ _ _ _ _ (.inl rfl) (fx_one _ (by omega) (by decide))) (fun _ => ?_);apply content_of <;> omega
 ·refine key _ (by rw [h];exact xkb _ _ _ _ _ _ (fx_one _ (by omega) (by decide))) (fun g => ?_);apply content_of <;> omega
 ·refine key _ (by rw [h];exact xcC 2 1 256 72057594037927936 _ _ _ _ _ _ (by simp [uT]) hn (xcn _ _ (by omega) (by decide))) (fun g => ?_);apply content_of <;> omega
 ·refine key _ (by rw [h];exact xcC 3 2 65536 281474976710656 _ _ _ _ _ _ (by simp [uT]) hn (xcn _ _ (by omega) (by decide))) (fun g => ?_);apply content_of <;> omega
 ·refine key _ (by rw [h];exact xcC 4 4 4294967296 4294967296 _ _ _ _ _ _ (by simp [uT]) hn (xcn _ _ (by omega) (by decide))) (fun g => ?_);apply content_of <;> omega
 ·refine key _ (by rw [h];exact xdg 5 _ _ _ _ _ _ (.inl rfl) hn (xcn _ _ (by omega) (by decide))) (fun g => ?_);apply content_of <;> omega
 ·refine key _ (by rw [h];exact xka _ _ _ _ _ _ hn (xcn _ _ (by omega) (by decide))) (fun g => ?_);apply content_of <;> omega
 ·refine key _ (by rw [h];exact xjZ _ _ _ _ _ _ hn (xcn _ _ (by omega) (by decide))) (fun g => ?_);apply content_of <;> omega
 ·refine key _ (by rw [h];exact xjY _ _ _ _ _ _ hn (xcn _ _ (by omega) (by decide))) (fun g => ?_);apply content_of <;> omega
 ·refine key _ (by rw [h];exact xjX _ _ _ _ _ _ hn (xcn _ _ (by omega) (by decide))) (fun g => ?_);apply content_of <;> omega
 ·refine key _ (by rw [h];exact xcC 10 4 4294967296 4294967296 _ _ _ _ _ _ (by simp [uT]) hn (xcn _ _ (by omega) (by decide))) (fun g => ?_);apply content_of <;> omega
 ·refine key _ (by rw [h];exact xdg 11 _ _ _ _ _ _ (.inr (.inl rfl)) hn (xcn _ _ (by omega) (by decide))) (fun g => ?_);apply content_of <;> omega
 ·refine key _ (by rw [h];exact xcC 12 4 4294967296 4294967296 _ _ _ _ _ _ (by simp [uT]) hn (xcn _ _ (by omega) (by decide))) (fun g => ?_);apply content_of <;> omega
 ·refine key _ (by rw [h];exact xdg 13 _ _ _ _ _ _ (.inr (.inr (.inl rfl))) hn (xcn _ _ (by omega) (by decide))) (fun g => ?_);apply content_of <;> omega
 ·refine key _ (by rw [h];exact xgb 14 _ _ _ _ _ _ (.inl rfl) (xcn _ _ (by omega) (by decide))) (fun g => ?_);apply content_of <;> omega
 ·refine key _ (by rw [h];exact xiG _ _ _ _ _ _ hn (xcn _ _ (by omega) (by decide))) (fun g => ?_);apply content_of <;> omega
 ·refine key _ (by rw [h];exact xdg 16 _ _ _ _ _ _ (.inr (.inr (.inr rfl))) hn (xcn _ _ (by omega) (by decide))) (fun g => ?_);apply content_of <;> omega
 ·refine key _ (by rw [h];exact xgb 17 _ _ _ _ _ _ (.inr rfl) (xcn _ _ (by omega) (by decide))) (fun g => ?_);apply content_of <;> omega
 ·refine key _ (by rw [h];exact xek _ _ _ _ _ _ _ (.inr (.inl rfl)) (fx_one _ (by omega) (by decide))) (fun _ => ?_);apply content_of <;> omega
 ·refine key _ (by rw [h];exact xiF _ _ _ _ _ _ hm hT (fx_one _ (by omega) (by decide))) (fun g => ?_);refine content_of ?_ ?_ ?_ ?_ ?_ ?_ ?_ ?_ (fun _=>g) ?_ ?_ ?_ <;> omega
 ·refine key _ (by rw [h];exact xiE _ _ _ _ _ _ hm (fx_one _ (by omega) (by decide))) (fun g => ?_);refine content_of ?_ ?_ ?_ ?_ ?_ ?_ ?_ ?_ ?_ (fun _=>g) ?_ ?_ <;> omega
 ·refine key _ (by rw [h];exact xek _ _ _ _ _ _ _ (.inr (.inr rfl)) (fx_one _ (by omega) (by decide))) (fun _ => ?_);apply content_of <;> omega
 ·refine key _ (by rw [h];exact xiD _ _ _ _ _ _ _ _ hf (fx_one _ (by omega) (by decide))) (fun g => ?_);apply content_of <;> omega
end Go.Proofs.YtmdpodeegdjkeaaGreatDoor
