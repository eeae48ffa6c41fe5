/- Part 27 of the proof of the readers and the guards. No conditions. -/
import Derived.LoopTactic
import Derived.IntWalk
import Derived.Outline
import Derived.Lib.EndianBits
import Derived.Test.YtmdpodeegdjkeaaGreatDoorU0
import Derived.Test.YtmdpodeegdjkeaaGreatDoorU7
import Derived.Test.YtmdpodeegdjkeaaGreatDoorU8
set_option maxRecDepth 100000
set_option maxHeartbeats 3200000
namespace Go.Proofs.YtmdpodeegdjkeaaGreatDoor
open Go Go.RowKit Go.Lib Tryz
attribute [local go_sem ↓] Go.wp_at_zero Go.wp_at_succ
theorem PRow.form {base:Nat} {w:World} {x:Value} {l:List Pc} (h:PRow base w x l):∃ p c,x = .slice p l.length c:=xab h.own
theorem xkW {base g:Nat} {w:World} {x:Value} {c:Nat} {d:List UInt8} {s:Value} {o:Obj} (h:BRow g w s d) (h1:base<=g) (h2:∀ b,OwnB x b->b < g):∀ p ∈ [(⟨c,d,s⟩:Pc)],BSl (fun b=>base<=b/\x.ownBlock≠some b) (w.alloc o) p.s p.data:=fun p hp=>by
 rw [List.mem_singleton.1 hp];exact (h.bsl.mono (S':=fun b=>base<=b/\x.ownBlock≠some b) fun b _ hb=>⟨by omega,fun e=>by have:=h2 b e;omega⟩).keep ((kR Nope w).alloc o) fun _ _ _ h=>h
set_option maxHeartbeats 12800000 in
theorem xbQ (short long:Nat) (dv:Value) (d:List UInt8) (n:Int) (w:World) (hd:BSl Any_ w dv d) (hl:d.length<=1073741824) (hn:n = -1\/0<=n/\n<=1000) :
  Calls prog 97 #[.int .i64 short,.int .i64 long,dv,.int .i64 n] w (Gives fun x w'=>PSl w.heap.size w' x (xbf short long d n)/\Kept Nope w w'):=by
 obtain ⟨m,hm⟩:∃ m,d.length=m:=⟨_,rfl⟩
 have hd':=hd;obtain ⟨pd,cd,rfl,_⟩:=hd;rw [hm] at hl hd' ⊢;have HD:=hid (aI hd' hm);clear hd' hm;have HTL:=hid (xng short long d n);go_enter func97,ntmps97;go_wp2;have hb0:=Blk.new w 292 #[.int .i64 short,.int .i64 1,.int .i64 long,.int .i64 4];have HW:=hid (aI ((kR Nope w).alloc (.cells #[.int .i64 short,.int .i64 1,.int .i64 long,.int .i64 4] 292)) hb0)
 go_loopw [9,20] (fun o q w'=>∃ (k:Nat) (l:List Pc),(k=0/\q = .int .i64 0\/k=1/\q = .int .i64 1\/k=2/\q = .int .i64 2)/\Hid (Kept Nope w w'/\Blk w' w.heap.size 292 #[.int .i64 short,.int .i64 1,.int .i64 long,.int .i64 4]/\PRow (w.heap.size+1) w' o l/\l.map Pc.form=xhu short long d n k)) (fun _ q _=>2 - (RowKit.intOf q).toNat)
 case atStart=>exact ⟨0,[],.inl ⟨rfl,rfl⟩,hid ⟨HW.out.1,HW.out.2,PRow.nil _ _,rfl⟩⟩
 case round =>
  obtain ⟨k,l,hk,HR⟩:=hrel;obtain ⟨po,co,ho⟩:=HR.out.2.2.1.form;subst ho;have hbl:=HR.out.2.1;have b0:=hbl.cell 0;have b1:=hbl.cell 1;have b2:=hbl.cell 2;have b3:=hbl.cell 3;simp only [gt,gz,gs] at b0 b1 b2 b3;have HLL:Hid (l.length<=2):=hid (by have h:=congrArg List.length HR.out.2.2.2;rw [lM] at h;rw [h];exact xpS _ _ _ _ _);clear hbl hb0
  rcases hk with ⟨rfl,rfl⟩ | ⟨rfl,rfl⟩ | ⟨rfl,rfl⟩
  ·rcases hn with rfl | hn
   ·by_cases hm:m < 256
    ·have hmd:(decide ((255:Int) < (m:Int)))=false:=by simp;omega
     have em:IntKind.u64.wrap (m:Int)=(m:Int):=by rw [IntKind.wrap_u64];omega
     go_wp2;have hB:=(Blk.new wr 292 #[.int .i64 short,.int .i64 1]).alloc (.cells #[] 5);have hK:=((kR Nope wr).alloc (.cells #[.int .i64 short,.int .i64 1] 292)).alloc (.cells #[] 5);have hE:=BSl.nil (S:=Any_) (w:=(wr.alloc (.cells #[.int .i64 short,.int .i64 1] 292)).alloc (.cells #[] 5)) (some ⟨wr.heap.size+1,0,none⟩) 0 (by simp [maxLen]);generalize (wr.alloc (.cells #[.int .i64 short,.int .i64 1] 292)).alloc (.cells #[] 5)=W1 at hB hK hE ⊢;have hlt:=hB.lt;have hwb:w.heap.size+1<=wr.heap.size:=HR.out.2.1.lt;have hor:∀ b,OwnB (.slice po l.length co) b->b < wr.heap.size:=fun b hb=>(HR.out.2.2.1.own.lt b hb).2
     have hwB:wr.heap.size<=W1.heap.size:=hK.size;generalize wr.heap.size=B at hB hlt hE hwb hwB hor ⊢;have hoB:¬ OwnB (.slice po l.length co) B:=fun e=>Nat.lt_irrefl B (hor B e)
     have HE:=hid hE;have HKR:=hid hK;have HKW:=hid (HR.out.1.trans' hK);have HLT:Hid (w.heap.size+1<=W1.heap.size/\∀ b,OwnB (.slice po l.length co) b->b < W1.heap.size):=hid ⟨Nat.le_trans hwb hwB,fun b hb=>Nat.lt_of_lt_of_le (hor b hb) hwB⟩;have HM:Hid (∀ w',Kept (OwnB (.slice po l.length co)) W1 w'->w'.cell? ⟨B,0,none⟩=some (.int .i64 short)/\w'.cell? ⟨B,1,none⟩=some (.int .i64 1)):=hid fun w' h=>by have hb:=hB.kept h hoB;exact ⟨hb.cell 0,hb.cell 1⟩
     clear hE hK hor hwb hwB hoB hB
     go_region_held3 (fun w'=>w'.cell? ⟨B,0,none⟩=some (.int .i64 short)/\w'.cell? ⟨B,1,none⟩=some (.int .i64 1)) (first | exact HM.out _ (kR _ W1).drew | exact HM.out _ ‹Kept (OwnB (.slice po l.length co)) W1 _› | exact HM.out _ (‹Kept (OwnB (.slice po l.length co)) W1 _›.alloc _)) (first | (go_at_call 149;refine (xbL _ 1 _ ⟨by omega,by omega⟩ (by omega)).mono ?_;rintro e w2 ⟨x2,rfl,ho2,hk2⟩;obtain ⟨p2,c2,rfl⟩:=xab ho2;have hN2:=((kR Nope W1).drew).trans' hk2;have hS2:=hN2.nope (M:=OwnB (.slice po l.length co));have H2:=hid (aI (show BRow W1.heap.size w2 (.slice p2 1 c2) (be 1 (m)) from by unfold BRow;rw [be_length];exact ho2) hN2);clear ho2 hk2 hN2) | (refine xbm _ (.tmp 59) (.tmp 60) rfl rfl W1.heap.size _ _ rfl H2.out.1 Any_ _ _ rfl (HE.out.keep H2.out.2 (fun _ _ _ h=>h)) (by simp <;> omega) H2.out.2.size ?_;intro p3 c3 w3 ha3;have hN3:=H2.out.2.trans ha3.2.1 (fun b hb e=>by have:=H2.out.1.own b e;omega);have hS3:=hN3.nope (M:=OwnB (.slice po l.length co));have H3:=hid (aI ha3.1 hN3);clear ha3 hN3) | (refine xbm _ (.tmp 61) (.tmp 62) rfl rfl W1.heap.size _ _ rfl H3.out.1 Any_ _ _ rfl (HD.out.1.keep (HKW.out.trans' H3.out.2) (fun _ _ _ h=>h)) (by have:=HD.out.2;simp <;> omega) H3.out.2.size ?_;intro p4 c4 w4 ha4;have hN4:=H3.out.2.trans ha4.2.1 (fun b hb e=>by have:=H3.out.1.own b e;omega);have hS4:=hN4.nope (M:=OwnB (.slice po l.length co));have H4:=hid (aI ha4.1 hN4);clear ha4 hN4) | (refine xcy _ (.tmp 52) (.tmp 65) rfl rfl (w.heap.size+1) _ l rfl (HR.out.2.2.1.keep ((HKR.out.trans' H4.out.2).alloc _) (fun _ _ h=>h)) Any_ _ [⟨short,be 1 (m) ++ [] ++ d,.slice p4 _ c4⟩] rfl (CSl.one_piece (W:=w4) _) (xkW H4.out.1 HLT.out.1 HLT.out.2) (by have:=HLL.out;simp <;> omega) (by have h1:=HLT.out.1;have h2:=H4.out.2.size;rw [World.size_alloc];omega) ?_;intro p5 c5 w5 ha5;have H5:=hid ha5;have hS5:=((‹Kept (OwnB (.slice po l.length co)) W1 w4›.alloc _).trans' ha5.2);clear ha5))
     go_wp2;go_roundw
     case rel =>
      have hK5:=((HKW.out.trans' H4.out.2).alloc (.cells #[.int .i64 short,.slice p4 _ c4] 64)).trans H5.out.2 (fun b hb e=>by have:=(HR.out.2.2.1.own.lt b e).1;omega);refine ⟨1,_,.inr (.inl ⟨rfl,rfl⟩),hid ⟨hK5,((HR.out.2.1.kept (HKR.out.trans' H4.out.2) (fun h=>h)).alloc _).kept H5.out.2 (fun e=>by have:=(HR.out.2.2.1.own.lt _ e).1;omega),H5.out.1,?_⟩⟩;rw [List.map_append,HR.out.2.2.2];have hm:=HD.out.2;rw [xdr,xnf short d (by omega)];simp [xhu,Pc.form,hm]
     case measure=>simp [RowKit.intOf]
    ·have hmd:(decide ((255:Int) < (m:Int)))=true:=by simp;omega
     go_wp2;go_roundw
     case rel =>
      refine ⟨1,l,.inr (.inl ⟨rfl,rfl⟩),hid ⟨(HR.out.1.alloc _).alloc _,(HR.out.2.1.alloc _).alloc _,(HR.out.2.2.1.keep (((kR Nope wr).alloc _).alloc _) (fun _ _ h=>h)),?_⟩⟩;rw [HR.out.2.2.2];have hm:=HD.out.2;rw [xdr,xlo short d (by omega)];simp [xhu]
     case measure=>simp [RowKit.intOf]
   ·obtain ⟨q,rfl⟩:∃ q:Nat,n=q:=⟨n.toNat,by omega⟩
    by_cases hq:q < 256
    ·have hqd:(decide ((255:Int) < (q:Int)))=false:=by simp;omega
     by_cases hm:m+1 < 256
     ·have hmd:(decide ((255:Int) < (m:Int)+1))=false:=by simp;omega
      have ez:IntKind.i64.wrap ((m:Int)+1)=(m:Int)+1:=IntWalk.i64_in _ (by omega);have em:IntKind.u64.wrap ((m:Int)+1)=(m:Int)+1:=by rw [IntKind.wrap_u64];omega
      have en:IntKind.u64.wrap (q:Int)=(q:Int):=by rw [IntKind.wrap_u64];omega
      go_wp2;have hB:=(Blk.new wr 292 #[.int .i64 short,.int .i64 1]).alloc (.cells #[] 5);have hK:=((kR Nope wr).alloc (.cells #[.int .i64 short,.int .i64 1] 292)).alloc (.cells #[] 5);have hE:=BSl.nil (S:=Any_) (w:=(wr.alloc (.cells #[.int .i64 short,.int .i64 1] 292)).alloc (.cells #[] 5)) (some ⟨wr.heap.size+1,0,none⟩) 0 (by simp [maxLen]);generalize (wr.alloc (.cells #[.int .i64 short,.int .i64 1] 292)).alloc (.cells #[] 5)=W1 at hB hK hE ⊢;have hlt:=hB.lt;have hwb:w.heap.size+1<=wr.heap.size:=HR.out.2.1.lt;have hor:∀ b,OwnB (.slice po l.length co) b->b < wr.heap.size:=fun b hb=>(HR.out.2.2.1.own.lt b hb).2
      have hwB:wr.heap.size<=W1.heap.size:=hK.size;generalize wr.heap.size=B at hB hlt hE hwb hwB hor ⊢;have hoB:¬ OwnB (.slice po l.length co) B:=fun e=>Nat.lt_irrefl B (hor B e)
      have HS0:=hid (aI hB (aI hK (aI hwb (aI hor hwB))));have HM:Hid (∀ w',Kept (OwnB (.slice po l.length co)) W1 w'->w'.cell? ⟨B,0,none⟩=some (.int .i64 short)/\w'.cell? ⟨B,1,none⟩=some (.int .i64 1)):=hid fun w' h=>by have hb:=hB.kept h hoB;exact ⟨hb.cell 0,hb.cell 1⟩
      clear hB hK hwb hor hwB hE hoB
      go_region_held3 (fun w'=>w'.cell? ⟨B,0,none⟩=some (.int .i64 short)/\w'.cell? ⟨B,1,none⟩=some (.int .i64 1)) (first | exact HM.out _ (kR _ W1).drew | exact HM.out _ ‹Kept (OwnB (.slice po l.length co)) W1 _› | exact HM.out _ (‹Kept (OwnB (.slice po l.length co)) W1 _›.alloc _)) (first | (go_at_call 149;refine (xbL _ 1 _ ⟨by omega,by omega⟩ (by omega)).mono ?_;rintro e w2 ⟨x2,rfl,ho2,hk2⟩;obtain ⟨p2,c2,rfl⟩:=xab ho2;have hN2:=((kR Nope W1).drew).trans' hk2;have hS2:=hN2.nope (M:=OwnB (.slice po l.length co));have H9:=hid (aI (show BRow W1.heap.size w2 (.slice p2 1 c2) (be 1 (q)) from by unfold BRow;rw [be_length];exact ho2) hN2);clear ho2 hk2 hN2) | fail)
      have hc9:=(HM.out _ hS2);have hd0:=hc9.1;have hd1:=hc9.2;clear hc9;go_wp2;have hE:=H9.out.1.bsl.mono (S':=Any_) fun _ _ _=>trivial
      have hB:=HS0.out.1.kept H9.out.2 (fun h=>h);have hK:=HS0.out.2.1.trans' H9.out.2;have hwb:=HS0.out.2.2.1;have hor:=HS0.out.2.2.2.1;have hwB:=Nat.le_trans HS0.out.2.2.2.2 H9.out.2.size;have hoB:¬ OwnB (.slice po l.length co) B:=fun e=>Nat.lt_irrefl B (hor B e)
      clear hS2 HM HS0 H9 hd0 hd1 hlt;obtain ⟨W0,hW0⟩:∃ W0,W0=W1:=⟨_,rfl⟩
      clear hW0 W0;have HE:=hid hE;have HKR:=hid hK;have HKW:=hid (HR.out.1.trans' hK);have HLT:Hid (w.heap.size+1<=w2.heap.size/\∀ b,OwnB (.slice po l.length co) b->b < w2.heap.size):=hid ⟨Nat.le_trans hwb hwB,fun b hb=>Nat.lt_of_lt_of_le (hor b hb) hwB⟩;have HM:Hid (∀ w',Kept (OwnB (.slice po l.length co)) w2 w'->w'.cell? ⟨B,0,none⟩=some (.int .i64 short)/\w'.cell? ⟨B,1,none⟩=some (.int .i64 1)):=hid fun w' h=>by have hb:=hB.kept h hoB;exact ⟨hb.cell 0,hb.cell 1⟩
      clear hE hK hor hwb hwB hoB hB
      go_region_held3 (fun w'=>w'.cell? ⟨B,0,none⟩=some (.int .i64 short)/\w'.cell? ⟨B,1,none⟩=some (.int .i64 1)) (first | exact HM.out _ (kR _ w2).drew | exact HM.out _ ‹Kept (OwnB (.slice po l.length co)) w2 _› | exact HM.out _ (‹Kept (OwnB (.slice po l.length co)) w2 _›.alloc _)) (first | (go_at_call 149;refine (xbL _ 1 _ ⟨by omega,by omega⟩ (by omega)).mono ?_;rintro e w6 ⟨x2,rfl,ho2,hk2⟩;obtain ⟨p2,c2,rfl⟩:=xab ho2;have hN2:=((kR Nope w2).drew).trans' hk2;have hS2:=hN2.nope (M:=OwnB (.slice po l.length co));have H2:=hid (aI (show BRow w2.heap.size w6 (.slice p2 1 c2) (be 1 (m+1)) from by unfold BRow;rw [be_length];exact ho2) hN2);clear ho2 hk2 hN2) | (refine xbm _ (.tmp 59) (.tmp 60) rfl rfl w2.heap.size _ _ rfl H2.out.1 Any_ _ _ rfl (HE.out.keep H2.out.2 (fun _ _ _ h=>h)) (by simp <;> omega) H2.out.2.size ?_;intro p3 c3 w3 ha3;have hN3:=H2.out.2.trans ha3.2.1 (fun b hb e=>by have:=H2.out.1.own b e;omega);have hS3:=hN3.nope (M:=OwnB (.slice po l.length co));have H3:=hid (aI ha3.1 hN3);clear ha3 hN3) | (refine xbm _ (.tmp 61) (.tmp 62) rfl rfl w2.heap.size _ _ rfl H3.out.1 Any_ _ _ rfl (HD.out.1.keep (HKW.out.trans' H3.out.2) (fun _ _ _ h=>h)) (by have:=HD.out.2;simp <;> omega) H3.out.2.size ?_;intro p4 c4 w4 ha4;have hN4:=H3.out.2.trans ha4.2.1 (fun b hb e=>by have:=H3.out.1.own b e;omega);have hS4:=hN4.nope (M:=OwnB (.slice po l.length co));have H4:=hid (aI ha4.1 hN4);clear ha4 hN4) | (refine xcy _ (.tmp 52) (.tmp 65) rfl rfl (w.heap.size+1) _ l rfl (HR.out.2.2.1.keep ((HKR.out.trans' H4.out.2).alloc _) (fun _ _ h=>h)) Any_ _ [⟨short,be 1 (m+1) ++ be 1 q ++ d,.slice p4 _ c4⟩] rfl (CSl.one_piece (W:=w4) _) (xkW H4.out.1 HLT.out.1 HLT.out.2) (by have:=HLL.out;simp <;> omega) (by have h1:=HLT.out.1;have h2:=H4.out.2.size;rw [World.size_alloc];omega) ?_;intro p5 c5 w5 ha5;have H5:=hid ha5;have hS5:=((‹Kept (OwnB (.slice po l.length co)) w2 w4›.alloc _).trans' ha5.2);clear ha5))
      go_wp2;go_roundw
      case rel =>
       have hK5:=((HKW.out.trans' H4.out.2).alloc (.cells #[.int .i64 short,.slice p4 _ c4] 64)).trans H5.out.2 (fun b hb e=>by have:=(HR.out.2.2.1.own.lt b e).1;omega);refine ⟨1,_,.inr (.inl ⟨rfl,rfl⟩),hid ⟨hK5,((HR.out.2.1.kept (HKR.out.trans' H4.out.2) (fun h=>h)).alloc _).kept H5.out.2 (fun e=>by have:=(HR.out.2.2.1.own.lt _ e).1;omega),H5.out.1,?_⟩⟩;rw [List.map_append,HR.out.2.2.2];have hm:=HD.out.2;rw [xdr,xne short d q hq (by omega)];simp [xhu,Pc.form,hm]
      case measure=>simp [RowKit.intOf]
     ·have hmd:(decide ((255:Int) < (m:Int)+1))=true:=by simp;omega
      have ez:IntKind.i64.wrap ((m:Int)+1)=(m:Int)+1:=IntWalk.i64_in _ (by omega);have em:IntKind.u64.wrap ((m:Int)+1)=(m:Int)+1:=by rw [IntKind.wrap_u64];omega
      have en:IntKind.u64.wrap (q:Int)=(q:Int):=by rw [IntKind.wrap_u64];omega
      go_wp2;have hB:=(Blk.new wr 292 #[.int .i64 short,.int .i64 1]).alloc (.cells #[] 5);have hK:=((kR Nope wr).alloc (.cells #[.int .i64 short,.int .i64 1] 292)).alloc (.cells #[] 5);have hE:=BSl.nil (S:=Any_) (w:=(wr.alloc (.cells #[.int .i64 short,.int .i64 1] 292)).alloc (.cells #[] 5)) (some ⟨wr.heap.size+1,0,none⟩) 0 (by simp [maxLen]);generalize (wr.alloc (.cells #[.int .i64 short,.int .i64 1] 292)).alloc (.cells #[] 5)=W1 at hB hK hE ⊢;have hlt:=hB.lt;have hwb:w.heap.size+1<=wr.heap.size:=HR.out.2.1.lt;have hor:∀ b,OwnB (.slice po l.length co) b->b < wr.heap.size:=fun b hb=>(HR.out.2.2.1.own.lt b hb).2
      have hwB:wr.heap.size<=W1.heap.size:=hK.size;generalize wr.heap.size=B at hB hlt hE hwb hwB hor ⊢;have hoB:¬ OwnB (.slice po l.length co) B:=fun e=>Nat.lt_irrefl B (hor B e)
      have HS0:=hid (aI hB (aI hK (aI hwb (aI hor hwB))));have HM:Hid (∀ w',Kept (OwnB (.slice po l.length co)) W1 w'->w'.cell? ⟨B,0,none⟩=some (.int .i64 short)/\w'.cell? ⟨B,1,none⟩=some (.int .i64 1)):=hid fun w' h=>by have hb:=hB.kept h hoB;exact ⟨hb.cell 0,hb.cell 1⟩
      clear hB hK hwb hor hwB hE hoB
      go_region_held3 (fun w'=>w'.cell? ⟨B,0,none⟩=some (.int .i64 short)/\w'.cell? ⟨B,1,none⟩=some (.int .i64 1)) (first | exact HM.out _ (kR _ W1).drew | exact HM.out _ ‹Kept (OwnB (.slice po l.length co)) W1 _› | exact HM.out _ (‹Kept (OwnB (.slice po l.length co)) W1 _›.alloc _)) (first | (go_at_call 149;refine (xbL _ 1 _ ⟨by omega,by omega⟩ (by omega)).mono ?_;rintro e w2 ⟨x2,rfl,ho2,hk2⟩;obtain ⟨p2,c2,rfl⟩:=xab ho2;have hN2:=((kR Nope W1).drew).trans' hk2;have hS2:=hN2.nope (M:=OwnB (.slice po l.length co));have H9:=hid (aI (show BRow W1.heap.size w2 (.slice p2 1 c2) (be 1 (q)) from by unfold BRow;rw [be_length];exact ho2) hN2);clear ho2 hk2 hN2) | fail)
      have hc9:=(HM.out _ hS2);have hd0:=hc9.1;have hd1:=hc9.2;clear hc9;go_wp2;have hE:=H9.out.1.bsl.mono (S':=Any_) fun _ _ _=>trivial
      have hB:=HS0.out.1.kept H9.out.2 (fun h=>h);have hK:=HS0.out.2.1.trans' H9.out.2;have hwb:=HS0.out.2.2.1;have hor:=HS0.out.2.2.2.1;have hwB:=Nat.le_trans HS0.out.2.2.2.2 H9.out.2.size;have hoB:¬ OwnB (.slice po l.length co) B:=fun e=>Nat.lt_irrefl B (hor B e)
      clear hS2 HM HS0 H9 hd0 hd1 hlt;obtain ⟨W0,hW0⟩:∃ W0,W0=W1:=⟨_,rfl⟩
      clear hW0 W0;go_wp2;go_roundw
      case rel =>
       refine ⟨1,l,.inr (.inl ⟨rfl,rfl⟩),hid ⟨HR.out.1.trans' hK,HR.out.2.1.kept hK (fun h=>h),(HR.out.2.2.1.keep hK (fun _ _ h=>h)),?_⟩⟩;rw [HR.out.2.2.2];have hm:=HD.out.2;rw [xdr,xhb short d q (by omega)];simp [xhu]
      case measure=>simp [RowKit.intOf]
    ·have hqd:(decide ((255:Int) < (q:Int)))=true:=by simp;omega
     go_wp2;go_roundw
     case rel =>
      refine ⟨1,l,.inr (.inl ⟨rfl,rfl⟩),hid ⟨(HR.out.1.alloc _).alloc _,(HR.out.2.1.alloc _).alloc _,(HR.out.2.2.1.keep (((kR Nope wr).alloc _).alloc _) (fun _ _ h=>h)),?_⟩⟩;rw [HR.out.2.2.2];have hm:=HD.out.2;rw [xdr,xhb short d q (by omega)];simp [xhu]
     case measure=>simp [RowKit.intOf]
  ·rcases hn with rfl | hn
   ·have em:IntKind.u64.wrap (m:Int)=(m:Int):=by rw [IntKind.wrap_u64];omega
    go_wp2;have hB:=(Blk.new wr 292 #[.int .i64 long,.int .i64 4]).alloc (.cells #[] 5);have hK:=((kR Nope wr).alloc (.cells #[.int .i64 long,.int .i64 4] 292)).alloc (.cells #[] 5);have hE:=BSl.nil (S:=Any_) (w:=(wr.alloc (.cells #[.int .i64 long,.int .i64 4] 292)).alloc (.cells #[] 5)) (some ⟨wr.heap.size+1,0,none⟩) 0 (by simp [maxLen]);generalize (wr.alloc (.cells #[.int .i64 long,.int .i64 4] 292)).alloc (.cells #[] 5)=W1 at hB hK hE ⊢;have hlt:=hB.lt;have hwb:w.heap.size+1<=wr.heap.size:=HR.out.2.1.lt;have hor:∀ b,OwnB (.slice po l.length co) b->b < wr.heap.size:=fun b hb=>(HR.out.2.2.1.own.lt b hb).2
    have hwB:wr.heap.size<=W1.heap.size:=hK.size;generalize wr.heap.size=B at hB hlt hE hwb hwB hor ⊢;have hoB:¬ OwnB (.slice po l.length co) B:=fun e=>Nat.lt_irrefl B (hor B e)
    have HE:=hid hE;have HKR:=hid hK;have HKW:=hid (HR.out.1.trans' hK);have HLT:Hid (w.heap.size+1<=W1.heap.size/\∀ b,OwnB (.slice po l.length co) b->b < W1.heap.size):=hid ⟨Nat.le_trans hwb hwB,fun b hb=>Nat.lt_of_lt_of_le (hor b hb) hwB⟩;have HM:Hid (∀ w',Kept (OwnB (.slice po l.length co)) W1 w'->w'.cell? ⟨B,0,none⟩=some (.int .i64 long)/\w'.cell? ⟨B,1,none⟩=some (.int .i64 4)):=hid fun w' h=>by have hb:=hB.kept h hoB;exact ⟨hb.cell 0,hb.cell 1⟩
    clear hE hK hor hwb hwB hoB hB
    go_region_held3 (fun w'=>w'.cell? ⟨B,0,none⟩=some (.int .i64 long)/\w'.cell? ⟨B,1,none⟩=some (.int .i64 4)) (first | exact HM.out _ (kR _ W1).drew | exact HM.out _ ‹Kept (OwnB (.slice po l.length co)) W1 _› | exact HM.out _ (‹Kept (OwnB (.slice po l.length co)) W1 _›.alloc _)) (first | (go_at_call 149;refine (xbL _ 4 _ ⟨by omega,by omega⟩ (by omega)).mono ?_;rintro e w2 ⟨x2,rfl,ho2,hk2⟩;obtain ⟨p2,c2,rfl⟩:=xab ho2;have hN2:=((kR Nope W1).drew).trans' hk2;have hS2:=hN2.nope (M:=OwnB (.slice po l.length co));have H2:=hid (aI (show BRow W1.heap.size w2 (.slice p2 4 c2) (be 4 (m)) from by unfold BRow;rw [be_length];exact ho2) hN2);clear ho2 hk2 hN2) | (refine xbm _ (.tmp 59) (.tmp 60) rfl rfl W1.heap.size _ _ rfl H2.out.1 Any_ _ _ rfl (HE.out.keep H2.out.2 (fun _ _ _ h=>h)) (by simp <;> omega) H2.out.2.size ?_;intro p3 c3 w3 ha3;have hN3:=H2.out.2.trans ha3.2.1 (fun b hb e=>by have:=H2.out.1.own b e;omega);have hS3:=hN3.nope (M:=OwnB (.slice po l.length co));have H3:=hid (aI ha3.1 hN3);clear ha3 hN3) | (refine xbm _ (.tmp 61) (.tmp 62) rfl rfl W1.heap.size _ _ rfl H3.out.1 Any_ _ _ rfl (HD.out.1.keep (HKW.out.trans' H3.out.2) (fun _ _ _ h=>h)) (by have:=HD.out.2;simp <;> omega) H3.out.2.size ?_;intro p4 c4 w4 ha4;have hN4:=H3.out.2.trans ha4.2.1 (fun b hb e=>by have:=H3.out.1.own b e;omega);have hS4:=hN4.nope (M:=OwnB (.slice po l.length co));have H4:=hid (aI ha4.1 hN4);clear ha4 hN4) | (refine xcy _ (.tmp 52) (.tmp 65) rfl rfl (w.heap.size+1) _ l rfl (HR.out.2.2.1.keep ((HKR.out.trans' H4.out.2).alloc _) (fun _ _ h=>h)) Any_ _ [⟨long,be 4 (m) ++ [] ++ d,.slice p4 _ c4⟩] rfl (CSl.one_piece (W:=w4) _) (xkW H4.out.1 HLT.out.1 HLT.out.2) (by have:=HLL.out;simp <;> omega) (by have h1:=HLT.out.1;have h2:=H4.out.2.size;rw [World.size_alloc];omega) ?_;intro p5 c5 w5 ha5;have H5:=hid ha5;have hS5:=((‹Kept (OwnB (.slice po l.length co)) W1 w4›.alloc _).trans' ha5.2);clear ha5))
    go_wp2;go_roundw
    case rel =>
     have hK5:=((HKW.out.trans' H4.out.2).alloc (.cells #[.int .i64 long,.slice p4 _ c4] 64)).trans H5.out.2 (fun b hb e=>by have:=(HR.out.2.2.1.own.lt b e).1;omega);refine ⟨2,_,.inr (.inr ⟨rfl,rfl⟩),hid ⟨hK5,((HR.out.2.1.kept (HKR.out.trans' H4.out.2) (fun h=>h)).alloc _).kept H5.out.2 (fun e=>by have:=(HR.out.2.2.1.own.lt _ e).1;omega),H5.out.1,?_⟩⟩;rw [List.map_append,HR.out.2.2.2];have hm:=HD.out.2;rw [xdr,xlp,HTL.out]
     congr 1
     simp [Pc.form,hm] <;> omega
    case measure=>simp [RowKit.intOf]
   ·obtain ⟨q,rfl⟩:∃ q:Nat,n=q:=⟨n.toNat,by omega⟩
    have ez:IntKind.i64.wrap ((m:Int)+4)=(m:Int)+4:=IntWalk.i64_in _ (by omega);have em:IntKind.u64.wrap ((m:Int)+4)=(m:Int)+4:=by rw [IntKind.wrap_u64];omega
    have en:IntKind.u64.wrap (q:Int)=(q:Int):=by rw [IntKind.wrap_u64];omega
    go_wp2;have hB:=(Blk.new wr 292 #[.int .i64 long,.int .i64 4]).alloc (.cells #[] 5);have hK:=((kR Nope wr).alloc (.cells #[.int .i64 long,.int .i64 4] 292)).alloc (.cells #[] 5);have hE:=BSl.nil (S:=Any_) (w:=(wr.alloc (.cells #[.int .i64 long,.int .i64 4] 292)).alloc (.cells #[] 5)) (some ⟨wr.heap.size+1,0,none⟩) 0 (by simp [maxLen]);generalize (wr.alloc (.cells #[.int .i64 long,.int .i64 4] 292)).alloc (.cells #[] 5)=W1 at hB hK hE ⊢;have hlt:=hB.lt;have hwb:w.heap.size+1<=wr.heap.size:=HR.out.2.1.lt;have hor:∀ b,OwnB (.slice po l.length co) b->b < wr.heap.size:=fun b hb=>(HR.out.2.2.1.own.lt b hb).2
    have hwB:wr.heap.size<=W1.heap.size:=hK.size;generalize wr.heap.size=B at hB hlt hE hwb hwB hor ⊢;have hoB:¬ OwnB (.slice po l.length co) B:=fun e=>Nat.lt_irrefl B (hor B e)
    have HS0:=hid (aI hB (aI hK (aI hwb (aI hor hwB))));have HM:Hid (∀ w',Kept (OwnB (.slice po l.length co)) W1 w'->w'.cell? ⟨B,0,none⟩=some (.int .i64 long)/\w'.cell? ⟨B,1,none⟩=some (.int .i64 4)):=hid fun w' h=>by have hb:=hB.kept h hoB;exact ⟨hb.cell 0,hb.cell 1⟩
    clear hB hK hwb hor hwB hE hoB
    go_region_held3 (fun w'=>w'.cell? ⟨B,0,none⟩=some (.int .i64 long)/\w'.cell? ⟨B,1,none⟩=some (.int .i64 4)) (first | exact HM.out _ (kR _ W1).drew | exact HM.out _ ‹Kept (OwnB (.slice po l.length co)) W1 _› | exact HM.out _ (‹Kept (OwnB (.slice po l.length co)) W1 _›.alloc _)) (first | (go_at_call 149;refine (xbL _ 4 _ ⟨by omega,by omega⟩ (by omega)).mono ?_;rintro e w2 ⟨x2,rfl,ho2,hk2⟩;obtain ⟨p2,c2,rfl⟩:=xab ho2;have hN2:=((kR Nope W1).drew).trans' hk2;have hS2:=hN2.nope (M:=OwnB (.slice po l.length co));have H9:=hid (aI (show BRow W1.heap.size w2 (.slice p2 4 c2) (be 4 (q)) from by unfold BRow;rw [be_length];exact ho2) hN2);clear ho2 hk2 hN2) | fail)
    have hc9:=(HM.out _ hS2);have hd0:=hc9.1;have hd1:=hc9.2;clear hc9;go_wp2;have hE:=H9.out.1.bsl.mono (S':=Any_) fun _ _ _=>trivial
    have hB:=HS0.out.1.kept H9.out.2 (fun h=>h);have hK:=HS0.out.2.1.trans' H9.out.2;have hwb:=HS0.out.2.2.1;have hor:=HS0.out.2.2.2.1;have hwB:=Nat.le_trans HS0.out.2.2.2.2 H9.out.2.size;have hoB:¬ OwnB (.slice po l.length co) B:=fun e=>Nat.lt_irrefl B (hor B e)
    clear hS2 HM HS0 H9 hd0 hd1 hlt;obtain ⟨W0,hW0⟩:∃ W0,W0=W1:=⟨_,rfl⟩
    clear hW0 W0;have HE:=hid hE;have HKR:=hid hK;have HKW:=hid (HR.out.1.trans' hK);have HLT:Hid (w.heap.size+1<=w2.heap.size/\∀ b,OwnB (.slice po l.length co) b->b < w2.heap.size):=hid ⟨Nat.le_trans hwb hwB,fun b hb=>Nat.lt_of_lt_of_le (hor b hb) hwB⟩;have HM:Hid (∀ w',Kept (OwnB (.slice po l.length co)) w2 w'->w'.cell? ⟨B,0,none⟩=some (.int .i64 long)/\w'.cell? ⟨B,1,none⟩=some (.int .i64 4)):=hid fun w' h=>by have hb:=hB.kept h hoB;exact ⟨hb.cell 0,hb.cell 1⟩
    clear hE hK hor hwb hwB hoB hB
    go_region_held3 (fun w'=>w'.cell? ⟨B,0,none⟩=some (.int .i64 long)/\w'.cell? ⟨B,1,none⟩=some (.int .i64 4)) (first | exact HM.out _ (kR _ w2).drew | exact HM.out _ ‹Kept (OwnB (.slice po l.length co)) w2 _› | exact HM.out _ (‹Kept (OwnB (.slice po l.length co)) w2 _›.alloc _)) (first | (go_at_call 149;refine (xbL _ 4 _ ⟨by omega,by omega⟩ (by omega)).mono ?_;rintro e w6 ⟨x2,rfl,ho2,hk2⟩;obtain ⟨p2,c2,rfl⟩:=xab ho2;have hN2:=((kR Nope w2).drew).trans' hk2;have hS2:=hN2.nope (M:=OwnB (.slice po l.length co));have H2:=hid (aI (show BRow w2.heap.size w6 (.slice p2 4 c2) (be 4 (m+4)) from by unfold BRow;rw [be_length];exact ho2) hN2);clear ho2 hk2 hN2) | (refine xbm _ (.tmp 59) (.tmp 60) rfl rfl w2.heap.size _ _ rfl H2.out.1 Any_ _ _ rfl (HE.out.keep H2.out.2 (fun _ _ _ h=>h)) (by simp <;> omega) H2.out.2.size ?_;intro p3 c3 w3 ha3;have hN3:=H2.out.2.trans ha3.2.1 (fun b hb e=>by have:=H2.out.1.own b e;omega);have hS3:=hN3.nope (M:=OwnB (.slice po l.length co));have H3:=hid (aI ha3.1 hN3);clear ha3 hN3) | (refine xbm _ (.tmp 61) (.tmp 62) rfl rfl w2.heap.size _ _ rfl H3.out.1 Any_ _ _ rfl (HD.out.1.keep (HKW.out.trans' H3.out.2) (fun _ _ _ h=>h)) (by have:=HD.out.2;simp <;> omega) H3.out.2.size ?_;intro p4 c4 w4 ha4;have hN4:=H3.out.2.trans ha4.2.1 (fun b hb e=>by have:=H3.out.1.own b e;omega);have hS4:=hN4.nope (M:=OwnB (.slice po l.length co));have H4:=hid (aI ha4.1 hN4);clear ha4 hN4) | (refine xcy _ (.tmp 52) (.tmp 65) rfl rfl (w.heap.size+1) _ l rfl (HR.out.2.2.1.keep ((HKR.out.trans' H4.out.2).alloc _) (fun _ _ h=>h)) Any_ _ [⟨long,be 4 (m+4) ++ be 4 q ++ d,.slice p4 _ c4⟩] rfl (CSl.one_piece (W:=w4) _) (xkW H4.out.1 HLT.out.1 HLT.out.2) (by have:=HLL.out;simp <;> omega) (by have h1:=HLT.out.1;have h2:=H4.out.2.size;rw [World.size_alloc];omega) ?_;intro p5 c5 w5 ha5;have H5:=hid ha5;have hS5:=((‹Kept (OwnB (.slice po l.length co)) w2 w4›.alloc _).trans' ha5.2);clear ha5))
    go_wp2;go_roundw
    case rel =>
     have hK5:=((HKW.out.trans' H4.out.2).alloc (.cells #[.int .i64 long,.slice p4 _ c4] 64)).trans H5.out.2 (fun b hb e=>by have:=(HR.out.2.2.1.own.lt b e).1;omega);refine ⟨2,_,.inr (.inr ⟨rfl,rfl⟩),hid ⟨hK5,((HR.out.2.1.kept (HKR.out.trans' H4.out.2) (fun h=>h)).alloc _).kept H5.out.2 (fun e=>by have:=(HR.out.2.2.1.own.lt _ e).1;omega),H5.out.1,?_⟩⟩;rw [List.map_append,HR.out.2.2.2];have hm:=HD.out.2;rw [xdr,xlp,HTL.out]
     congr 1
     simp [Pc.form,hm] <;> omega
    case measure=>simp [RowKit.intOf]
  ·go_wp2;go_ret;exact ⟨_,rfl,PSl.mono ⟨l,HR.out.2.2.1,HR.out.2.2.2⟩ (by omega),HR.out.1⟩
theorem xpO {s:ByteArray} {b:UInt8} (h:b ∈ bytesOf s):∃ (j:Nat) (hj:j < s.size),s[j]=b:=by
 obtain ⟨j,hj⟩:=List.mem_iff_getElem?.1 h;have hl:j < s.size:=by have:=(gi.1 hj).1;rwa [bytesOf_length] at this
 refine ⟨j,hl,?_⟩;have:=(gi.1 hj).2;exact this
theorem xlE (s:ByteArray) (w:World) (hs:s.size<=maxLen):Calls prog 190 #[.string s] w (AskT (∀ b ∈ bytesOf s,b.toNat < 128) w):=by
 unfold maxLen at hs;go_enter func190,ntmps190;go_wp2
 go_loop [3] (fun i=>∃ k:Nat,k<=s.size/\i = .int .i64 k/\Hid (∀ (j:Nat) (hj:j < s.size),j < k->s[j].toNat < 128)) (fun i=>s.size - (RowKit.intOf i).toNat)
 case atStart=>exact ⟨0,Nat.zero_le _,rfl,hid fun j _ h=>by omega⟩
 case round =>
  obtain ⟨k,hk,rfl,HR⟩:=hrel
  by_cases hlt:k < s.size
  ·by_cases h8:(128:Int)<=(s[k].toNat:Int)
   ·go_wp2;go_ret;exact ⟨.inr rfl,kR _ _⟩
   ·have H8:=hid h8;go_wp2
    go_round
    case rel =>
     refine ⟨k+1,by omega,by go_num,hid fun j hj h => ?_⟩
     rcases Nat.lt_or_ge j k with h1 | h1
     ·exact HR.out j hj h1
     ·obtain rfl:j=k:=by omega
      have:=H8.out;omega
    case measure=>simp [RowKit.intOf];omega
  ·go_wp2;go_ret;refine ⟨.inl ⟨rfl,fun b hb => ?_⟩,kR _ _⟩;obtain ⟨j,hj,rfl⟩:=xpO hb;exact HR.out j hj (by omega)
end Go.Proofs.YtmdpodeegdjkeaaGreatDoor
section
namespace Go.Proofs.YtmdpodeegdjkeaaGreatDoor
open Go Go.RowKit
theorem xlt (x:Int) (h:0<=x/\x<=18446744073709551615):IntKind.i64.wrap x=if x < 9223372036854775808 then x else x - 18446744073709551616:=by
 by_cases hx:x < 9223372036854775808
 ·rw [if_pos hx];exact IntWalk.i64_in x ⟨by omega,by omega⟩
 ·rw [if_neg hx];simp [IntKind.wrap,IntKind.bits,IntKind.signed];omega
theorem sgn_6 (n:Int) (hn:0<=n/\n<=18446744073709551615):IntKind.u64.wrap (IntKind.i64.wrap (IntKind.u64.wrap (n*72057594037927936)) / 72057594037927936)=n ↔ (n < 128\/18446744073709551488<=n):=by
 rw [IntKind.wrap_u64 (n*72057594037927936),xlt _ (by omega),IntKind.wrap_u64]
 split <;> omega
theorem sgn_7 (n:Int) (hn:0<=n/\n<=18446744073709551615):IntKind.u64.wrap (IntKind.i64.wrap (IntKind.u64.wrap (n*281474976710656)) / 281474976710656)=n ↔ (n < 32768\/18446744073709518848<=n):=by
 rw [IntKind.wrap_u64 (n*281474976710656),xlt _ (by omega),IntKind.wrap_u64]
 split <;> omega
theorem sgn_8 (n:Int) (hn:0<=n/\n<=18446744073709551615):IntKind.u64.wrap (IntKind.i64.wrap (IntKind.u64.wrap (n*4294967296)) / 4294967296)=n ↔ (n < 2147483648\/18446744071562067968<=n):=by
 rw [IntKind.wrap_u64 (n*4294967296),xlt _ (by omega),IntKind.wrap_u64]
 split <;> omega
end Go.Proofs.YtmdpodeegdjkeaaGreatDoor
end
