/- Part 20 of the proof of the readers and the guards. No conditions. -/
import Derived.Test.YtmdpodeegdjkeaaGreatDoorU0
import Derived.Test.YtmdpodeegdjkeaaGreatDoorU19
set_option maxRecDepth 100000
set_option maxHeartbeats 3200000
namespace Go.Proofs.YtmdpodeegdjkeaaGreatDoor
open Go Go.RowKit Go.Lib Tryz
def bv (D:List UInt8) (b k:Nat):Value:=.bool (decide (((at0 D (b+k)).toNat:Int)≠0))
theorem Next_in (r:Nat) (s:Value) (D:List UInt8) (i:Nat) (w:World) (S:Nat->Prop) (hS:∀ b,S b->b≠r) (n:Nat) (h:Buf w r s D i) (hB:BSl S w s D) (hn:i+n<=D.length) :
  Calls prog 161 #[.pointer (some ⟨r,0,none⟩),.int .i64 n] w (xac fun v b w'=>b = .bool true/\BSl S w' v ((D.drop i).take n)/\At_ w w' r s D (i+n)):=by
 have hsm:=h.small;have hck:=xcd r s D i w n h (by omega) (by omega) (by omega);have c1:w.cell? ⟨r,1,none⟩=some (.int .i64 i):=h.blk.cell 1;have f1:w.frozen? ⟨r,1,none⟩=false:=h.blk.frozen 1;obtain ⟨a,c,rfl,hc,hm,hb⟩:=id hB;have c0:w.cell? ⟨r,0,none⟩=some (.slice a D.length c):=h.blk.cell 0;have hcut:=hB.cut (l:=i) (h:=i+n) (by omega) hn;rw [show i+n - i=n by omega] at hcut;have HB:=hid h;have HC:=hid hck;have HSr:=hid hS;clear hb hB h hck hS;unfold maxLen at hm;have hs:IntKind.i64.wrap ((i:Int)+n)=(i:Int)+n:=IntWalk.i64_in _ (by omega);have hs':((i:Int)+n).toNat=i+n:=by omega
 have hs'':((i:Int)+n).toNat - i=n:=by omega
 have hkk:∀ q,Kept (Only r) w ((w.drewN q).setCell ⟨r,1,none⟩ (.int .i64 (↑i + ↑n))):=fun q=>((kR (Only r) w).drewN _).set1 1 _
 have HK:=hid hkk;clear hkk
 by_cases hci:c=i
 ·subst hci;rw [if_pos rfl] at hcut;have H:=hid hcut;clear hcut;go_enter func161,ntmps161;go_wp2_with (go_at_call 129;refine HC.out.mono ?_;rintro e w' ⟨rfl,k,rfl⟩);go_quiet (fail);go_wp2;go_ret2;refine ⟨_,_,rfl,rfl,?_,(HB.out.drewN _).move hn,HK.out _⟩
  simpa using H.out.keep (HK.out (k+nq)) (fun b _ hb he=>HSr.out b hb he)
 ·rw [if_neg hci] at hcut;have H:=hid hcut;clear hcut;go_enter func161,ntmps161;go_wp2_with (go_at_call 129;refine HC.out.mono ?_;rintro e w' ⟨rfl,k,rfl⟩);go_quiet (fail);go_wp2;go_ret2;refine ⟨_,_,rfl,rfl,?_,(HB.out.drewN _).move hn,HK.out _⟩;exact H.out.keep (HK.out (k+nq)) (fun b _ hb he=>HSr.out b hb he)
theorem xdo (r:Nat) (s:Value) (D:List UInt8) (i:Nat) (w:World) (S:Nat->Prop) (hS:∀ b,S b->b≠r) (n:Nat) (h:Buf w r s D i) (hB:BSl S w s D) (hn:i+n<=D.length) (h0:0 < n) :
  Calls prog 161 #[.pointer (some ⟨r,0,none⟩),.int .i64 n] w (xac fun v b w'=>b = .bool true/\(∃ g off c,v = .slice (some ⟨g,off,none⟩) n c/\S g/\n<=c/\c<=maxLen /\
   ∀ j x,j < n->D[i+j]? = some x->w'.cell? ⟨g,off+j,none⟩=some (.int .u8 x.toNat))/\At_ w w' r s D (i+n)) :=
 (Next_in r s D i w S hS n h hB hn).mono fun e w' ⟨v,b,he,hb,hB,hA⟩=>⟨v,b,he,hb,by
  have hl:((D.drop i).take n).length=n:=by simp;omega
  obtain ⟨a,c,rfl,hc,hm,hB⟩:=hB
  rcases hB with e | ⟨g,off,rfl,hg,hB⟩
  ·rw [e] at hl;simp at hl;omega
  ·refine ⟨g,off,c,by rw [hl],hg,by omega,hm,fun j x hj hx=>hB j x ?_⟩
   rw [List.getElem?_take,if_pos hj,List.getElem?_drop];exact hx,hA⟩
theorem Buf.old {w0 w:World} {r:Nat} {s:Value} {D:List UInt8} {i0 i:Nat} (h0:Buf w0 r s D i0) (h:Buf w r s D i):BSl (fun b=>b≠r/\b < w0.heap.size) w s D:=by
 obtain ⟨a,c,e,hc,hm,hb⟩:=h.bytes;refine ⟨a,c,e,hc,hm,?_⟩
 rcases hb with rfl | ⟨b,off,rfl,hS,hb⟩
 ·exact .inl rfl
 ·rcases D with _ | ⟨x,l⟩
  ·exact .inl rfl
  ·exact .inr ⟨b,off,rfl,⟨hS,h0.mem_lt e (by simp)⟩,hb⟩
theorem info_i8:(prog.info? 102).map (fun i=>(i.zero,i.size,i.bytes))=some (some (.int .i8 0),1,1):=by kernel_rfl
theorem xpd (w0 w:World) (r:Nat) (s:Value) (D:List UInt8) (i0 i j p:Nat) (t:TypeId) (n:Nat) (h0:Buf w0 r s D i0) (hA:At_ w0 w r s D i) (hp:w0.heap.size<=p) (hc:Blk w p t #[.slice none 0 0])
  (hz:0 < n) (hn:n<=65536) (hH:∀ W,Buf W r s D i->Calls prog 183 #[.pointer (some ⟨r,0,none⟩)] W fun e W'=>e = .returned (.tuple #[.int .i64 n,.nilIface])/\At_ W W' r s D j) (hcode:D[j]? = some 81) (hle:j+1+n<=D.length) :
  Calls prog 131 #[.pointer (some ⟨p,0,none⟩),.pointer (some ⟨r,0,none⟩)] w (Gives fun e w'=>e = .nilIface/\xbZ w0 r s D (j+1+n) p t 1 n ((List.range n).map fun k => .int .i8 (sg 8 ((at0 D (j+1+k)).toNat))) w'):=by
 obtain ⟨i1,hi,hz0,hz1,hz2⟩:=info_parts info_i8;have HB:=hid h0;have HA:=hid (aI hA (aI hc hp));have HH:=hid hH;have hpr:¬ Only r p:=fun e=>by have e':p=r:=e;have:=h0.lt;omega
 have HX:=hid (aI hpr (aI hcode hle));have hz':(0:Int) < (n:Int):=by omega
 clear h0 hA hp hc hH hpr hcode hle;go_enter func131,ntmps131;go_wp2_with (first | (go_at_call 183;go_must (refine (HH.out _ HA.out.1.buf).mono ?_;rintro e w1 ⟨rfl,hA1⟩;have H1:=hid (aI (HA.out.1.trans hA1) (HA.out.2.1.kept hA1.kept HX.out.1));have c1:=H1.out.2.cell 0;clear hA1)) | (go_at_call 160;go_must (refine (xaa r s D j _ _ H1.out.1.buf HX.out.2.1).mono ?_;rintro e w2 ⟨rfl,hA2⟩;have H2:=hid (aI (H1.out.1.trans hA2) (H1.out.2.kept hA2.kept HX.out.1));clear hA2)) | (go_at_call 161;go_must (refine (xdo r s D (j+1) _ (fun b=>b≠r/\b < w0.heap.size) (fun b h=>h.1) n H2.out.1.buf (HB.out.old H2.out.1.buf) (by have:=HX.out.2.2;omega) (by omega)).mono ?_;rintro e w3 ⟨v,b,rfl,rfl,⟨g,off,c4,rfl,hg,hgc,hcm,hcell⟩,hA3⟩;have H3:=hid (aI (H2.out.1.trans hA3) (aI (H2.out.2.kept hA3.kept HX.out.1) hcell));have c3:=H3.out.2.1.cell 0;clear hA3 hcell)) | (at_make;go_must (refine wpList_make_row _ rfl (.tmp 49) (.tmp 49) 127 rfl 102 i1 (.int .i8 0) underlying127 hi hz0 hz1 rfl .i64 .i64 n rfl rfl (by rw [hz2];omega) (by omega) ?_)));have HI:=hid (AInv.start (e:=102) (cv:=fun k => .int .i8 (sg 8 ((at0 D (j+1+k)).toNat))) (total:=n*1) (z:=.int .i8 0) H3.out.1 H3.out.2.1 HA.out.2.2 hz (by have:=HX.out.2.2;omega) H3.out.2.2);rw [Nat.mul_one] at HI;generalize hW:w3.alloc (.cells (madeCells #[.int .i8 0] n) 102)=W at HI ⊢;obtain ⟨G,hG⟩:∃ G,w3.heap.size=G:=⟨_,rfl⟩
 rw [hG] at HI ⊢;clear hW hG H1 H2 H3 c1 c3
 go_loopw [56] (fun c w'=>∃ k:Nat,k<=n/\c = .int .i64 k/\Hid (AInv w0 r s D (j+1+n) p t G 102 g off n (j+1) (fun k => .int .i8 (sg 8 ((at0 D (j+1+k)).toNat))) n k w')) (fun c _=>n - (RowKit.intOf c).toNat)
 case atStart=>exact ⟨0,by omega,rfl,HI⟩
 case round =>
  obtain ⟨k,hk,rfl,HI⟩:=hrel
  by_cases hkn:k < n
  ·have hkn':(k:Int) < (n:Int):=by omega
   have hk0:(0:Int)<=(k:Int):=by omega
   have hx8:=(at0 D (j+1+k)).toNat_lt;have e3:IntKind.i64.wrap ((k:Int)+1)=(k:Int)+1:=IntWalk.i64_in _ (by omega);have hcv:IntKind.i8.wrap (((at0 D (j+1+k)).toNat:Nat):Int)=sg 8 ((at0 D (j+1+k)).toNat):=i8_sg _ (UInt8.toNat_lt _);have hx:=HI.out.src k _ hkn (xag (show j+1+k < D.length by have:=HX.out.2.2;omega));obtain ⟨⟨u,c5⟩,f5⟩:=HI.out.cell_ (i:=k) (by omega);go_wp2_with (fail);have HI6:=hid (HI.out.set_ HB.out hkn);go_roundw
   case rel=>exact ⟨k+1,by omega,by go_num,HI6⟩
   case measure=>simp [RowKit.intOf];omega
  ·obtain rfl:k=n:=by omega
   have c4':=HI.out.cell.cell 0;have f4':=HI.out.cell.frozen 0;have hlt:¬ (k:Int) < (k:Int):=by omega
   have hd:=AInv.done (size:=1) (n:=k) (by rw [Nat.mul_one];exact HI.out) HB.out (by unfold maxLen;omega);rw [Nat.mul_one] at hd;have HD:=hid hd;clear hd;go_wp2_with (fail);go_ret;exact ⟨_,rfl,rfl,HD.out⟩
theorem xlR (w0 w:World) (r:Nat) (s:Value) (D:List UInt8) (i0 i j p:Nat) (t:TypeId) (n:Nat) (h0:Buf w0 r s D i0) (hA:At_ w0 w r s D i) (hp:w0.heap.size<=p) (hc:Blk w p t #[.slice none 0 0])
  (hz:0 < n) (hn:n<=65536) (hH:∀ W,Buf W r s D i->Calls prog 183 #[.pointer (some ⟨r,0,none⟩)] W fun e W'=>e = .returned (.tuple #[.int .i64 n,.nilIface])/\At_ W W' r s D j) (hcode:D[j]? = some 82) (hle:j+1+n<=D.length) :
  Calls prog 134 #[.pointer (some ⟨p,0,none⟩),.pointer (some ⟨r,0,none⟩)] w (Gives fun e w'=>e = .nilIface/\xbZ w0 r s D (j+1+n) p t 1 n ((List.range n).map fun k => .int .u32 ((at0 D (j+1+k)).toNat:Nat)) w'):=by
 obtain ⟨i1,hi,hz0,hz1,hz2⟩:=info_parts xol;have HB:=hid h0;have HA:=hid (aI hA (aI hc hp));have HH:=hid hH;have hpr:¬ Only r p:=fun e=>by have e':p=r:=e;have:=h0.lt;omega
 have HX:=hid (aI hpr (aI hcode hle));have hz':(0:Int) < (n:Int):=by omega
 clear h0 hA hp hc hH hpr hcode hle;go_enter func134,ntmps134;go_wp2_with (first | (go_at_call 183;go_must (refine (HH.out _ HA.out.1.buf).mono ?_;rintro e w1 ⟨rfl,hA1⟩;have H1:=hid (aI (HA.out.1.trans hA1) (HA.out.2.1.kept hA1.kept HX.out.1));have c1:=H1.out.2.cell 0;clear hA1)) | (go_at_call 160;go_must (refine (xaa r s D j _ _ H1.out.1.buf HX.out.2.1).mono ?_;rintro e w2 ⟨rfl,hA2⟩;have H2:=hid (aI (H1.out.1.trans hA2) (H1.out.2.kept hA2.kept HX.out.1));clear hA2)) | (go_at_call 161;go_must (refine (xdo r s D (j+1) _ (fun b=>b≠r/\b < w0.heap.size) (fun b h=>h.1) n H2.out.1.buf (HB.out.old H2.out.1.buf) (by have:=HX.out.2.2;omega) (by omega)).mono ?_;rintro e w3 ⟨v,b,rfl,rfl,⟨g,off,c4,rfl,hg,hgc,hcm,hcell⟩,hA3⟩;have H3:=hid (aI (H2.out.1.trans hA3) (aI (H2.out.2.kept hA3.kept HX.out.1) hcell));have c3:=H3.out.2.1.cell 0;clear hA3 hcell)) | (at_make;go_must (refine wpList_make_row _ rfl (.tmp 75) (.tmp 75) 121 rfl 101 i1 (.int .u32 0) underlying121 hi hz0 hz1 rfl .i64 .i64 n rfl rfl (by rw [hz2];omega) (by omega) ?_)));have HI:=hid (AInv.start (e:=101) (cv:=fun k => .int .u32 ((at0 D (j+1+k)).toNat:Nat)) (total:=n*1) (z:=.int .u32 0) H3.out.1 H3.out.2.1 HA.out.2.2 hz (by have:=HX.out.2.2;omega) H3.out.2.2);rw [Nat.mul_one] at HI;generalize hW:w3.alloc (.cells (madeCells #[.int .u32 0] n) 101)=W at HI ⊢;obtain ⟨G,hG⟩:∃ G,w3.heap.size=G:=⟨_,rfl⟩
 rw [hG] at HI ⊢;clear hW hG H1 H2 H3 c1 c3
 go_loopw [82] (fun c w'=>∃ k:Nat,k<=n/\c = .int .i64 k/\Hid (AInv w0 r s D (j+1+n) p t G 101 g off n (j+1) (fun k => .int .u32 ((at0 D (j+1+k)).toNat:Nat)) n k w')) (fun c _=>n - (RowKit.intOf c).toNat)
 case atStart=>exact ⟨0,by omega,rfl,HI⟩
 case round =>
  obtain ⟨k,hk,rfl,HI⟩:=hrel
  by_cases hkn:k < n
  ·have hkn':(k:Int) < (n:Int):=by omega
   have hk0:(0:Int)<=(k:Int):=by omega
   have hx8:=(at0 D (j+1+k)).toNat_lt;have e3:IntKind.i64.wrap ((k:Int)+1)=(k:Int)+1:=IntWalk.i64_in _ (by omega);have hcv:IntKind.u32.wrap (((at0 D (j+1+k)).toNat:Nat):Int)=(((at0 D (j+1+k)).toNat:Nat):Int):=u32_in (by omega);have hx:=HI.out.src k _ hkn (xag (show j+1+k < D.length by have:=HX.out.2.2;omega));obtain ⟨⟨u,c5⟩,f5⟩:=HI.out.cell_ (i:=k) (by omega);go_wp2_with (fail);have HI6:=hid (HI.out.set_ HB.out hkn);go_roundw
   case rel=>exact ⟨k+1,by omega,by go_num,HI6⟩
   case measure=>simp [RowKit.intOf];omega
  ·obtain rfl:k=n:=by omega
   have c4':=HI.out.cell.cell 0;have f4':=HI.out.cell.frozen 0;have hlt:¬ (k:Int) < (k:Int):=by omega
   have hd:=AInv.done (size:=1) (n:=k) (by rw [Nat.mul_one];exact HI.out) HB.out (by unfold maxLen;omega);rw [Nat.mul_one] at hd;have HD:=hid hd;clear hd;go_wp2_with (fail);go_ret;exact ⟨_,rfl,rfl,HD.out⟩
theorem xnC (w0 w:World) (r:Nat) (s:Value) (D:List UInt8) (i0 i j p:Nat) (t:TypeId) (n:Nat) (h0:Buf w0 r s D i0) (hA:At_ w0 w r s D i) (hp:w0.heap.size<=p) (hc:Blk w p t #[.slice none 0 0])
  (hz:0 < n) (hn:n<=65536) (hH:∀ W,Buf W r s D i->Calls prog 183 #[.pointer (some ⟨r,0,none⟩)] W fun e W'=>e = .returned (.tuple #[.int .i64 n,.nilIface])/\At_ W W' r s D j) (hcode:D[j]? = some 84) (hle:j+1+n<=D.length) :
  Calls prog 135 #[.pointer (some ⟨p,0,none⟩),.pointer (some ⟨r,0,none⟩)] w (Gives fun e w'=>e = .nilIface/\xbZ w0 r s D (j+1+n) p t 1 n ((List.range n).map fun k => .int .i32 (sg 8 ((at0 D (j+1+k)).toNat))) w'):=by
 obtain ⟨i1,hi,hz0,hz1,hz2⟩:=info_parts xon;have HB:=hid h0;have HA:=hid (aI hA (aI hc hp));have HH:=hid hH;have hpr:¬ Only r p:=fun e=>by have e':p=r:=e;have:=h0.lt;omega
 have HX:=hid (aI hpr (aI hcode hle));have hz':(0:Int) < (n:Int):=by omega
 clear h0 hA hp hc hH hpr hcode hle;go_enter func135,ntmps135;go_wp2_with (first | (go_at_call 183;go_must (refine (HH.out _ HA.out.1.buf).mono ?_;rintro e w1 ⟨rfl,hA1⟩;have H1:=hid (aI (HA.out.1.trans hA1) (HA.out.2.1.kept hA1.kept HX.out.1));have c1:=H1.out.2.cell 0;clear hA1)) | (go_at_call 160;go_must (refine (xaa r s D j _ _ H1.out.1.buf HX.out.2.1).mono ?_;rintro e w2 ⟨rfl,hA2⟩;have H2:=hid (aI (H1.out.1.trans hA2) (H1.out.2.kept hA2.kept HX.out.1));clear hA2)) | (go_at_call 161;go_must (refine (xdo r s D (j+1) _ (fun b=>b≠r/\b < w0.heap.size) (fun b h=>h.1) n H2.out.1.buf (HB.out.old H2.out.1.buf) (by have:=HX.out.2.2;omega) (by omega)).mono ?_;rintro e w3 ⟨v,b,rfl,rfl,⟨g,off,c4,rfl,hg,hgc,hcm,hcell⟩,hA3⟩;have H3:=hid (aI (H2.out.1.trans hA3) (aI (H2.out.2.kept hA3.kept HX.out.1) hcell));have c3:=H3.out.2.1.cell 0;clear hA3 hcell)) | (at_make;go_must (refine wpList_make_row _ rfl (.tmp 54) (.tmp 54) 133 rfl 21 i1 (.int .i32 0) underlying133 hi hz0 hz1 rfl .i64 .i64 n rfl rfl (by rw [hz2];omega) (by omega) ?_)));have HI:=hid (AInv.start (e:=21) (cv:=fun k => .int .i32 (sg 8 ((at0 D (j+1+k)).toNat))) (total:=n*1) (z:=.int .i32 0) H3.out.1 H3.out.2.1 HA.out.2.2 hz (by have:=HX.out.2.2;omega) H3.out.2.2);rw [Nat.mul_one] at HI;generalize hW:w3.alloc (.cells (madeCells #[.int .i32 0] n) 21)=W at HI ⊢;obtain ⟨G,hG⟩:∃ G,w3.heap.size=G:=⟨_,rfl⟩
 rw [hG] at HI ⊢;clear hW hG H1 H2 H3 c1 c3
 go_loopw [61] (fun c w'=>∃ k:Nat,k<=n/\c = .int .i64 k/\Hid (AInv w0 r s D (j+1+n) p t G 21 g off n (j+1) (fun k => .int .i32 (sg 8 ((at0 D (j+1+k)).toNat))) n k w')) (fun c _=>n - (RowKit.intOf c).toNat)
 case atStart=>exact ⟨0,by omega,rfl,HI⟩
 case round =>
  obtain ⟨k,hk,rfl,HI⟩:=hrel
  by_cases hkn:k < n
  ·have hkn':(k:Int) < (n:Int):=by omega
   have hk0:(0:Int)<=(k:Int):=by omega
   have hx8:=(at0 D (j+1+k)).toNat_lt;have e3:IntKind.i64.wrap ((k:Int)+1)=(k:Int)+1:=IntWalk.i64_in _ (by omega);have hcv:wrap32 (IntKind.i8.wrap (((at0 D (j+1+k)).toNat:Nat):Int))=sg 8 ((at0 D (j+1+k)).toNat):=w32_i8 _ (UInt8.toNat_lt _);have hx:=HI.out.src k _ hkn (xag (show j+1+k < D.length by have:=HX.out.2.2;omega));obtain ⟨⟨u,c5⟩,f5⟩:=HI.out.cell_ (i:=k) (by omega);go_wp2_with (fail);have HI6:=hid (HI.out.set_ HB.out hkn);go_roundw
   case rel=>exact ⟨k+1,by omega,by go_num,HI6⟩
   case measure=>simp [RowKit.intOf];omega
  ·obtain rfl:k=n:=by omega
   have c4':=HI.out.cell.cell 0;have f4':=HI.out.cell.frozen 0;have hlt:¬ (k:Int) < (k:Int):=by omega
   have hd:=AInv.done (size:=1) (n:=k) (by rw [Nat.mul_one];exact HI.out) HB.out (by unfold maxLen;omega);rw [Nat.mul_one] at hd;have HD:=hid hd;clear hd;go_wp2_with (fail);go_ret;exact ⟨_,rfl,rfl,HD.out⟩
theorem xlP (w0 w:World) (r:Nat) (s:Value) (D:List UInt8) (i0 i j p:Nat) (t:TypeId) (n:Nat) (h0:Buf w0 r s D i0) (hA:At_ w0 w r s D i) (hp:w0.heap.size<=p) (hc:Blk w p t #[.slice none 0 0])
  (hz:0 < n) (hn:n<=65536) (hH:∀ W,Buf W r s D i->Calls prog 183 #[.pointer (some ⟨r,0,none⟩)] W fun e W'=>e = .returned (.tuple #[.int .i64 n,.nilIface])/\At_ W W' r s D j) (hcode:D[j]? = some 83) (hle:j+1+n<=D.length) :
  Calls prog 136 #[.pointer (some ⟨p,0,none⟩),.pointer (some ⟨r,0,none⟩)] w (Gives fun e w'=>e = .nilIface/\xbZ w0 r s D (j+1+n) p t 1 n ((List.range n).map fun k => .int .u64 ((at0 D (j+1+k)).toNat:Nat)) w'):=by
 obtain ⟨i1,hi,hz0,hz1,hz2⟩:=info_parts xok;have HB:=hid h0;have HA:=hid (aI hA (aI hc hp));have HH:=hid hH;have hpr:¬ Only r p:=fun e=>by have e':p=r:=e;have:=h0.lt;omega
 have HX:=hid (aI hpr (aI hcode hle));have hz':(0:Int) < (n:Int):=by omega
 clear h0 hA hp hc hH hpr hcode hle;go_enter func136,ntmps136;go_wp2_with (first | (go_at_call 183;go_must (refine (HH.out _ HA.out.1.buf).mono ?_;rintro e w1 ⟨rfl,hA1⟩;have H1:=hid (aI (HA.out.1.trans hA1) (HA.out.2.1.kept hA1.kept HX.out.1));have c1:=H1.out.2.cell 0;clear hA1)) | (go_at_call 160;go_must (refine (xaa r s D j _ _ H1.out.1.buf HX.out.2.1).mono ?_;rintro e w2 ⟨rfl,hA2⟩;have H2:=hid (aI (H1.out.1.trans hA2) (H1.out.2.kept hA2.kept HX.out.1));clear hA2)) | (go_at_call 161;go_must (refine (xdo r s D (j+1) _ (fun b=>b≠r/\b < w0.heap.size) (fun b h=>h.1) n H2.out.1.buf (HB.out.old H2.out.1.buf) (by have:=HX.out.2.2;omega) (by omega)).mono ?_;rintro e w3 ⟨v,b,rfl,rfl,⟨g,off,c4,rfl,hg,hgc,hcm,hcell⟩,hA3⟩;have H3:=hid (aI (H2.out.1.trans hA3) (aI (H2.out.2.kept hA3.kept HX.out.1) hcell));have c3:=H3.out.2.1.cell 0;clear hA3 hcell)) | (at_make;go_must (refine wpList_make_row _ rfl (.tmp 75) (.tmp 75) 124 rfl 22 i1 (.int .u64 0) underlying124 hi hz0 hz1 rfl .i64 .i64 n rfl rfl (by rw [hz2];omega) (by omega) ?_)));have HI:=hid (AInv.start (e:=22) (cv:=fun k => .int .u64 ((at0 D (j+1+k)).toNat:Nat)) (total:=n*1) (z:=.int .u64 0) H3.out.1 H3.out.2.1 HA.out.2.2 hz (by have:=HX.out.2.2;omega) H3.out.2.2);rw [Nat.mul_one] at HI;generalize hW:w3.alloc (.cells (madeCells #[.int .u64 0] n) 22)=W at HI ⊢;obtain ⟨G,hG⟩:∃ G,w3.heap.size=G:=⟨_,rfl⟩
 rw [hG] at HI ⊢;clear hW hG H1 H2 H3 c1 c3
 go_loopw [82] (fun c w'=>∃ k:Nat,k<=n/\c = .int .i64 k/\Hid (AInv w0 r s D (j+1+n) p t G 22 g off n (j+1) (fun k => .int .u64 ((at0 D (j+1+k)).toNat:Nat)) n k w')) (fun c _=>n - (RowKit.intOf c).toNat)
 case atStart=>exact ⟨0,by omega,rfl,HI⟩
 case round =>
  obtain ⟨k,hk,rfl,HI⟩:=hrel
  by_cases hkn:k < n
  ·have hkn':(k:Int) < (n:Int):=by omega
   have hk0:(0:Int)<=(k:Int):=by omega
   have hx8:=(at0 D (j+1+k)).toNat_lt;have e3:IntKind.i64.wrap ((k:Int)+1)=(k:Int)+1:=IntWalk.i64_in _ (by omega);have hx:=HI.out.src k _ hkn (xag (show j+1+k < D.length by have:=HX.out.2.2;omega));obtain ⟨⟨u,c5⟩,f5⟩:=HI.out.cell_ (i:=k) (by omega);go_wp2_with (fail);have HI6:=hid (HI.out.set_ HB.out hkn);go_roundw
   case rel=>exact ⟨k+1,by omega,by go_num,HI6⟩
   case measure=>simp [RowKit.intOf];omega
  ·obtain rfl:k=n:=by omega
   have c4':=HI.out.cell.cell 0;have f4':=HI.out.cell.frozen 0;have hlt:¬ (k:Int) < (k:Int):=by omega
   have hd:=AInv.done (size:=1) (n:=k) (by rw [Nat.mul_one];exact HI.out) HB.out (by unfold maxLen;omega);rw [Nat.mul_one] at hd;have HD:=hid hd;clear hd;go_wp2_with (fail);go_ret;exact ⟨_,rfl,rfl,HD.out⟩
theorem xnA (w0 w:World) (r:Nat) (s:Value) (D:List UInt8) (i0 i j p:Nat) (t:TypeId) (n:Nat) (h0:Buf w0 r s D i0) (hA:At_ w0 w r s D i) (hp:w0.heap.size<=p) (hc:Blk w p t #[.slice none 0 0])
  (hz:0 < n) (hn:n<=65536) (hH:∀ W,Buf W r s D i->Calls prog 183 #[.pointer (some ⟨r,0,none⟩)] W fun e W'=>e = .returned (.tuple #[.int .i64 n,.nilIface])/\At_ W W' r s D j) (hcode:D[j]? = some 85) (hle:j+1+n<=D.length) :
  Calls prog 137 #[.pointer (some ⟨p,0,none⟩),.pointer (some ⟨r,0,none⟩)] w (Gives fun e w'=>e = .nilIface/\xbZ w0 r s D (j+1+n) p t 1 n ((List.range n).map fun k => .int .i64 (sg 8 ((at0 D (j+1+k)).toNat))) w'):=by
 obtain ⟨i1,hi,hz0,hz1,hz2⟩:=info_parts xom;have HB:=hid h0;have HA:=hid (aI hA (aI hc hp));have HH:=hid hH;have hpr:¬ Only r p:=fun e=>by have e':p=r:=e;have:=h0.lt;omega
 have HX:=hid (aI hpr (aI hcode hle));have hz':(0:Int) < (n:Int):=by omega
 clear h0 hA hp hc hH hpr hcode hle;go_enter func137,ntmps137;go_wp2_with (first | (go_at_call 183;go_must (refine (HH.out _ HA.out.1.buf).mono ?_;rintro e w1 ⟨rfl,hA1⟩;have H1:=hid (aI (HA.out.1.trans hA1) (HA.out.2.1.kept hA1.kept HX.out.1));have c1:=H1.out.2.cell 0;clear hA1)) | (go_at_call 160;go_must (refine (xaa r s D j _ _ H1.out.1.buf HX.out.2.1).mono ?_;rintro e w2 ⟨rfl,hA2⟩;have H2:=hid (aI (H1.out.1.trans hA2) (H1.out.2.kept hA2.kept HX.out.1));clear hA2)) | (go_at_call 161;go_must (refine (xdo r s D (j+1) _ (fun b=>b≠r/\b < w0.heap.size) (fun b h=>h.1) n H2.out.1.buf (HB.out.old H2.out.1.buf) (by have:=HX.out.2.2;omega) (by omega)).mono ?_;rintro e w3 ⟨v,b,rfl,rfl,⟨g,off,c4,rfl,hg,hgc,hcm,hcell⟩,hA3⟩;have H3:=hid (aI (H2.out.1.trans hA3) (aI (H2.out.2.kept hA3.kept HX.out.1) hcell));have c3:=H3.out.2.1.cell 0;clear hA3 hcell)) | (at_make;go_must (refine wpList_make_row _ rfl (.tmp 54) (.tmp 54) 136 rfl 2 i1 (.int .i64 0) underlying136 hi hz0 hz1 rfl .i64 .i64 n rfl rfl (by rw [hz2];omega) (by omega) ?_)));have HI:=hid (AInv.start (e:=2) (cv:=fun k => .int .i64 (sg 8 ((at0 D (j+1+k)).toNat))) (total:=n*1) (z:=.int .i64 0) H3.out.1 H3.out.2.1 HA.out.2.2 hz (by have:=HX.out.2.2;omega) H3.out.2.2);rw [Nat.mul_one] at HI;generalize hW:w3.alloc (.cells (madeCells #[.int .i64 0] n) 2)=W at HI ⊢;obtain ⟨G,hG⟩:∃ G,w3.heap.size=G:=⟨_,rfl⟩
 rw [hG] at HI ⊢;clear hW hG H1 H2 H3 c1 c3
 go_loopw [61] (fun c w'=>∃ k:Nat,k<=n/\c = .int .i64 k/\Hid (AInv w0 r s D (j+1+n) p t G 2 g off n (j+1) (fun k => .int .i64 (sg 8 ((at0 D (j+1+k)).toNat))) n k w')) (fun c _=>n - (RowKit.intOf c).toNat)
 case atStart=>exact ⟨0,by omega,rfl,HI⟩
 case round =>
  obtain ⟨k,hk,rfl,HI⟩:=hrel
  by_cases hkn:k < n
  ·have hkn':(k:Int) < (n:Int):=by omega
   have hk0:(0:Int)<=(k:Int):=by omega
   have hx8:=(at0 D (j+1+k)).toNat_lt;have e3:IntKind.i64.wrap ((k:Int)+1)=(k:Int)+1:=IntWalk.i64_in _ (by omega);have hcv:wrap64 (IntKind.i8.wrap (((at0 D (j+1+k)).toNat:Nat):Int))=sg 8 ((at0 D (j+1+k)).toNat):=w64_i8 _ (UInt8.toNat_lt _);have hx:=HI.out.src k _ hkn (xag (show j+1+k < D.length by have:=HX.out.2.2;omega));obtain ⟨⟨u,c5⟩,f5⟩:=HI.out.cell_ (i:=k) (by omega);go_wp2_with (fail);have HI6:=hid (HI.out.set_ HB.out hkn);go_roundw
   case rel=>exact ⟨k+1,by omega,by go_num,HI6⟩
   case measure=>simp [RowKit.intOf];omega
  ·obtain rfl:k=n:=by omega
   have c4':=HI.out.cell.cell 0;have f4':=HI.out.cell.frozen 0;have hlt:¬ (k:Int) < (k:Int):=by omega
   have hd:=AInv.done (size:=1) (n:=k) (by rw [Nat.mul_one];exact HI.out) HB.out (by unfold maxLen;omega);rw [Nat.mul_one] at hd;have HD:=hid hd;clear hd;go_wp2_with (fail);go_ret;exact ⟨_,rfl,rfl,HD.out⟩
theorem xpV:(prog.info? 4).map (fun i=>(i.zero,i.size,i.bytes))=some (some (.bool false),1,1):=by kernel_rfl
theorem xpe (w0 w:World) (r:Nat) (s:Value) (D:List UInt8) (i0 i j p:Nat) (t:TypeId) (n:Nat) (h0:Buf w0 r s D i0) (hA:At_ w0 w r s D i) (hp:w0.heap.size<=p) (hc:Blk w p t #[.slice none 0 0])
  (hz:0 < n) (hn:n<=65536) (hH:∀ W,Buf W r s D i->Calls prog 183 #[.pointer (some ⟨r,0,none⟩)] W fun e W'=>e = .returned (.tuple #[.int .i64 n,.nilIface])/\At_ W W' r s D j) (hcode:D[j]? = some 86) (hle:j+1+n<=D.length) :
  Calls prog 140 #[.pointer (some ⟨p,0,none⟩),.pointer (some ⟨r,0,none⟩)] w (Gives fun e w'=>e = .nilIface/\xbZ w0 r s D (j+1+n) p t 1 n ((List.range n).map fun k=>bv D (j+1) k) w'):=by
 obtain ⟨i1,hi,hz0,hz1,hz2⟩:=info_parts xpV;have HB:=hid h0;have HA:=hid (aI hA (aI hc hp));have HH:=hid hH;have hpr:¬ Only r p:=fun e=>by have e':p=r:=e;have:=h0.lt;omega
 have HX:=hid (aI hpr (aI hcode hle));have hz':(0:Int) < (n:Int):=by omega
 clear h0 hA hp hc hH hpr hcode hle;go_enter func140,ntmps140;go_wp2_with (first | (go_at_call 183;go_must (refine (HH.out _ HA.out.1.buf).mono ?_;rintro e w1 ⟨rfl,hA1⟩;have H1:=hid (aI (HA.out.1.trans hA1) (HA.out.2.1.kept hA1.kept HX.out.1));have c1:=H1.out.2.cell 0;clear hA1)) | (go_at_call 160;go_must (refine (xaa r s D j _ _ (H1.out.1.buf.nope ((kR Nope w1).alloc _)) HX.out.2.1).mono ?_;rintro e w2 ⟨rfl,hA2⟩;have hr2:¬ Only r w1.heap.size:=(fun e=>by have e':w1.heap.size=r:=e;have:=H1.out.1.buf.lt;omega);have H2:=hid (aI ((H1.out.1.nope ((kR Nope w1).alloc _)).trans hA2) (aI ((H1.out.2.alloc _).kept hA2.kept HX.out.1) ((Blk.new w1 4 (madeCells #[.bool false] n)).kept hA2.kept hr2)));clear hA2)) | (go_at_call 161;go_must (refine (xdo r s D (j+1) _ (fun b=>b≠r/\b < w0.heap.size) (fun b h=>h.1) n H2.out.1.buf (HB.out.old H2.out.1.buf) (by have:=HX.out.2.2;omega) (by omega)).mono ?_;rintro e w3 ⟨v,b,rfl,rfl,⟨g,off,c4,rfl,hg,hgc,hcm,hcell⟩,hA3⟩;have hr3:¬ Only r w1.heap.size:=(fun e=>by have e':w1.heap.size=r:=e;have:=H1.out.1.buf.lt;omega);have H3:=hid (aI (H2.out.1.trans hA3) (aI (H2.out.2.1.kept hA3.kept HX.out.1) (aI hcell (aI (H2.out.2.2.kept hA3.kept hr3) hg))));clear hA3 hcell)) | (at_make;go_must (refine wpList_make_row _ rfl (.tmp 31) (.tmp 31) 113 rfl 4 i1 (.bool false) underlying113 hi hz0 hz1 rfl .i64 .i64 n rfl rfl (by rw [hz2];omega) (by omega) ?_)));have HI:Hid (AInv w0 r s D (j+1+n) p t w1.heap.size 4 g off n (j+1) (fun k=>bv D (j+1) k) n 0 w3):=hid ⟨H3.out.1,H3.out.2.1,H1.out.1.kept.size,HA.out.2.2,H1.out.2.lt,Nat.lt_of_lt_of_le H3.out.2.2.2.2.2 H1.out.1.kept.size,H3.out.2.2.1,_,H3.out.2.2.2.1,by simp [madeCells],fun i hi=>by omega⟩;generalize hW:w3=W at HI ⊢;obtain ⟨G,hG⟩:∃ G,w1.heap.size=G:=⟨_,rfl⟩
 rw [hG] at HI ⊢;clear hW hG H1 H2 H3 c1
 go_loopw [59] (fun c w'=>∃ k:Nat,k<=n/\c = .int .i64 k/\Hid (AInv w0 r s D (j+1+n) p t G 4 g off n (j+1) (fun k=>bv D (j+1) k) n k w')) (fun c _=>n - (RowKit.intOf c).toNat)
 case atStart=>exact ⟨0,by omega,rfl,HI⟩
 case round =>
  obtain ⟨k,hk,rfl,HI⟩:=hrel
  by_cases hkn:k < n
  ·have hkn':(k:Int) < (n:Int):=by omega
   have hk0:(0:Int)<=(k:Int):=by omega
   have hx8:=(at0 D (j+1+k)).toNat_lt;have e3:IntKind.i64.wrap ((k:Int)+1)=(k:Int)+1:=IntWalk.i64_in _ (by omega);have hx:=HI.out.src k _ hkn (xag (show j+1+k < D.length by have:=HX.out.2.2;omega));obtain ⟨⟨u,c5⟩,f5⟩:=HI.out.cell_ (i:=k) (by omega);have HI6:=hid (HI.out.set_ HB.out hkn)
   by_cases hb0:((((at0 D (j+1+k)).toNat:Nat):Int))=0
   ·have hdd:bv D (j+1) k = .bool false:=by unfold bv;simpa using hb0
    rw [hdd] at HI6;rw [hb0] at hx;clear hdd;go_wp2_with (fail);go_roundw
    case rel=>exact ⟨k+1,by omega,by go_num,HI6⟩
    case measure=>simp [RowKit.intOf];omega
   ·have hdd:bv D (j+1) k = .bool true:=by unfold bv;simpa using hb0
    rw [hdd] at HI6;clear hdd;go_wp2_with (fail);go_roundw
    case rel=>exact ⟨k+1,by omega,by go_num,HI6⟩
    case measure=>simp [RowKit.intOf];omega
  ·obtain rfl:k=n:=by omega
   have c4':=HI.out.cell.cell 0;have f4':=HI.out.cell.frozen 0;have hlt:¬ (k:Int) < (k:Int):=by omega
   have hd:=AInv.done (size:=1) (n:=k) (by rw [Nat.mul_one];exact HI.out) HB.out (by unfold maxLen;omega);rw [Nat.mul_one] at hd;have HD:=hid hd;clear hd;go_wp2_with (fail);go_ret;exact ⟨_,rfl,rfl,HD.out⟩
section
def Stays (g:Nat) (R:World->Nat->Value->Prop):Prop:=∀ (M:Nat->Prop) (w w':World) (i:Nat) (x:Value),R w i x->Kept M w w'->(∀ b,g < b->¬ M b)->R w' i x
structure SInv (w0:World) (r:Nat) (s:Value) (D:List UInt8) (p:Nat) (t:TypeId) (g:Nat) (e:TypeId) (n:Nat) (pos:Nat->Nat) (R:World->Nat->Value->Prop) (k:Nat) (w:World):Prop where
 at_:At_ w0 w r s D (pos k)
 cell:Blk w p t #[.slice none 0 0]
 big:w0.heap.size<=g
 bigp:w0.heap.size<=p
 ne:p < g
 row:∃ cs,Blk w g e cs/\cs.size=n/\∀ i,i < k->∃ x,cs[i]? = some x/\R w i x
namespace SInv
variable {w0 w w1:World} {r:Nat} {s:Value} {D:List UInt8} {i0 p:Nat} {t:TypeId} {g:Nat} {e:TypeId} {n k:Nat} {pos:Nat->Nat} {R:World->Nat->Value->Prop}
theorem lt_ (h:SInv w0 r s D p t g e n pos R k w):g < w.heap.size:=by obtain ⟨cs,h1,_⟩:=h.row;exact h1.lt
theorem step {x:Value} (h:SInv w0 r s D p t g e n pos R k w) (h0:Buf w0 r s D i0) (hR:Stays g R) (hk:k < n) (hA:At_ w w1 r s D (pos (k+1))) (hx:R w1 k x) :
  (∃ u,w1.cell? ⟨g,k,none⟩=some u)/\w1.frozen? ⟨g,k,none⟩=false/\SInv w0 r s D p t g e n pos R (k+1) (w1.setCell ⟨g,k,none⟩ x):=by
 obtain ⟨cs,h1,h2,h3⟩:=h.row;have hlt:=h0.lt;have hgr:¬ Only r g:=fun e=>by have e':g=r:=e;have:=h.big;omega
 have hpr:¬ Only r p:=fun e=>by have e':p=r:=e;have:=h.bigp;omega
 have hks:Kept (Only g) w1 (w1.setCell ⟨g,k,none⟩ x):=(kR _ _).set1 k x;have hb:=h1.kept hA.kept hgr;have hS:∀ b,g < b->¬ Only g b:=fun b hb e=>by have e':b=g:=e;omega
 refine ⟨⟨cs[k]'(by omega),by rw [hb.cell k];exact Array.getElem?_eq_getElem (by omega)⟩,hb.frozen k,(h.at_.trans hA).setNew h0 h.big x,(h.cell.kept hA.kept hpr).kept hks (fun e=>by have e':p=g:=e;have:=h.ne;omega),h.big,h.bigp,h.ne,_,hb.set_ k x,by simpa using h2,fun i hi => ?_⟩
 by_cases hik:i=k
 ·subst hik;exact ⟨x,by rw [Array.getElem?_setIfInBounds,if_pos rfl,if_pos (by omega)],hR _ _ _ _ _ hx hks hS⟩
 ·obtain ⟨y,hy,hRy⟩:=h3 i (by omega);exact ⟨y,by rw [Array.getElem?_setIfInBounds,if_neg (by omega)];exact hy,hR _ _ _ _ _ (hR _ _ _ _ _ hRy hA.kept fun b hb e=>by have e':b=r:=e;have:=h.big;omega) hks hS⟩
theorem done (h:SInv w0 r s D p t g e n pos R n w) (h0:Buf w0 r s D i0) (hR:Stays g R) (hn:n<=maxLen) :
  At_ w0 (w.setCell ⟨p,0,none⟩ (.slice (some ⟨g,0,none⟩) n n)) r s D (pos n)/\∃ v xs,Blk (w.setCell ⟨p,0,none⟩ (.slice (some ⟨g,0,none⟩) n n)) p t #[v]/\CSl (xaf w0) (w.setCell ⟨p,0,none⟩ (.slice (some ⟨g,0,none⟩) n n)) 1 v n xs/\w0.heap.size<=g/\∀ i,i < n->∃ x,xs[i]? = some x/\R (w.setCell ⟨p,0,none⟩ (.slice (some ⟨g,0,none⟩) n n)) i x:=by
 obtain ⟨cs,h1,h2,h3⟩:=h.row;have hks:Kept (Only p) w (w.setCell ⟨p,0,none⟩ (.slice (some ⟨g,0,none⟩) n n)):=(kR _ _).set1 0 _;have hbg:=h1.kept hks (fun e=>by have e':g=p:=e;have:=h.ne;omega);refine ⟨h.at_.setNew h0 h.bigp _,_,cs.toList,by simpa using h.cell.set_ 0 (.slice (some ⟨g,0,none⟩) n n),⟨by simpa using h2,some ⟨g,0,none⟩,n,rfl,Nat.le_refl _,hn,.inr ⟨g,0,rfl,h.big,fun i u hu => ?_⟩⟩,h.big,fun i hi => ?_⟩
 ·rw [Nat.zero_add,hbg.cell i];simpa using hu
 ·obtain ⟨x,hx,hRx⟩:=h3 i hi;exact ⟨x,by simpa using hx,hR _ _ _ _ _ hRx hks fun b hb e=>by have e':b=p:=e;have:=h.ne;omega⟩
end SInv
def xnO (D:List UInt8) (pos:Nat->Nat) (n:Nat) (bs:Nat->List UInt8):Prop :=
 ∀ k,k < n->∃ x0:UInt8,D[pos k]? = some x0/\pos (k+1)=pos k+1+x0.toNat/\pos (k+1)<=D.length/\(D.drop (pos k+1)).take x0.toNat=bs k/\0 < x0.toNat
def xnN (D:List UInt8) (pos:Nat->Nat) (n:Nat) (bs:Nat->List UInt8):Prop :=
 ∀ k,k < n->∃ (x0 x1 x2 x3:UInt8) (N:Nat),D[pos k]? = some x0/\D[pos k+1]? = some x1/\D[pos k+2]? = some x2/\D[pos k+3]? = some x3/\Lib.beNat [x0,x1,x2,x3]=N/\pos (k+1)=pos k+4+N/\pos (k+1)<=D.length/\(D.drop (pos k+4)).take N=bs k/\0 < N
def strR (bs:Nat->List UInt8):World->Nat->Value->Prop:=fun _ i x=>x = .string ⟨(bs i).toArray⟩
def binR (g:Nat) (bs:Nat->List UInt8):World->Nat->Value->Prop:=fun w i x=>BSl (fun b=>g < b) w x (bs i)
theorem xeV (g:Nat) (bs:Nat->List UInt8):Stays g (strR bs):=fun _ _ _ _ _ h _ _=>h
theorem xff (g:Nat) (bs:Nat->List UInt8):Stays g (binR g bs):=fun _ _ _ _ _ h hk hS=>BSl.keep h hk fun b _ hb=>hS b hb
theorem xhX:(prog.info? 9).map (fun i=>(i.zero,i.size,i.bytes))=some (some (.string ⟨#[]⟩),1,16):=by kernel_rfl
theorem xjg:(prog.info? 26).map (fun i=>(i.zero,i.size,i.bytes))=some (some (.slice none 0 0),1,24):=by kernel_rfl
def xgl (w0:World) (r:Nat) (s:Value) (D:List UInt8) (j p:Nat) (t:TypeId) (n:Nat) (R:World->Nat->Value->Prop) (w:World):Prop :=
 At_ w0 w r s D j/\∃ v xs,Blk w p t #[v]/\CSl (xaf w0) w 1 v n xs/\∀ i,i < n->∃ x,xs[i]? = some x/\R w i x
theorem xlV (w0 w:World) (r:Nat) (s:Value) (D:List UInt8) (i0 i j p:Nat) (t:TypeId) (n:Nat) (pos:Nat->Nat) (bs:Nat->List UInt8) (h0:Buf w0 r s D i0) (hA:At_ w0 w r s D i) (hp:w0.heap.size<=p) (hc:Blk w p t #[.slice none 0 0])
  (hz:0 < n) (hn:n<=65536) (hH:∀ W,Buf W r s D i->Calls prog 183 #[.pointer (some ⟨r,0,none⟩)] W fun e W'=>e = .returned (.tuple #[.int .i64 n,.nilIface])/\At_ W W' r s D j) (hcode:D[j]? = some 161) (h0p:pos 0=j+1) (hle:j+n*2<=D.length) (hP:xnO D pos n bs) :
  Calls prog 141 #[.pointer (some ⟨p,0,none⟩),.pointer (some ⟨r,0,none⟩)] w (Gives fun e w'=>e = .nilIface/\xgl w0 r s D (pos n) p t n (strR bs) w'):=by
 obtain ⟨i1,hi,hz0,hz1,hz2⟩:=info_parts xhX;have HB:=hid h0;have HA:=hid (aI hA (aI hc hp));have HH:=hid hH;have hpr:¬ Only r p:=fun e=>by have e':p=r:=e;have:=h0.lt;omega
 have HX:=hid (aI hpr (aI hcode hP));have hz':(0:Int) < (n:Int):=by omega
 have e1:IntKind.i64.wrap ((n:Int)*2)=(n:Int)*2:=IntWalk.i64_in _ (by omega);have hle':(n:Int)*2<=(D.length:Int) - (j:Int):=by omega
 have H0p:=hid h0p;clear h0 hA hp hc hH hpr hcode hle hP h0p;go_enter func141,ntmps141;go_wp2_with (first | (go_at_call 183;go_must (refine (HH.out _ HA.out.1.buf).mono ?_;rintro e w1 ⟨rfl,hA1⟩;have H1:=hid (aI (HA.out.1.trans hA1) (HA.out.2.1.kept hA1.kept HX.out.1));have c1:=H1.out.2.cell 0;clear hA1)) | (go_at_call 105;go_must (refine (xaY r s D j _ H1.out.1.buf).mono ?_;rintro e w2 ⟨rfl,k2,rfl⟩;have H2:=hid (aI (H1.out.1.drewN k2) (H1.out.2.drewN k2)))) | (at_make;go_must (refine wpList_make_row _ rfl (.tmp 40) (.tmp 40) 153 rfl 9 i1 (.string ⟨#[]⟩) underlying153 hi hz0 hz1 rfl .i64 .i64 n rfl rfl (by rw [hz2];omega) (by omega) ?_)) | (go_at_call 160;go_must (refine (xaa r s D j _ _ (H2.out.1.buf.nope ((kR Nope (w1.drewN k2)).alloc _)) HX.out.2.1).mono ?_;rintro e w3 ⟨rfl,hA2⟩;have hr2:¬ Only r w1.heap.size:=(fun e=>by have e':w1.heap.size=r:=e;have:=H1.out.1.buf.lt;omega);have H3:=hid (aI ((H2.out.1.nope ((kR Nope (w1.drewN k2)).alloc _)).trans hA2) (aI ((H2.out.2.alloc _).kept hA2.kept HX.out.1) ((Blk.new (w1.drewN k2) 9 (madeCells #[.string ⟨#[]⟩] n)).kept hA2.kept hr2)));clear hA2)));have hI:SInv w0 r s D p t w1.heap.size 9 n pos (strR bs) 0 w3:=⟨by rw [H0p.out];exact H3.out.1,H3.out.2.1,H1.out.1.kept.size,HA.out.2.2,H1.out.2.lt,_,H3.out.2.2,by simp [madeCells],fun i hi=>by omega⟩;have HI:=hid hI;clear hI e1;obtain ⟨G,hG⟩:∃ G,w1.heap.size=G:=⟨_,rfl⟩
 rw [hG] at HI ⊢;clear hG H1 H2 H3 c1
 go_loopw [59] (fun c w'=>∃ k:Nat,k<=n/\c = .int .i64 k/\Hid (SInv w0 r s D p t G 9 n pos (strR bs) k w')) (fun c _=>n - (RowKit.intOf c).toNat)
 case atStart=>exact ⟨0,by omega,rfl,HI⟩
 case round =>
  obtain ⟨k,hk,rfl,HI⟩:=hrel
  by_cases hkn:k < n
  ·have hkn':(k:Int) < (n:Int):=by omega
   have hk0:(0:Int)<=(k:Int):=by omega
   have e3:IntKind.i64.wrap ((k:Int)+1)=(k:Int)+1:=IntWalk.i64_in _ (by omega);obtain ⟨x0,hx0,hps,hpl,hbs,hxp⟩:=HX.out.2.2 k hkn;have hx8:=x0.toNat_lt;have hx2:(0:Int)<=x0.toNat:=by omega
   have HG:=hid (aI hx0 (aI hps (aI hpl hbs)));clear hx0 hps hpl hbs;go_wp2_with (first | (go_at_call 54;go_must (refine (xax r s D (pos k) _ x0 HI.out.at_.buf (by exact HG.out.1)).mono ?_;rintro e w4 ⟨rfl,hA4⟩;have H4:=hid hA4;clear hA4)) | (go_at_call 161;go_must (refine (xcP r s D (pos k+1) _ x0.toNat H4.out.buf (by have h1:=HG.out.2.1;have h2:=HG.out.2.2.1;omega)).mono ?_;rintro e w5 ⟨v,b,rfl,rfl,hB,hA5⟩;have hcv:=xbe 26 9 5 underlying26 underlying5 underlying9 hB;have H5:=hid (H4.out.trans hA5);rw [HG.out.2.2.2] at hcv;have hst:=SInv.step (x:=.string ⟨(bs k).toArray⟩) HI.out HB.out (xeV G bs) hkn (HG.out.2.1 ▸ H5.out) rfl;obtain ⟨⟨u,c6⟩,f6,hI6⟩:=hst;have HI6:=hid hI6;clear hA5 hB hI6)));go_roundw
   case rel=>exact ⟨k+1,by omega,by go_num,HI6⟩
   case measure=>simp [RowKit.intOf];omega
  ·obtain rfl:k=n:=by omega
   have c4':=HI.out.cell.cell 0;have f4':=HI.out.cell.frozen 0;have hlt:¬ (k:Int) < (k:Int):=by omega
   have HD:=hid (HI.out.done HB.out (xeV G bs) (by unfold maxLen;omega));go_wp2_with (fail);go_ret;obtain ⟨h1,v,xs,h2,h3,h4,h5⟩:=HD.out;exact ⟨_,rfl,rfl,h1,v,xs,h2,h3,h5⟩
theorem xlU (w0 w:World) (r:Nat) (s:Value) (D:List UInt8) (i0 i j p:Nat) (t:TypeId) (n:Nat) (pos:Nat->Nat) (bs:Nat->List UInt8) (h0:Buf w0 r s D i0) (hA:At_ w0 w r s D i) (hp:w0.heap.size<=p) (hc:Blk w p t #[.slice none 0 0])
  (hz:0 < n) (hn:n<=65536) (hH:∀ W,Buf W r s D i->Calls prog 183 #[.pointer (some ⟨r,0,none⟩)] W fun e W'=>e = .returned (.tuple #[.int .i64 n,.nilIface])/\At_ W W' r s D j) (hcode:D[j]? = some 177) (h0p:pos 0=j+1) (hle:j+n*2<=D.length) (hP:xnN D pos n bs) :
  Calls prog 141 #[.pointer (some ⟨p,0,none⟩),.pointer (some ⟨r,0,none⟩)] w (Gives fun e w'=>e = .nilIface/\xgl w0 r s D (pos n) p t n (strR bs) w'):=by
 obtain ⟨i1,hi,hz0,hz1,hz2⟩:=info_parts xhX;have HB:=hid h0;have HA:=hid (aI hA (aI hc hp));have HH:=hid hH;have hpr:¬ Only r p:=fun e=>by have e':p=r:=e;have:=h0.lt;omega
 have HX:=hid (aI hpr (aI hcode hP));have hz':(0:Int) < (n:Int):=by omega
 have e1:IntKind.i64.wrap ((n:Int)*2)=(n:Int)*2:=IntWalk.i64_in _ (by omega);have hle':(n:Int)*2<=(D.length:Int) - (j:Int):=by omega
 have H0p:=hid h0p;clear h0 hA hp hc hH hpr hcode hle hP h0p;go_enter func141,ntmps141;go_wp2_with (first | (go_at_call 183;go_must (refine (HH.out _ HA.out.1.buf).mono ?_;rintro e w1 ⟨rfl,hA1⟩;have H1:=hid (aI (HA.out.1.trans hA1) (HA.out.2.1.kept hA1.kept HX.out.1));have c1:=H1.out.2.cell 0;clear hA1)) | (go_at_call 105;go_must (refine (xaY r s D j _ H1.out.1.buf).mono ?_;rintro e w2 ⟨rfl,k2,rfl⟩;have H2:=hid (aI (H1.out.1.drewN k2) (H1.out.2.drewN k2)))) | (at_make;go_must (refine wpList_make_row _ rfl (.tmp 40) (.tmp 40) 153 rfl 9 i1 (.string ⟨#[]⟩) underlying153 hi hz0 hz1 rfl .i64 .i64 n rfl rfl (by rw [hz2];omega) (by omega) ?_)) | (go_at_call 160;go_must (refine (xaa r s D j _ _ (H2.out.1.buf.nope ((kR Nope (w1.drewN k2)).alloc _)) HX.out.2.1).mono ?_;rintro e w3 ⟨rfl,hA2⟩;have hr2:¬ Only r w1.heap.size:=(fun e=>by have e':w1.heap.size=r:=e;have:=H1.out.1.buf.lt;omega);have H3:=hid (aI ((H2.out.1.nope ((kR Nope (w1.drewN k2)).alloc _)).trans hA2) (aI ((H2.out.2.alloc _).kept hA2.kept HX.out.1) ((Blk.new (w1.drewN k2) 9 (madeCells #[.string ⟨#[]⟩] n)).kept hA2.kept hr2)));clear hA2)));have hI:SInv w0 r s D p t w1.heap.size 9 n pos (strR bs) 0 w3:=⟨by rw [H0p.out];exact H3.out.1,H3.out.2.1,H1.out.1.kept.size,HA.out.2.2,H1.out.2.lt,_,H3.out.2.2,by simp [madeCells],fun i hi=>by omega⟩;have HI:=hid hI;clear hI e1;obtain ⟨G,hG⟩:∃ G,w1.heap.size=G:=⟨_,rfl⟩
 rw [hG] at HI ⊢;clear hG H1 H2 H3 c1
 go_loopw [90] (fun c w'=>∃ k:Nat,k<=n/\c = .int .i64 k/\Hid (SInv w0 r s D p t G 9 n pos (strR bs) k w')) (fun c _=>n - (RowKit.intOf c).toNat)
 case atStart=>exact ⟨0,by omega,rfl,HI⟩
 case round =>
  obtain ⟨k,hk,rfl,HI⟩:=hrel
  by_cases hkn:k < n
  ·have hkn':(k:Int) < (n:Int):=by omega
   have hk0:(0:Int)<=(k:Int):=by omega
   have e3:IntKind.i64.wrap ((k:Int)+1)=(k:Int)+1:=IntWalk.i64_in _ (by omega);obtain ⟨x0,x1,x2,x3,N,hx0,hx1,hx2,hx3,hN,hps,hpl,hbs,hxp⟩:=HX.out.2.2 k hkn;have hb4:=xba x0 x1 x2 x3;rw [hN] at hb4;have hb5:(N:Int)<=4294967295:=by omega
   have hb6:(0:Int)<=N:=by omega
   have HG:=hid (aI hx0 (aI hps (aI hpl hbs)));have HF:=hid (aI hx0 (aI hx1 (aI hx2 (aI hx3 hN))));clear hx0 hx1 hx2 hx3 hN hps hpl hbs;go_wp2_with (first | (go_at_call 162;go_must (refine (xfl _ g off 4 c4 x0 x1 x2 x3 (by omega) (by exact four (n:=0) HF.out.1 HF.out.2.1 HF.out.2.2.1 HF.out.2.2.2.1 HC4.out)).mono ?_;rw [HF.out.2.2.2.2];rintro e w8 ⟨rfl,hK8⟩;have H4:=hid (H7.out.nope hK8);clear hK8)) | (go_at_call 161;refine (xcP r s D (pos k+4) _ N H4.out.buf (by have h1:=HG.out.2.1;have h2:=HG.out.2.2.1;omega)).mono ?_;rintro e w5 ⟨v,b,rfl,rfl,hB,hA5⟩;have hcv:=xbe 26 9 5 underlying26 underlying5 underlying9 hB;have H5:=hid (H4.out.trans hA5);rw [HG.out.2.2.2] at hcv;have hst:=SInv.step (x:=.string ⟨(bs k).toArray⟩) HI.out HB.out (xeV G bs) hkn (HG.out.2.1 ▸ H5.out) rfl;obtain ⟨⟨u,c6⟩,f6,hI6⟩:=hst;have HI6:=hid hI6;clear hA5 hB hI6) | (go_at_call 161;refine (xbd r s D (pos k) _ 4 HI.out.at_.buf (by have h1:=HG.out.2.1;have h2:=HG.out.2.2.1;omega) (by omega)).mono ?_;rintro e w7 ⟨v,b,rfl,rfl,⟨g,off,c4,rfl,hg,hgc,hcm,hcell⟩,hA7⟩;have HC4:=hid hcell;have H7:=hid hA7;clear hA7 hcell));go_roundw
   case rel=>exact ⟨k+1,by omega,by go_num,HI6⟩
   case measure=>simp [RowKit.intOf];omega
  ·obtain rfl:k=n:=by omega
   have c4':=HI.out.cell.cell 0;have f4':=HI.out.cell.frozen 0;have hlt:¬ (k:Int) < (k:Int):=by omega
   have HD:=hid (HI.out.done HB.out (xeV G bs) (by unfold maxLen;omega));go_wp2_with (fail);go_ret;obtain ⟨h1,v,xs,h2,h3,h4,h5⟩:=HD.out;exact ⟨_,rfl,rfl,h1,v,xs,h2,h3,h5⟩
end
end Go.Proofs.YtmdpodeegdjkeaaGreatDoor
