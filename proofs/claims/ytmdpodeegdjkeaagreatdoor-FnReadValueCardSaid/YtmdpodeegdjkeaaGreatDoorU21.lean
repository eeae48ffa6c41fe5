/- Part 21 of the proof of the readers and the guards. No conditions. -/
import Derived.Test.YtmdpodeegdjkeaaGreatDoorU0
import Derived.Test.YtmdpodeegdjkeaaGreatDoorU20
set_option maxRecDepth 100000
set_option maxHeartbeats 3200000
namespace Go.Proofs.YtmdpodeegdjkeaaGreatDoor
open Go Go.RowKit Go.Lib Tryz
theorem xma (w0 w:World) (r:Nat) (s:Value) (D:List UInt8) (i0 i j p:Nat) (t:TypeId) (n:Nat) (pos:Nat->Nat) (bs:Nat->List UInt8) (h0:Buf w0 r s D i0) (hA:At_ w0 w r s D i) (hp:w0.heap.size<=p) (hc:Blk w p t #[.slice none 0 0])
  (hz:0 < n) (hn:n<=65536) (hH:∀ W,Buf W r s D i->Calls prog 183 #[.pointer (some ⟨r,0,none⟩)] W fun e W'=>e = .returned (.tuple #[.int .i64 n,.nilIface])/\At_ W W' r s D j) (hcode:D[j]? = some 160) (h0p:pos 0=j+1) (hle:j+n*2<=D.length) (hP:xnO D pos n bs) :
  Calls prog 143 #[.pointer (some ⟨p,0,none⟩),.pointer (some ⟨r,0,none⟩)] w (Gives fun e w'=>e = .nilIface/\xgl w0 r s D (pos n) p t n (fun w i x=>BSl (xaf w0) w x (bs i)) w'):=by
 obtain ⟨i1,hi,hz0,hz1,hz2⟩:=info_parts xjg;have HB:=hid h0;have HA:=hid (aI hA (aI hc hp));have HH:=hid hH;have hpr:¬ Only r p:=fun e=>by have e':p=r:=e;have:=h0.lt;omega
 have HX:=hid (aI hpr (aI hcode hP));have hz':(0:Int) < (n:Int):=by omega
 have e1:IntKind.i64.wrap ((n:Int)*2)=(n:Int)*2:=IntWalk.i64_in _ (by omega);have hle':(n:Int)*2<=(D.length:Int) - (j:Int):=by omega
 have H0p:=hid h0p;clear h0 hA hp hc hH hpr hcode hle hP h0p;go_enter func143,ntmps143;go_wp2_with (first | (go_at_call 183;go_must (refine (HH.out _ HA.out.1.buf).mono ?_;rintro e w1 ⟨rfl,hA1⟩;have H1:=hid (aI (HA.out.1.trans hA1) (HA.out.2.1.kept hA1.kept HX.out.1));have c1:=H1.out.2.cell 0;clear hA1)) | (go_at_call 105;go_must (refine (xaY r s D j _ H1.out.1.buf).mono ?_;rintro e w2 ⟨rfl,k2,rfl⟩;have H2:=hid (aI (H1.out.1.drewN k2) (H1.out.2.drewN k2)))) | (at_make;go_must (refine wpList_make_row _ rfl (.tmp 40) (.tmp 40) 150 rfl 26 i1 (.slice none 0 0) underlying150 hi hz0 hz1 rfl .i64 .i64 n rfl rfl (by rw [hz2];omega) (by omega) ?_)) | (go_at_call 160;go_must (refine (xaa r s D j _ _ (H2.out.1.buf.nope ((kR Nope (w1.drewN k2)).alloc _)) HX.out.2.1).mono ?_;rintro e w3 ⟨rfl,hA2⟩;have hr2:¬ Only r w1.heap.size:=(fun e=>by have e':w1.heap.size=r:=e;have:=H1.out.1.buf.lt;omega);have H3:=hid (aI ((H2.out.1.nope ((kR Nope (w1.drewN k2)).alloc _)).trans hA2) (aI ((H2.out.2.alloc _).kept hA2.kept HX.out.1) ((Blk.new (w1.drewN k2) 26 (madeCells #[.slice none 0 0] n)).kept hA2.kept hr2)));clear hA2)));have hI:SInv w0 r s D p t w1.heap.size 26 n pos (binR w1.heap.size bs) 0 w3:=⟨by rw [H0p.out];exact H3.out.1,H3.out.2.1,H1.out.1.kept.size,HA.out.2.2,H1.out.2.lt,_,H3.out.2.2,by simp [madeCells],fun i hi=>by omega⟩;have HI:=hid hI;clear hI e1;obtain ⟨G,hG⟩:∃ G,w1.heap.size=G:=⟨_,rfl⟩
 rw [hG] at HI ⊢;clear hG H1 H2 H3 c1
 go_loopw [59] (fun c w'=>∃ k:Nat,k<=n/\c = .int .i64 k/\Hid (SInv w0 r s D p t G 26 n pos (binR G bs) k w')) (fun c _=>n - (RowKit.intOf c).toNat)
 case atStart=>exact ⟨0,by omega,rfl,HI⟩
 case round =>
  obtain ⟨k,hk,rfl,HI⟩:=hrel
  by_cases hkn:k < n
  ·have hkn':(k:Int) < (n:Int):=by omega
   have hk0:(0:Int)<=(k:Int):=by omega
   have e3:IntKind.i64.wrap ((k:Int)+1)=(k:Int)+1:=IntWalk.i64_in _ (by omega);obtain ⟨i8,hi8,hy0,hy1,hy2⟩:=info_parts xdQ;obtain ⟨x0,hx0,hps,hpl,hbs,hxp⟩:=HX.out.2.2 k hkn;have hx8:=x0.toNat_lt;have hx2:(0:Int)<=x0.toNat:=by omega
   have HG:=hid (aI hx0 (aI hps (aI hpl hbs)));clear hx0 hps hpl hbs;go_wp2_with (first | (go_at_call 54;go_must (refine (xax r s D (pos k) _ x0 HI.out.at_.buf (by exact HG.out.1)).mono ?_;rintro e w4 ⟨rfl,hA4⟩;have H4:=hid hA4;clear hA4)) | (go_at_call 161;go_must (refine (xcP r s D (pos k+1) _ x0.toNat H4.out.buf (by have h1:=HG.out.2.1;have h2:=HG.out.2.2.1;omega)).mono ?_;rintro e w5 ⟨v,b,rfl,rfl,hB,hA5⟩;have HB3:=hid hB;have hL:=hB.len';have HL:=hid hL;have H5:=hid (H4.out.trans hA5);clear hA5 hB hL)) | (at_builtin;go_must (refine xae _ rfl (.const (.slice none 0 0)) (.tmp 82) _ rfl wr.heap.size 5 i8 _ 1 1 underlying26 hi8 hy0 hy1 hy2 rfl (by omega) (.slice none 0 0) 0 [] rfl ⟨by simp,.inl ⟨rfl,rfl⟩⟩ _ v _ _ rfl HB3.out.toC (by intro u hu;obtain ⟨x,_,rfl⟩:=List.mem_map.1 hu;rfl) (by have hl3:=H5.out.buf.small;have hl4:=HL.out;simp only [maxLen];omega) (by have hl3:=H5.out.buf.small;have hl4:=HL.out;omega) H5.out.kept.size ?_;intro v6 w6 hown hg6 hl6;have h6:=xcS H5.out hown (by simpa [Value.ownBlock] using hg6);rw [HG.out.2.2.2] at h6;have hst:=SInv.step (x:=v6) HI.out HB.out (xff G bs) hkn (HG.out.2.1 ▸ h6.2) (h6.1.mono fun b _ hb=>by have hb':wr.heap.size<=b:=hb;have:=HI.out.lt_;show G < b;omega);obtain ⟨⟨u,c6⟩,f6,hI6⟩:=hst;have HI6:=hid hI6;have hf6:∃ a n c,v6 = .slice a n c:=(by obtain ⟨a,c,e,_⟩:=h6.1;exact ⟨_,_,_,e⟩);obtain ⟨a6,n6,d6,rfl⟩:=hf6;clear hown hg6 hl6 h6 hI6)));go_roundw
   case rel=>exact ⟨k+1,by omega,by go_num,HI6⟩
   case measure=>simp [RowKit.intOf];omega
  ·obtain rfl:k=n:=by omega
   have c4':=HI.out.cell.cell 0;have f4':=HI.out.cell.frozen 0;have hlt:¬ (k:Int) < (k:Int):=by omega
   have HD:=hid (HI.out.done HB.out (xff G bs) (by unfold maxLen;omega));go_wp2_with (fail);go_ret;obtain ⟨h1,v,xs,h2,h3,h4,h5⟩:=HD.out;exact ⟨_,rfl,rfl,h1,v,xs,h2,h3,fun i hi=>by obtain ⟨x,hx,hR⟩:=h5 i hi;exact ⟨x,hx,BSl.mono hR fun b _ hb=>by have hb':G < b:=hb;show w0.heap.size<=b;omega⟩⟩
theorem xlZ (w0 w:World) (r:Nat) (s:Value) (D:List UInt8) (i0 i j p:Nat) (t:TypeId) (n:Nat) (pos:Nat->Nat) (bs:Nat->List UInt8) (h0:Buf w0 r s D i0) (hA:At_ w0 w r s D i) (hp:w0.heap.size<=p) (hc:Blk w p t #[.slice none 0 0])
  (hz:0 < n) (hn:n<=65536) (hH:∀ W,Buf W r s D i->Calls prog 183 #[.pointer (some ⟨r,0,none⟩)] W fun e W'=>e = .returned (.tuple #[.int .i64 n,.nilIface])/\At_ W W' r s D j) (hcode:D[j]? = some 176) (h0p:pos 0=j+1) (hle:j+n*2<=D.length) (hP:xnN D pos n bs) :
  Calls prog 143 #[.pointer (some ⟨p,0,none⟩),.pointer (some ⟨r,0,none⟩)] w (Gives fun e w'=>e = .nilIface/\xgl w0 r s D (pos n) p t n (fun w i x=>BSl (xaf w0) w x (bs i)) w'):=by
 obtain ⟨i1,hi,hz0,hz1,hz2⟩:=info_parts xjg;have HB:=hid h0;have HA:=hid (aI hA (aI hc hp));have HH:=hid hH;have hpr:¬ Only r p:=fun e=>by have e':p=r:=e;have:=h0.lt;omega
 have HX:=hid (aI hpr (aI hcode hP));have hz':(0:Int) < (n:Int):=by omega
 have e1:IntKind.i64.wrap ((n:Int)*2)=(n:Int)*2:=IntWalk.i64_in _ (by omega);have hle':(n:Int)*2<=(D.length:Int) - (j:Int):=by omega
 have H0p:=hid h0p;clear h0 hA hp hc hH hpr hcode hle hP h0p;go_enter func143,ntmps143;go_wp2_with (first | (go_at_call 183;go_must (refine (HH.out _ HA.out.1.buf).mono ?_;rintro e w1 ⟨rfl,hA1⟩;have H1:=hid (aI (HA.out.1.trans hA1) (HA.out.2.1.kept hA1.kept HX.out.1));have c1:=H1.out.2.cell 0;clear hA1)) | (go_at_call 105;go_must (refine (xaY r s D j _ H1.out.1.buf).mono ?_;rintro e w2 ⟨rfl,k2,rfl⟩;have H2:=hid (aI (H1.out.1.drewN k2) (H1.out.2.drewN k2)))) | (at_make;go_must (refine wpList_make_row _ rfl (.tmp 40) (.tmp 40) 150 rfl 26 i1 (.slice none 0 0) underlying150 hi hz0 hz1 rfl .i64 .i64 n rfl rfl (by rw [hz2];omega) (by omega) ?_)) | (go_at_call 160;go_must (refine (xaa r s D j _ _ (H2.out.1.buf.nope ((kR Nope (w1.drewN k2)).alloc _)) HX.out.2.1).mono ?_;rintro e w3 ⟨rfl,hA2⟩;have hr2:¬ Only r w1.heap.size:=(fun e=>by have e':w1.heap.size=r:=e;have:=H1.out.1.buf.lt;omega);have H3:=hid (aI ((H2.out.1.nope ((kR Nope (w1.drewN k2)).alloc _)).trans hA2) (aI ((H2.out.2.alloc _).kept hA2.kept HX.out.1) ((Blk.new (w1.drewN k2) 26 (madeCells #[.slice none 0 0] n)).kept hA2.kept hr2)));clear hA2)));have hI:SInv w0 r s D p t w1.heap.size 26 n pos (binR w1.heap.size bs) 0 w3:=⟨by rw [H0p.out];exact H3.out.1,H3.out.2.1,H1.out.1.kept.size,HA.out.2.2,H1.out.2.lt,_,H3.out.2.2,by simp [madeCells],fun i hi=>by omega⟩;have HI:=hid hI;clear hI e1;obtain ⟨G,hG⟩:∃ G,w1.heap.size=G:=⟨_,rfl⟩
 rw [hG] at HI ⊢;clear hG H1 H2 H3 c1
 go_loopw [90] (fun c w'=>∃ k:Nat,k<=n/\c = .int .i64 k/\Hid (SInv w0 r s D p t G 26 n pos (binR G bs) k w')) (fun c _=>n - (RowKit.intOf c).toNat)
 case atStart=>exact ⟨0,by omega,rfl,HI⟩
 case round =>
  obtain ⟨k,hk,rfl,HI⟩:=hrel
  by_cases hkn:k < n
  ·have hkn':(k:Int) < (n:Int):=by omega
   have hk0:(0:Int)<=(k:Int):=by omega
   have e3:IntKind.i64.wrap ((k:Int)+1)=(k:Int)+1:=IntWalk.i64_in _ (by omega);obtain ⟨i8,hi8,hy0,hy1,hy2⟩:=info_parts xdQ;obtain ⟨x0,x1,x2,x3,N,hx0,hx1,hx2,hx3,hN,hps,hpl,hbs,hxp⟩:=HX.out.2.2 k hkn;have hb4:=xba x0 x1 x2 x3;rw [hN] at hb4;have hb5:(N:Int)<=4294967295:=by omega
   have hb6:(0:Int)<=N:=by omega
   have HG:=hid (aI hx0 (aI hps (aI hpl hbs)));have HF:=hid (aI hx0 (aI hx1 (aI hx2 (aI hx3 hN))));clear hx0 hx1 hx2 hx3 hN hps hpl hbs;go_wp2_with (first | (go_at_call 162;go_must (refine (xfl _ g off 4 c4 x0 x1 x2 x3 (by omega) (by exact four (n:=0) HF.out.1 HF.out.2.1 HF.out.2.2.1 HF.out.2.2.2.1 HC4.out)).mono ?_;rw [HF.out.2.2.2.2];rintro e w8 ⟨rfl,hK8⟩;have H4:=hid (H7.out.nope hK8);clear hK8)) | (go_at_call 161;refine (xcP r s D (pos k+4) _ N H4.out.buf (by have h1:=HG.out.2.1;have h2:=HG.out.2.2.1;omega)).mono ?_;rintro e w5 ⟨v,b,rfl,rfl,hB,hA5⟩;have HB3:=hid hB;have hL:=hB.len';have HL:=hid hL;have H5:=hid (H4.out.trans hA5);clear hA5 hB hL) | (go_at_call 161;refine (xbd r s D (pos k) _ 4 HI.out.at_.buf (by have h1:=HG.out.2.1;have h2:=HG.out.2.2.1;omega) (by omega)).mono ?_;rintro e w7 ⟨v,b,rfl,rfl,⟨g,off,c4,rfl,hg,hgc,hcm,hcell⟩,hA7⟩;have HC4:=hid hcell;have H7:=hid hA7;clear hA7 hcell) | (at_builtin;go_must (refine xae _ rfl (.const (.slice none 0 0)) (.tmp 116) _ rfl wr.heap.size 5 i8 _ 1 1 underlying26 hi8 hy0 hy1 hy2 rfl (by omega) (.slice none 0 0) 0 [] rfl ⟨by simp,.inl ⟨rfl,rfl⟩⟩ _ v _ _ rfl HB3.out.toC (by intro u hu;obtain ⟨x,_,rfl⟩:=List.mem_map.1 hu;rfl) (by have hl3:=H5.out.buf.small;have hl4:=HL.out;simp only [maxLen];omega) (by have hl3:=H5.out.buf.small;have hl4:=HL.out;omega) H5.out.kept.size ?_;intro v6 w6 hown hg6 hl6;have h6:=xcS H5.out hown (by simpa [Value.ownBlock] using hg6);rw [HG.out.2.2.2] at h6;have hst:=SInv.step (x:=v6) HI.out HB.out (xff G bs) hkn (HG.out.2.1 ▸ h6.2) (h6.1.mono fun b _ hb=>by have hb':wr.heap.size<=b:=hb;have:=HI.out.lt_;show G < b;omega);obtain ⟨⟨u,c6⟩,f6,hI6⟩:=hst;have HI6:=hid hI6;have hf6:∃ a n c,v6 = .slice a n c:=(by obtain ⟨a,c,e,_⟩:=h6.1;exact ⟨_,_,_,e⟩);obtain ⟨a6,n6,d6,rfl⟩:=hf6;clear hown hg6 hl6 h6 hI6)));go_roundw
   case rel=>exact ⟨k+1,by omega,by go_num,HI6⟩
   case measure=>simp [RowKit.intOf];omega
  ·obtain rfl:k=n:=by omega
   have c4':=HI.out.cell.cell 0;have f4':=HI.out.cell.frozen 0;have hlt:¬ (k:Int) < (k:Int):=by omega
   have HD:=hid (HI.out.done HB.out (xff G bs) (by unfold maxLen;omega));go_wp2_with (fail);go_ret;obtain ⟨h1,v,xs,h2,h3,h4,h5⟩:=HD.out;exact ⟨_,rfl,rfl,h1,v,xs,h2,h3,fun i hi=>by obtain ⟨x,hx,hR⟩:=h5 i hi;exact ⟨x,hx,BSl.mono hR fun b _ hb=>by have hb':G < b:=hb;show w0.heap.size<=b;omega⟩⟩
theorem xnx (w0 w:World) (r:Nat) (s:Value) (D:List UInt8) (i0 i j p:Nat) (t:TypeId) (n:Nat) (h0:Buf w0 r s D i0) (hA:At_ w0 w r s D i) (hp:w0.heap.size<=p) (hc:Blk w p t #[.slice none 0 0])
  (hn:n<=65536) (hH:∀ W,Buf W r s D i->Calls prog 183 #[.pointer (some ⟨r,0,none⟩)] W fun e W'=>e = .returned (.tuple #[.int .i64 n,.nilIface])/\At_ W W' r s D j) (hcode:D[j]? = some 80) (hle:j+1+n<=D.length) :
  Calls prog 181 #[.pointer (some ⟨p,0,none⟩),.pointer (some ⟨r,0,none⟩)] w (Gives fun e w'=>e = .nilIface/\xbZ w0 r s D (j+1+n) p t 1 n ((sub D (j+1) n).map u8) w'):=by
 obtain ⟨i8,hi8,hy0,hy1,hy2⟩:=info_parts xdQ;have HB:=hid h0;have HA:=hid (aI hA (aI hc hp));have HH:=hid hH;have hpr:¬ Only r p:=fun e=>by have e':p=r:=e;have:=h0.lt;omega
 have HX:=hid (aI hpr (aI hcode hle));have hL:(sub D (j+1) n).length=n:=xgx D (j+1) n hle;have HL:=hid hL;clear h0 hA hp hc hH hpr hcode hle hL;go_enter func181,ntmps181;go_wp2_with (first | (go_at_call 183;go_must (refine (HH.out _ HA.out.1.buf).mono ?_;rintro e w1 ⟨rfl,hA1⟩;have H1:=hid (aI (HA.out.1.trans hA1) (HA.out.2.1.kept hA1.kept HX.out.1));clear hA1)) | (go_at_call 160;go_must (refine (xaa r s D j _ _ H1.out.1.buf HX.out.2.1).mono ?_;rintro e w2 ⟨rfl,hA2⟩;have H2:=hid (aI (H1.out.1.trans hA2) (H1.out.2.kept hA2.kept HX.out.1));clear hA2)) | (go_at_call 161;go_must (refine (xcP r s D (j+1) _ n H2.out.1.buf (by have:=HX.out.2.2;omega)).mono ?_;rintro e w3 ⟨v,b,rfl,rfl,hB,hA3⟩;have HB3:=hid hB;have H3:=hid (aI hA3 (aI (H2.out.2.kept hA3.kept HX.out.1) (H2.out.1.trans hA3)));clear hA3 hB)) | (at_builtin;go_must (refine xae _ rfl (.const (.slice none 0 0)) (.tmp 39) _ rfl w2.heap.size 5 i8 _ 1 1 underlying26 hi8 hy0 hy1 hy2 rfl (by omega) (.slice none 0 0) 0 [] rfl ⟨by simp,.inl ⟨rfl,rfl⟩⟩ _ v _ _ rfl HB3.out.toC (by intro u hu;obtain ⟨x,_,rfl⟩:=List.mem_map.1 hu;rfl) (by have h1:=HL.out;unfold sub at h1;rw [h1];simp only [maxLen];omega) (by have h1:=HL.out;unfold sub at h1;rw [h1];omega) H3.out.1.kept.size ?_;intro v4 w4 hown hg4 hl4;have hg4':w3.grownBy w4 none:=(by simpa [Value.ownBlock] using hg4);have h6:=xcS H3.out.1 hown hg4';have hk4:Kept Nope w3 w4:=(kR Nope w3).grown hg4' (fun k e=>by cases e);have H4:=hid (aI h6.1 (aI (H3.out.2.2.nope hk4) (H3.out.2.1.kept hk4 (fun h=>h))));have c4:=H4.out.2.2.cell 0;have f4:=H4.out.2.2.frozen 0;have hf6:∃ a n c,v4 = .slice a n c:=(by obtain ⟨a,c,e,_⟩:=h6.1;exact ⟨_,_,_,e⟩);obtain ⟨a6,n6,d6,rfl⟩:=hf6;clear hown hg4 hl4 h6 hk4 hg4')));go_ret;have hks:Kept (Only p) w4 (w4.setCell ⟨p,0,none⟩ (.slice a6 n6 d6)):=(kR _ _).set1 0 _;refine ⟨_,rfl,rfl,H4.out.2.1.setNew HB.out HA.out.2.2 _,_,by simpa using H4.out.2.2.set_ 0 (.slice a6 n6 d6),?_⟩;have h1:=H4.out.1.toC.keep hks fun b _ hb e=>by have hb':w2.heap.size<=b:=hb;have e':b=p:=e;have:=H2.out.2.lt;omega
 have h2:=h1.mono (S':=xaf w0) fun b hb=>by have hb':w2.heap.size<=b:=hb;have:=H2.out.1.kept.size;show w0.heap.size<=b;omega
 have h3:=HL.out;unfold sub at h3 ⊢;rwa [h3] at h2
theorem AInv.startN {w0 w:World} {r:Nat} {s:Value} {D:List UInt8} {j p:Nat} {t:TypeId} {e:TypeId} {gb off N b:Nat} {cv:Nat->Value} {total:Nat} {zs:Array Value} (hA:At_ w0 w r s D j) (hc:Blk w p t #[.slice none 0 0]) (hp:w0.heap.size<=p) (hN:0 < N) (hb:b+N<=D.length)
  (hs:∀ m x,m < N->D[b+m]? = some x->w.cell? ⟨gb,off+m,none⟩=some (.int .u8 x.toNat)):AInv w0 r s D j p t w.heap.size e gb off N b cv total 0 (w.alloc (.cells (madeCells zs total) e)):=by
 have hlt:gb < w.heap.size:=by
  have hx:D[b+0]? = some (D[b]'(by omega)):=ge (by omega);exact World.block_lt_of_cell? w _ (hs 0 _ hN hx)
 have hk:Kept Nope w (w.alloc (.cells (madeCells zs total) e)):=(kR _ _).alloc _;exact ⟨hA.nope hk,hc.alloc _,hA.kept.size,hp,hc.lt,hlt,fun m x hm hx=>hk.cell (hs m x hm hx) (fun h=>h),_,Blk.new _ _ _,size_madeCells _ _,fun i hi=>by omega⟩
theorem xfJ {P:Program} (w:World) {ops:Array Oper} {rest:List Oper} {o:Oper} {a:Act} {Q:Exit->Act->World->Prop}
  (hg:o.guard=none) (l c:Operand) (t:TypeId) (hop:o.op=Op.makeSlice t l c)
  (e:TypeId) (i:TypeInfo) (z:Value) (size bytes:Nat) (ht:P.underlying t=some (.slice e)) (hi:P.info? e=some i) (hz:i.zero=some z) (hsize:i.size=size) (hby:i.bytes=bytes)
  (kl kc:IntKind) (n:Nat) (hl:a.eval l = .int kl (n:Int)) (hc:a.eval c = .int kc (n:Int)) (hbytes:bytes*n<=281474976710656) (h63:n<=9223372036854775807)
  (hK:wpList P ops Q rest (a.put o.dst (.slice (some ⟨w.heap.size,0,none⟩) n n)) (w.alloc (.cells (madeCells z.cells (n*size)) e))) :
  wpList P ops Q (o :: rest) a w:=by
 refine wpList_plain hg fun K hK' => ?_
 subst hsize hby;have hrun:=run_make (P:=P) w t e i z ht hi hz kl kc (n:Int) (n:Int) (by omega) (Int.le_refl _) (by rw [<- Int.natCast_mul];omega) (by omega);simp only [Int.toNat_natCast] at hrun;unfold Oper.wp;simp [execOp,hop,hl,hc,hrun,Result.andThen];exact hK' _ _ hK
theorem At_tm (ms:Int) (W:World) (h0:-9223372036854775808<=ms) (h1:ms<=9223372036854775807) :
  Calls prog 185 #[.int .i64 (ms.tdiv 1000),.int .i64 (ms.tmod 1000*1000000)] W fun e w'=>e = .returned (tm ms)/\Kept Nope W w':=by
 have hr:-1000 < ms.tmod 1000/\ms.tmod 1000 < 1000:=by
  rcases Int.lt_or_le ms 0 with h | h
  ·rw [<- Int.neg_neg ms,Int.neg_tmod,Int.tmod_eq_emod_of_nonneg (by omega)];omega
  ·rw [Int.tmod_eq_emod_of_nonneg h];omega
 have hm:ms=1000*ms.tdiv 1000+ms.tmod 1000:=by rw [Int.mul_tdiv_add_tmod]
 generalize ms.tdiv 1000=q at *;generalize ms.tmod 1000=m at *
 by_cases hn:0<=m
 ·have ht:tm ms = .agg #[.int .i64 q,.int .i64 (m*1000000)]:=by
   unfold tm;rw [show ms / 1000=q by omega,show ms % 1000=m by omega]
  rw [ht];exact At_pos q (m*1000000) W (by omega) (by omega)
 ·have ht:tm ms = .agg #[.int .i64 (q - 1),.int .i64 (m*1000000+1000000000)]:=by
   unfold tm;rw [show ms / 1000=q - 1 by omega,show ms % 1000*1000000=m*1000000+1000000000 by omega]
  rw [ht];exact At_neg q (m*1000000) W (by omega) (by omega) (by omega) (by omega)
def xjC (D:List UInt8) (b i:Nat):Value:=.int .i64 (if i % 2=0 then sg 64 (v64 D b (i / 2)) / 1000 else sg 64 (v64 D b (i / 2)) % 1000*1000000)
theorem xpz (D:List UInt8) (b k:Nat):xjC D b (k*2) = .int .i64 (sg 64 (v64 D b k) / 1000):=by
 unfold xjC;rw [if_pos (by omega),show k*2 / 2=k by omega]
theorem xpy (D:List UInt8) (b k:Nat):xjC D b (k*2+1) = .int .i64 (sg 64 (v64 D b k) % 1000*1000000):=by
 unfold xjC;rw [if_neg (by omega),show (k*2+1) / 2=k by omega]
theorem xpX:(prog.info? 109).map (fun i=>(i.zero,i.size,i.bytes))=some (some (.agg #[.int .i64 0,.int .i64 0]),2,16):=by kernel_rfl
theorem xik (w0 w:World) (r:Nat) (s:Value) (D:List UInt8) (i0 i j p:Nat) (t:TypeId) (n:Nat) (h0:Buf w0 r s D i0) (hA:At_ w0 w r s D i) (hp:w0.heap.size<=p) (hc:Blk w p t #[.slice none 0 0])
    (hz:0 < n) (hn:n<=65536) (hH:∀ W,Buf W r s D i->Calls prog 183 #[.pointer (some ⟨r,0,none⟩)] W fun e W'=>e = .returned (.tuple #[.int .i64 n,.nilIface])/\At_ W W' r s D j) (hcode:D[j]? = some 131) (hle:j+1+n*8<=D.length) :
    Calls prog 144 #[.pointer (some ⟨p,0,none⟩),.pointer (some ⟨r,0,none⟩)] w (Gives fun e w'=>e = .nilIface/\xbZ w0 r s D (j+1+n*8) p t 2 n ((List.range (n*2)).map (xjC D (j+1))) w'):=by
  obtain ⟨i1,hi,hz0,hz1,hz2⟩:=info_parts xpX;have HB:=hid h0;have HA:=hid (aI hA (aI hc hp));have HH:=hid hH;have hpr:¬ Only r p:=fun e=>by have e':p=r:=e;have:=h0.lt;omega
  have HX:=hid (aI hpr (aI hcode hle));have hz':(0:Int) < (n:Int):=by omega
  have e1:IntKind.i64.wrap ((n:Int)*8)=((n*8:Nat):Int):=by rw [IntWalk.i64_in _ (by omega)];simp
  clear h0 hA hp hc hH hpr hcode hle;go_enter func144,ntmps144;go_wp2_with (first | (go_at_call 183;go_must (refine (HH.out _ HA.out.1.buf).mono ?_;rintro e w1 ⟨rfl,hA1⟩;have H1:=hid (aI (HA.out.1.trans hA1) (HA.out.2.1.kept hA1.kept HX.out.1));have c1:=H1.out.2.cell 0;clear hA1)) | (go_at_call 160;go_must (refine (xaa r s D j _ _ H1.out.1.buf HX.out.2.1).mono ?_;rintro e w2 ⟨rfl,hA2⟩;have H2:=hid (aI (H1.out.1.trans hA2) (H1.out.2.kept hA2.kept HX.out.1));clear hA2)) | (go_at_call 161;go_must (refine (xbd r s D (j+1) _ (n*8) H2.out.1.buf (by have:=HX.out.2.2;omega) (by omega)).mono ?_;rintro e w3 ⟨v,b,rfl,rfl,⟨g,off,c4,rfl,hg,hgc,hcm,hcell⟩,hA3⟩;have H3:=hid (aI (H2.out.1.trans hA3) (aI (H2.out.2.kept hA3.kept HX.out.1) hcell));have c3:=H3.out.2.1.cell 0;clear hA3 hcell)) | (at_make;go_must (refine xfJ _ rfl (.tmp 51) (.tmp 51) 144 rfl 109 i1 (.agg #[.int .i64 0,.int .i64 0]) 2 16 underlying144 hi hz0 hz1 hz2 .i64 .i64 n rfl rfl (by omega) (by omega) ?_)));have HI:=hid (AInv.startN (e:=109) (cv:=xjC D (j+1)) (total:=n*2) (zs:=#[.int .i64 0,.int .i64 0]) H3.out.1 H3.out.2.1 HA.out.2.2 (show 0 < n*8 by omega) HX.out.2.2 H3.out.2.2);generalize hW:w3.alloc (.cells (madeCells #[.int .i64 0,.int .i64 0] (n*2)) 109)=W at HI ⊢;obtain ⟨G,hG⟩:∃ G,w3.heap.size=G:=⟨_,rfl⟩
  rw [hG] at HI ⊢;clear hW hG H1 H2 H3 c1 c3 e1
  go_loopw [58,11] (fun c q w'=>∃ k:Nat,k<=n/\c = .int .i64 k/\q = .int .i64 (8*(k:Int))/\Hid (AInv w0 r s D (j+1+n*8) p t G 109 g off (n*8) (j+1) (xjC D (j+1)) (n*2) (k*2) w')) (fun c _ _=>n - (RowKit.intOf c).toNat)
  case atStart=>exact ⟨0,by omega,rfl,rfl,by rw [Nat.zero_mul];exact HI⟩
  case round =>
    obtain ⟨k,hk,rfl,rfl,HI⟩:=hrel
    by_cases hkn:k < n
    . have hkn':(k:Int) < (n:Int):=by omega
      have hk0:(0:Int)<=(k:Int):=by omega
      have hl0:(0:Int)<=8*(k:Int):=by omega
      have hl1:8*(k:Int)<=((n*8:Nat):Int):=by omega
      have hl2:8*(k:Int)<=(n:Int)*8:=by omega
      have ht:(8*(k:Int)).toNat=8*k:=by omega
      have hci:¬ c4=8*k:=by omega
      have e2:IntKind.i64.wrap (8*(k:Int)+8)=8*(k:Int)+8:=IntWalk.i64_in _ (by omega);have e3:IntKind.i64.wrap ((k:Int)+1)=(k:Int)+1:=IntWalk.i64_in _ (by omega);have hcv:wrap64 ((Lib.beNat [at0 D (j+1+8*k),at0 D (j+1+8*k+1),at0 D (j+1+8*k+2),at0 D (j+1+8*k+3),at0 D (j+1+8*k+4),at0 D (j+1+8*k+5),at0 D (j+1+8*k+6),at0 D (j+1+8*k+7)]:Nat):Int)=sg 64 (Lib.beNat [at0 D (j+1+8*k),at0 D (j+1+8*k+1),at0 D (j+1+8*k+2),at0 D (j+1+8*k+3),at0 D (j+1+8*k+4),at0 D (j+1+8*k+5),at0 D (j+1+8*k+6),at0 D (j+1+8*k+7)]):=xoa _ (xeF _ _ _ _ _ _ _ _);obtain ⟨ms,hms⟩:∃ ms,sg 64 (v64 D (j+1) k)=ms:=⟨_,rfl⟩
      have hb8:=xeF (at0 D (j+1+8*k)) (at0 D (j+1+8*k+1)) (at0 D (j+1+8*k+2)) (at0 D (j+1+8*k+3)) (at0 D (j+1+8*k+4)) (at0 D (j+1+8*k+5)) (at0 D (j+1+8*k+6)) (at0 D (j+1+8*k+7))
      have hmr:-9223372036854775808<=ms/\ms<=9223372036854775807:=by
        rw [<- hms];unfold v64 sg;split <;> omega
      have hat:=fun W=>At_tm ms W hmr.1 hmr.2
      obtain ⟨ta,tb,hta,htb,htm⟩:∃ ta tb,ms / 1000=ta/\ms % 1000*1000000=tb/\tm ms = .agg #[.int .i64 ta,.int .i64 tb]:=⟨_,_,rfl,rfl,rfl⟩
      have hq1:-9223372036854776<=ms.tdiv 1000/\ms.tdiv 1000<=9223372036854776 /\ -1000 < ms.tmod 1000/\ms.tmod 1000 < 1000:=by
        have hm:ms=1000*ms.tdiv 1000+ms.tmod 1000:=by rw [Int.mul_tdiv_add_tmod]
        have hr:-1000 < ms.tmod 1000/\ms.tmod 1000 < 1000:=by
          rcases Int.lt_or_le ms 0 with h | h
          . rw [<- Int.neg_neg ms,Int.neg_tmod,Int.tmod_eq_emod_of_nonneg (by omega)];omega
          . rw [Int.tmod_eq_emod_of_nonneg h];omega
        omega
      obtain ⟨q,hq⟩:∃ q,ms.tdiv 1000=q:=⟨_,rfl⟩
      obtain ⟨m,hmm⟩:∃ m,ms.tmod 1000=m:=⟨_,rfl⟩
      rw [hq,hmm] at hq1;rw [htm,hq,hmm] at hat;have HAT:=hid hat;have eq1:IntKind.i64.wrap q=q:=IntWalk.i64_in _ (by omega);have eq2:IntKind.i64.wrap (m*1000000)=m*1000000:=IntWalk.i64_in _ (by omega);have eq3:IntKind.i64.wrap m=m:=IntWalk.i64_in _ (by omega);have hcv2:wrap64 ((Lib.beNat [at0 D (j+1+8*k),at0 D (j+1+8*k+1),at0 D (j+1+8*k+2),at0 D (j+1+8*k+3),at0 D (j+1+8*k+4),at0 D (j+1+8*k+5),at0 D (j+1+8*k+6),at0 D (j+1+8*k+7)]:Nat):Int)=ms:=hcv.trans hms;have HT:=hid (aI hms (aI hta htb));clear hcv hb8 hms hta htb htm hat;go_wp2_with (fail)
      go_region_with (go_at_call 167;go_must (refine (Tryz.binary_BE_Uint64 g (off+8*k) (n*8 - 8*k) (c4 - 8*k) (at0 D (j+1+8*k)) (at0 D (j+1+8*k+1)) (at0 D (j+1+8*k+2)) (at0 D (j+1+8*k+3)) (at0 D (j+1+8*k+4)) (at0 D (j+1+8*k+5)) (at0 D (j+1+8*k+6)) (at0 D (j+1+8*k+7)) _ (by omega) (by exact HI.out.src (8*k) _ (by omega) (xag (by have:=HX.out.2.2;omega))) (by exact HI.out.src (8*k+1) _ (by omega) (xag (by have:=HX.out.2.2;omega))) (by exact HI.out.src (8*k+2) _ (by omega) (xag (by have:=HX.out.2.2;omega))) (by exact HI.out.src (8*k+3) _ (by omega) (xag (by have:=HX.out.2.2;omega))) (by exact HI.out.src (8*k+4) _ (by omega) (xag (by have:=HX.out.2.2;omega))) (by exact HI.out.src (8*k+5) _ (by omega) (xag (by have:=HX.out.2.2;omega))) (by exact HI.out.src (8*k+6) _ (by omega) (xag (by have:=HX.out.2.2;omega))) (by exact HI.out.src (8*k+7) _ (by omega) (xag (by have:=HX.out.2.2;omega)))).mono ?_;rintro e w5 ⟨rfl,hb5⟩;have hI5:=HI.out.nope (((kR Nope wr).drew).trans' (Kept.below hb5 rfl));have HI5:=hid hI5;clear hb5 hI5))
      all_goals
       go_wp2_with (first | (go_at_call 185;go_must (refine (HAT.out _).mono ?_;rintro e w6 ⟨rfl,hK6⟩;have HI6:=hid (HI5.out.nope hK6);clear hK6)) | (go_at_call 186;go_must (refine (UTC_any ta tb _).mono ?_;rintro e w7 ⟨rfl,hK7⟩;have hI7:=HI6.out.nope hK7;have HI7:=hid hI7;obtain ⟨⟨u,c5⟩,f5⟩:=hI7.cell_ (i:=k*2) (by omega);obtain ⟨⟨u1,c6⟩,f6⟩:=hI7.cell_ (i:=k*2+1) (by omega);clear hK7 hI7)));have hI8:=(HI7.out.set_ HB.out (show k*2 < n*2 by omega)).set_ HB.out (show k*2+1 < n*2 by omega);rw [xpz,xpy,HT.out.1,HT.out.2.1,HT.out.2.2,show k*2+1+1=(k+1)*2 by omega] at hI8;exact ⟨⟨k+1,by omega,by go_num,by go_num,hid hI8⟩,by simp [RowKit.intOf];omega⟩
    . obtain rfl:k=n:=by omega
      have c4':=HI.out.cell.cell 0;have f4':=HI.out.cell.frozen 0;have hlt:¬ (k:Int) < (k:Int):=by omega
      have hd:=AInv.done (size:=2) (n:=k) HI.out HB.out (by unfold maxLen;omega);have HD:=hid hd;clear hd;go_wp2_with (fail);go_ret;exact ⟨_,rfl,rfl,HD.out⟩
def xlD (D:List UInt8) (b i:Nat):Value:=u8 (at0 D (b+i))
theorem xpW:(prog.info? 112).map (fun i=>(i.zero,i.size,i.bytes))=some (some (.agg z16),16,16):=by kernel_rfl
theorem AInv.spliced {w0 w w':World} {r:Nat} {s:Value} {D:List UInt8} {i0 j p:Nat} {t:TypeId} {g:Nat} {e:TypeId} {gb off N b:Nat} {cv:Nat->Value} {total k m:Nat} {cs:Array Value}
  (h:AInv w0 r s D j p t g e gb off N b cv total k w) (h0:Buf w0 r s D i0) (_hb:Blk w g e cs) (hs:cs.size=total) (hc:∀ i,i < k->cs[i]? = some (cv i)) (hm:k+m<=total)
  (hg:w'.heap[g]? = some (.cells (Go.splice cs.toList k ((List.range m).map fun i=>cv (k+i))).toArray e (0,0))) (hbel:Below g w w'):AInv w0 r s D j p t g e gb off N b cv total (k+m) w':=by
 have hk:∀ c,c < g->w'.heap[c]? = w.heap[c]? := fun c hc=>hbel.block c hc
 refine ⟨h.at_.below h0 hbel h.big,(hk p h.ne).trans h.cell,h.big,h.bigp,h.ne,h.src_lt,fun i x hi hx=>(World.cell?_of_block (hk gb h.src_lt)).trans (h.src i x hi hx),_,hg,?_,fun i hi => ?_⟩
 ·simp [Go.splice];omega
 ·simp only [Go.splice,gt]
  rcases Nat.lt_or_ge i k with h1 | h1
  ·rw [List.getElem?_append_left (by simp;omega),List.getElem?_take,if_pos h1]
   simpa using hc i h1
  ·rw [List.getElem?_append_right (by simp;omega),List.getElem?_append_left (by simp;omega),gM,List.getElem?_range (by simp;omega)];simp only [Option.map_some,List.length_take,Array.length_toList];rw [show k+(i - min k cs.size)=i by omega]
theorem xpc (w0 w:World) (r:Nat) (s:Value) (D:List UInt8) (i0 i j p:Nat) (t:TypeId) (n:Nat) (h0:Buf w0 r s D i0) (hA:At_ w0 w r s D i) (hp:w0.heap.size<=p) (hc:Blk w p t #[.slice none 0 0])
  (hz:0 < n) (hn:n<=65536) (hH:∀ W,Buf W r s D i->Calls prog 183 #[.pointer (some ⟨r,0,none⟩)] W fun e W'=>e = .returned (.tuple #[.int .i64 n,.nilIface])/\At_ W W' r s D j) (hcode:D[j]? = some 152) (hle:j+1+n*16<=D.length) :
  Calls prog 146 #[.pointer (some ⟨p,0,none⟩),.pointer (some ⟨r,0,none⟩)] w (Gives fun e w'=>e = .nilIface/\xbZ w0 r s D (j+1+n*16) p t 16 n ((List.range (n*16)).map (xlD D (j+1))) w'):=by
 obtain ⟨i1,hi,hz0,hz1,hz2⟩:=info_parts xpW;have HB:=hid h0;have HA:=hid (aI hA (aI hc hp));have HH:=hid hH;have hpr:¬ Only r p:=fun e=>by have e':p=r:=e;have:=h0.lt;omega
 have HX:=hid (aI hpr (aI hcode hle));have hz':(0:Int) < (n:Int):=by omega
 have e1:IntKind.i64.wrap ((n:Int)*16)=((n*16:Nat):Int):=by rw [IntWalk.i64_in _ (by omega)];simp
 clear h0 hA hp hc hH hpr hcode hle;go_enter func146,ntmps146;go_wp2_with (first | (go_at_call 183;go_must (refine (HH.out _ HA.out.1.buf).mono ?_;rintro e w1 ⟨rfl,hA1⟩;have H1:=hid (aI (HA.out.1.trans hA1) (HA.out.2.1.kept hA1.kept HX.out.1));have c1:=H1.out.2.cell 0;clear hA1)) | (go_at_call 160;go_must (refine (xaa r s D j _ _ H1.out.1.buf HX.out.2.1).mono ?_;rintro e w2 ⟨rfl,hA2⟩;have H2:=hid (aI (H1.out.1.trans hA2) (H1.out.2.kept hA2.kept HX.out.1));clear hA2)) | (go_at_call 161;go_must (refine (xbd r s D (j+1) _ (n*16) H2.out.1.buf (by have:=HX.out.2.2;omega) (by omega)).mono ?_;rintro e w3 ⟨v,b,rfl,rfl,⟨g,off,c4,rfl,hg,hgc,hcm,hcell⟩,hA3⟩;have H3:=hid (aI (H2.out.1.trans hA3) (aI (H2.out.2.kept hA3.kept HX.out.1) hcell));have c3:=H3.out.2.1.cell 0;clear hA3 hcell)) | (at_make;go_must (refine xfJ _ rfl (.tmp 50) (.tmp 50) 147 rfl 112 i1 (.agg z16) 16 16 underlying147 hi hz0 hz1 hz2 .i64 .i64 n rfl rfl (by omega) (by omega) ?_)));have HI:=hid (AInv.startN (e:=112) (cv:=xlD D (j+1)) (total:=n*16) (zs:=z16) H3.out.1 H3.out.2.1 HA.out.2.2 (show 0 < n*16 by omega) HX.out.2.2 H3.out.2.2);generalize hW:w3.alloc (.cells (madeCells z16 (n*16)) 112)=W at HI ⊢;obtain ⟨G,hG⟩:∃ G,w3.heap.size=G:=⟨_,rfl⟩
 rw [hG] at HI ⊢;clear hW hG H1 H2 H3 c1 c3 e1
 go_loopw [57,11] (fun c q w'=>∃ k:Nat,k<=n/\c = .int .i64 k/\q = .int .i64 (16*(k:Int))/\Hid (AInv w0 r s D (j+1+n*16) p t G 112 g off (n*16) (j+1) (xlD D (j+1)) (n*16) (k*16) w')) (fun c _ _=>n - (RowKit.intOf c).toNat)
 case atStart=>exact ⟨0,by omega,rfl,rfl,by rw [Nat.zero_mul];exact HI⟩
 case round =>
  obtain ⟨k,hk,rfl,rfl,HI⟩:=hrel
  by_cases hkn:k < n
  ·have hkn':(k:Int) < (n:Int):=by omega
   have hk0:(0:Int)<=(k:Int):=by omega
   have hl0:(0:Int)<=16*(k:Int):=by omega
   have hl1:16*(k:Int)<=((n*16:Nat):Int):=by omega
   have hl2:16*(k:Int)<=(n:Int)*16:=by omega
   have ht:(16*(k:Int)).toNat=16*k:=by omega
   have hci:¬ c4=16*k:=by omega
   have e2:IntKind.i64.wrap (16*(k:Int)+16)=16*(k:Int)+16:=IntWalk.i64_in _ (by omega);have e3:IntKind.i64.wrap ((k:Int)+1)=(k:Int)+1:=IntWalk.i64_in _ (by omega);have eh:IntKind.i64.wrap (16*(k:Int)+16)=16*(k:Int)+16:=IntWalk.i64_in _ (by omega);have hh1:16*(k:Int)<=16*(k:Int)+16:=by omega
   have hh2:16*(k:Int)+16<=(c4:Int):=by omega
   have hh3:(16*(k:Int)+16).toNat=16*k+16:=by omega
   have hh4:(16*(k:Int)+16).toNat - 16*k=16:=by omega
   have hh5:16*k+16 - 16*k=16:=by omega
   obtain ⟨cs,hcs1,hcs2,hcs3⟩:=HI.out.row
   have hsrc:∀ m v,((List.range 16).map fun i=>xlD D (j+1) (k*16+i))[m]? = some v->wr.cell? ((⟨g,off+16*k,none⟩:Addr).add m)=some v:=by
    intro m v hv;rw [gM] at hv
    have hm:m < 16:=by
     rcases Nat.lt_or_ge m 16 with h | h
     ·exact h
     ·rw [List.getElem?_eq_none (by simpa using h)] at hv;cases hv
    rw [List.getElem?_range hm] at hv;simp at hv;subst hv;have:=HI.out.src (16*k+m) _ (by omega) (xag (show j+1+(16*k+m) < D.length by have:=HX.out.2.2;omega));rw [Addr.add_lit];unfold xlD u8;rw [Nat.add_assoc,this,show k*16=16*k by omega]
   have HS:=hid (aI hcs1 (aI hcs2 (aI hcs3 hsrc)));have hI0:(prog.info? 5).map (fun i=>i.size)=some 1:=by kernel_rfl
   have HU:=hid hI0;clear hcs1 hcs2 hcs3 hsrc hI0;go_wp2_with (fail);refine wp_region_tail 9 (by kernel_rfl) (by kernel_rfl) (fun K hK => ?_);simp only [List.take_succ_cons,List.take_zero,List.drop_succ_cons,List.drop_zero] at hK ⊢
   repeat still_step
   refine wpStill_nil (hK _ ?_);clear hK K;go_wp2_with (refine wpList_copy_splice rfl (.tmp 63) (.tmp 68) 26 26 rfl 5 underlying26 (by exact HU.out) (some ⟨G,k*16,none⟩) (some ⟨g,off+16*k,none⟩) 16 16 16 (c4 - 16*k) rfl rfl G (k*16) cs.toList 112 (by exact HS.out.1) ((List.range 16).map fun i=>xlD D (j+1) (k*16+i)) (by simp) (fun _=>⟨rfl,_,rfl,by exact HS.out.2.2.2⟩) (by have h1:=HS.out.2.1;simp;omega) (by intro u hu;obtain ⟨x,_,rfl⟩:=List.mem_map.1 hu;rfl) G wr.drew (Below.refl _ _) (Nat.le_refl _) ?_;intro w5 hg5 hb5;have H5:=hid (aI hg5.out hb5);clear hg5 hb5);have hI6:=(HI.out.nope ((kR Nope wr).drew)).spliced (m:=16) HB.out HS.out.1.drew HS.out.2.1 HS.out.2.2.1 (by omega) H5.out.1 H5.out.2;rw [show k*16+16=(k+1)*16 by omega] at hI6;exact ⟨⟨k+1,by omega,by go_num,by go_num,hid hI6⟩,by simp [RowKit.intOf];omega⟩
  ·obtain rfl:k=n:=by omega
   have c4':=HI.out.cell.cell 0;have f4':=HI.out.cell.frozen 0;have hlt:¬ (k:Int) < (k:Int):=by omega
   have hd:=AInv.done (size:=16) (n:=k) HI.out HB.out (by unfold maxLen;omega);have HD:=hid hd;clear hd;go_wp2_with (fail);go_ret;exact ⟨_,rfl,rfl,HD.out⟩
def xeH:List (Nat × Nat × UInt8):=[(131,127,81),(181,115,80),(132,118,96),(133,130,97),(134,121,82),(134,121,112),(135,133,84),(135,133,113),(136,124,83),(136,124,128),(137,136,85),(137,136,129),(138,139,114),(139,142,130),(140,113,86),(141,153,161),(141,153,177),(143,150,160),(143,150,176),(144,144,131),(146,147,152)]
set_option maxHeartbeats 32000000 in
theorem xaX (F T:Nat) (c:UInt8) (hcc:(F,T,c) ∈ xeH) (r:Nat) (s:Value) (D:List UInt8) (i j:Nat) (w:World) (Q:Value->World->Prop) (h:Buf w r s D i) (hc0:D[i]? = some 224) (hc:D[i+3]? = some c)
  (hr:∀ W,At_ w W r s D i->Blk W w.heap.size T #[.slice none 0 0]->Calls prog F #[.pointer (some ⟨w.heap.size,0,none⟩),.pointer (some ⟨r,0,none⟩)] W (Gives fun e w'=>e = .nilIface/\At_ w w' r s D j/\∃ a n c,Blk w' w.heap.size T #[.slice a n c]/\Q (.slice a n c) w')) :
  Calls prog 126 #[.pointer (some ⟨r,0,none⟩)] w (xac fun x e w'=>e = .nilIface/\At_ w w' r s D j/\∃ v,x = .iface T v/\Q v w'):=by
 have h0:(D.drop i)[0]? = some 224:=by simpa using hc0
 have h1:(D.drop i)[3]? = some c:=by simpa using hc
 have hl:=(gi.1 hc).1;have hl1:¬ (((D.length - i:Nat):Int) < 1):=by omega
 have hl2:¬ (((D.length - i:Nat):Int) < 4):=by omega
 have hl3:(3:Int) < ((D.length - i:Nat):Int):=by omega
 have hl4:(0:Int) < ((D.length - i:Nat):Int):=by omega
 have hl5:((D.length - i:Nat):Int)=(D.length:Int) - (i:Int):=by omega
 simp only [xeH,List.mem_cons,List.mem_nil_iff,or_false,Prod.mk.injEq] at hcc
 rcases hcc with ⟨rfl,rfl,rfl⟩ | ⟨rfl,rfl,rfl⟩ | ⟨rfl,rfl,rfl⟩ | ⟨rfl,rfl,rfl⟩ | ⟨rfl,rfl,rfl⟩ | ⟨rfl,rfl,rfl⟩ | ⟨rfl,rfl,rfl⟩ | ⟨rfl,rfl,rfl⟩ | ⟨rfl,rfl,rfl⟩ | ⟨rfl,rfl,rfl⟩ | ⟨rfl,rfl,rfl⟩ | ⟨rfl,rfl,rfl⟩ | ⟨rfl,rfl,rfl⟩ | ⟨rfl,rfl,rfl⟩ | ⟨rfl,rfl,rfl⟩ | ⟨rfl,rfl,rfl⟩ | ⟨rfl,rfl,rfl⟩ | ⟨rfl,rfl,rfl⟩ | ⟨rfl,rfl,rfl⟩ | ⟨rfl,rfl,rfl⟩ | ⟨rfl,rfl,rfl⟩
 all_goals
  have HL:=hid (aI h0 h1);have HB:=hid h;have HR:=hid hr;clear h hc0 hc hr h0 h1;go_enter func126,ntmps126;go_wp2_with (first | (go_at_call 34;go_must (refine (xbJ r s D i _ HB.out).mono ?_;rintro e w2 ⟨v,rfl,hB,k2,rfl⟩;obtain ⟨g,off,c4,rfl,hgr,hgc,hcm,q0⟩:=hB.at_ HL.out.1;have q1:=hB.at_ HL.out.2;obtain ⟨g',off',c4',e',_,_,_,q1⟩:=q1;injection e' with e1 e2 e3;injection e1 with e1;injection e1 with e1 e4;subst e1 e4;rw [Nat.add_zero] at q0;unfold u8 at q0 q1;have H2:=hid ((At_.refl HB.out).drewN k2);simp only [List.length_drop] at *;clear hB e2 e3)) | ((first | go_at_call 131 | go_at_call 181 | go_at_call 132 | go_at_call 133 | go_at_call 134 | go_at_call 135 | go_at_call 136 | go_at_call 137 | go_at_call 138 | go_at_call 139 | go_at_call 140 | go_at_call 141 | go_at_call 143 | go_at_call 144 | go_at_call 146);go_must (refine (HR.out _ (H2.out.nope ((kR Nope (w.drewN k2)).alloc _)) (Blk.new (w.drewN k2) _ #[.slice none 0 0])).mono ?_;rintro e w3 ⟨_,rfl,rfl,hA,a,n,c,hb,hQ⟩;have c3:=hb.cell 0;have H3:=hid (aI hA hQ);clear hA hb hQ)));go_ret2;exact ⟨_,_,rfl,rfl,H3.out.1,_,rfl,H3.out.2⟩
set_option maxHeartbeats 32000000 in
theorem xaW (F T:Nat) (c:UInt8) (hcc:(F,T,c) ∈ xeH) (r:Nat) (s:Value) (D:List UInt8) (i j:Nat) (w:World) (Q:Value->World->Prop) (h:Buf w r s D i) (hc0:D[i]? = some 240) (hc:D[i+9]? = some c)
  (hr:∀ W,At_ w W r s D i->Blk W w.heap.size T #[.slice none 0 0]->Calls prog F #[.pointer (some ⟨w.heap.size,0,none⟩),.pointer (some ⟨r,0,none⟩)] W (Gives fun e w'=>e = .nilIface/\At_ w w' r s D j/\∃ a n c,Blk w' w.heap.size T #[.slice a n c]/\Q (.slice a n c) w')) :
  Calls prog 126 #[.pointer (some ⟨r,0,none⟩)] w (xac fun x e w'=>e = .nilIface/\At_ w w' r s D j/\∃ v,x = .iface T v/\Q v w'):=by
 have h0:(D.drop i)[0]? = some 240:=by simpa using hc0
 have h1:(D.drop i)[9]? = some c:=by simpa using hc
 have hl:=(gi.1 hc).1;have hl1:¬ (((D.length - i:Nat):Int) < 1):=by omega
 have hl2:¬ (((D.length - i:Nat):Int) < 10):=by omega
 have hl3:(9:Int) < ((D.length - i:Nat):Int):=by omega
 have hl4:(0:Int) < ((D.length - i:Nat):Int):=by omega
 have hl5:((D.length - i:Nat):Int)=(D.length:Int) - (i:Int):=by omega
 simp only [xeH,List.mem_cons,List.mem_nil_iff,or_false,Prod.mk.injEq] at hcc
 rcases hcc with ⟨rfl,rfl,rfl⟩ | ⟨rfl,rfl,rfl⟩ | ⟨rfl,rfl,rfl⟩ | ⟨rfl,rfl,rfl⟩ | ⟨rfl,rfl,rfl⟩ | ⟨rfl,rfl,rfl⟩ | ⟨rfl,rfl,rfl⟩ | ⟨rfl,rfl,rfl⟩ | ⟨rfl,rfl,rfl⟩ | ⟨rfl,rfl,rfl⟩ | ⟨rfl,rfl,rfl⟩ | ⟨rfl,rfl,rfl⟩ | ⟨rfl,rfl,rfl⟩ | ⟨rfl,rfl,rfl⟩ | ⟨rfl,rfl,rfl⟩ | ⟨rfl,rfl,rfl⟩ | ⟨rfl,rfl,rfl⟩ | ⟨rfl,rfl,rfl⟩ | ⟨rfl,rfl,rfl⟩ | ⟨rfl,rfl,rfl⟩ | ⟨rfl,rfl,rfl⟩
 all_goals
  have HL:=hid (aI h0 h1);have HB:=hid h;have HR:=hid hr;clear h hc0 hc hr h0 h1;go_enter func126,ntmps126;go_wp2_with (first | (go_at_call 34;go_must (refine (xbJ r s D i _ HB.out).mono ?_;rintro e w2 ⟨v,rfl,hB,k2,rfl⟩;obtain ⟨g,off,c4,rfl,hgr,hgc,hcm,q0⟩:=hB.at_ HL.out.1;have q1:=hB.at_ HL.out.2;obtain ⟨g',off',c4',e',_,_,_,q1⟩:=q1;injection e' with e1 e2 e3;injection e1 with e1;injection e1 with e1 e4;subst e1 e4;rw [Nat.add_zero] at q0;unfold u8 at q0 q1;have H2:=hid ((At_.refl HB.out).drewN k2);simp only [List.length_drop] at *;clear hB e2 e3)) | ((first | go_at_call 131 | go_at_call 181 | go_at_call 132 | go_at_call 133 | go_at_call 134 | go_at_call 135 | go_at_call 136 | go_at_call 137 | go_at_call 138 | go_at_call 139 | go_at_call 140 | go_at_call 141 | go_at_call 143 | go_at_call 144 | go_at_call 146);go_must (refine (HR.out _ (H2.out.nope ((kR Nope (w.drewN k2)).alloc _)) (Blk.new (w.drewN k2) _ #[.slice none 0 0])).mono ?_;rintro e w3 ⟨_,rfl,rfl,hA,a,n,c,hb,hQ⟩;have c3:=hb.cell 0;have H3:=hid (aI hA hQ);clear hA hb hQ)));go_ret2;exact ⟨_,_,rfl,rfl,H3.out.1,_,rfl,H3.out.2⟩
section
def Lies (D:List UInt8) (i:Nat) (bs:List UInt8):Prop:=∀ k x,bs[k]? = some x->D[i+k]? = some x
namespace Lies
variable {D bs cs:List UInt8} {i:Nat}
theorem head {x:UInt8} (h:Lies D i (x :: bs)):D[i]? = some x:=by simpa using h 0 x rfl
theorem tail {x:UInt8} (h:Lies D i (x :: bs)):Lies D (i+1) bs:=fun k y hk=>by
 have:=h (k+1) y (by simpa using hk);rw [show i+1+k=i+(k+1) by omega];exact this
theorem left (h:Lies D i (bs ++ cs)):Lies D i bs:=fun k x hk=>h k x (by
 have:=(gi.1 hk).1
 rw [List.getElem?_append_left this];exact hk)
theorem right (h:Lies D i (bs ++ cs)):Lies D (i+bs.length) cs:=fun k x hk=>by
 have:=h (bs.length+k) x (by rw [List.getElem?_append_right (by omega)];simpa using hk);rw [show i+bs.length+k=i+(bs.length+k) by omega];exact this
theorem len (h:Lies D i bs) (hi:i<=D.length):i+bs.length<=D.length:=by
 rcases Nat.eq_zero_or_pos bs.length with h0 | h0
 ·omega
 ·have hx:bs[bs.length - 1]? = some (bs[bs.length - 1]'(by omega)):=ge (by omega);have:=(gi.1 (h _ _ hx)).1;omega
theorem eq_take (h:Lies D i bs) (hi:i<=D.length):(D.drop i).take bs.length=bs:=by
 have hl:=h.len hi;apply List.ext_getElem?;intro k;rw [List.getElem?_take]
 split
 ·rename_i hk
  rw [List.getElem?_drop,h k _ (ge hk),ge hk]
 ·rename_i hk
  rw [List.getElem?_eq_none (by omega)]
end Lies
theorem xlC:∀ (n u acc:Nat),Lib.beFrom acc (be n u)=acc*256 ^ n+u % 256 ^ n
 | 0,u,acc=>by simp [be,Lib.beFrom,Nat.mod_one]
 | n+1,u,acc=>by
  rw [be]
  show Lib.beFrom (acc*256+(UInt8.ofNat (u / 256 ^ n % 256)).toNat) (be n u)=_
  rw [xlC n u];have h1:(UInt8.ofNat (u / 256 ^ n % 256)).toNat=u / 256 ^ n % 256:=by simp
  rw [h1,Nat.pow_succ];have h2:u % (256 ^ n*256)=u % 256 ^ n+256 ^ n*(u / 256 ^ n % 256):=Nat.mod_mul;rw [h2,Nat.add_mul,Nat.mul_assoc,Nat.mul_comm 256 (256 ^ n),Nat.mul_comm (u / 256 ^ n % 256) (256 ^ n)];omega
theorem xke (n u:Nat):Lib.beNat (be n u)=u % 256 ^ n:=by
 unfold Lib.beNat;rw [xlC];simp
theorem be1 (u:Nat):be 1 u=[UInt8.ofNat (u % 256)]:=by simp [be]
theorem xaw (v:V):(asRead v).kind=if v.kind=20 then 19 else v.kind:=by rw [xbj];rfl
theorem xgR (v:V):(asRead v).num=v.num:=by rw [xbj];rfl
theorem xaS (v:V):(asRead v).text=v.text:=by rw [xbj];rfl
theorem xbi (v:V):(asRead v).kids=if v.kind=23 then v.kids else v.kids.map asRead:=by rw [xbj];rfl
theorem xbu (v:V):(asRead v).desc=v.desc:=by rw [xbj];rfl
theorem sg_8 {n:Int} (h0:0<=n) (h1:n < 18446744073709551616) (h:n < 128\/18446744073709551488<=n):sg 8 (n.toNat % 256)=sint n:=by
 unfold sg sint;split <;> split <;> omega
theorem sg_16 {n:Int} (h0:0<=n) (h1:n < 18446744073709551616) (h:n < 32768\/18446744073709518848<=n):sg 16 (n.toNat % 65536)=sint n:=by
 unfold sg sint;split <;> split <;> omega
theorem sg_32 {n:Int} (h0:0<=n) (h1:n < 18446744073709551616) (h:n < 2147483648\/18446744071562067968<=n):sg 32 (n.toNat % 4294967296)=sint n:=by
 unfold sg sint;split <;> split <;> omega
theorem sg_64 {n:Int} (h0:0<=n) (h1:n < 18446744073709551616):sg 64 (n.toNat % 18446744073709551616)=sint n:=by
 unfold sg sint;split <;> split <;> omega
end
end Go.Proofs.YtmdpodeegdjkeaaGreatDoor
