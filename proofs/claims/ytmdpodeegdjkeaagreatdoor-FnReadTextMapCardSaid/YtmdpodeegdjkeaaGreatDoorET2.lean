/- FnReadTextMap, part 2 (texts RkTextMap LsTxt LwTextMap). No conditions. -/
import Derived.Test.YtmdpodeegdjkeaaGreatDoorET1
set_option maxRecDepth 100000
set_option maxHeartbeats 3200000
namespace Go.Proofs.YtmdpodeegdjkeaaGreatDoor
open Go Go.RowKit Go.Lib Tryz
theorem xiL (w:World) (s:Value) (D bh:List UInt8) (n:Nat) (K:Int) (u:V) (hs:BSl Any_ w s D) (hlen:D.length < 4294967296) (hdrop:D.drop n=bh) (hT:Tabs w) (he:Eof w)
  (hU:∀ (W0 W:World) (r p:Nat) (y:Value),Buf W0 r y D 0->At_ W0 W r y D 0->W0.heap.size<=p->Blk W p 85 #[.map none]->Calls prog 50 #[.pointer (some ⟨p,0,none⟩),.pointer (some ⟨r,0,none⟩)] W (Gives fun e w'=>e = .nilIface/\At_ W0 w' r y D n/\∃ b,Blk w' p 85 #[.map (some b)]/\(Tabs w'->Calls prog 51 #[.int .i64 19,.map (some b)] w' (xac (xmn w' K u))))) :
  Calls prog 27 #[s] w (xdA w K u bh):=by
 have HW:=hid (aI hs (aI hT he));have HR:=hid (aI hlen hdrop);have HU:=hid hU;clear hlen hdrop hT he hU;obtain ⟨sa,sc,rfl,_⟩:=hs
 go_enter_defers func27,ntmps27
 go_wp2_with fail;obtain ⟨P,hP⟩:∃ P,w.heap.size=P:=⟨_,rfl⟩
 obtain ⟨W3,hW3⟩:∃ W3,((w.alloc (.cells #[.slice none 0 0] 23)).alloc (.cells #[.slice none 0 0] 26)).alloc (.cells #[.bool false] 4)=W3:=⟨_,rfl⟩
 have hB:=xco w P hP W3 hW3;rw [hW3,hP];have HB:=hid hB;clear hB hW3 hP
 go_wp2_with (first
  | (go_at_call 51;go_must (refine (H3.out.2.2.2 (HW.out.2.1.nope H3.out.2.1)).mono ?_;rintro e w4 ⟨y4,b4,rfl,rfl,hk4,l',hv4,hlo4⟩;obtain ⟨py,cy,rfl,_⟩:=hv4.form;have hq4:=H3.out.2.2.1.keep hk4;have H4:=hid (aI hk4 (aI hv4 (aI hlo4 hq4)));have c40:=hq4.b0.cell 0;have c41:=hq4.b1.cell 0;have c42:=hq4.b2.cell 0;have f40:=hq4.b0.frozen 0;have f41:=hq4.b1.frozen 0;have f42:=hq4.b2.frozen 0;simp only [gt,gz] at c40 c41 c42;clear hk4 hlo4 hq4 hv4))
  | (go_at_call 50;go_must (refine (HU.out w2 _ w1.heap.size w2.heap.size _ H2.out.1 ((At_.refl H2.out.1).nope ((kR Nope w2).alloc _)) (Nat.le_refl _) (Blk.new w2 _ _)).mono ?_;rintro e w3 ⟨_,rfl,rfl,hA3,b,hb3,hv3⟩;have c30:=hb3.cell 0;simp only [gt,gz] at c30;have hq3:=(HB.out.2.2.1.keep (H1.out.2.trans' H2.out.2)).keepO hA3.kept (by have h1:=H1.out.2.size;have h2:=HB.out.2.1;omega);have hkw3:Kept Nope w w3:=(HB.out.1.trans' (H1.out.2.trans' H2.out.2)).trans hA3.kept (fun k hk e=>by have e':k=w1.heap.size:=e;have h2:=(HB.out.1.trans' H1.out.2).size;omega);have H3:=hid (aI hA3 (aI hkw3 (aI hq3 hv3)));clear hA3 hb3 hv3 hq3 hkw3))
  | (go_at_call 30;go_must (refine (xes _ _ _ _).mono ?_;rintro e w2 ⟨rfl,hw2⟩;have H2:=hid (aI (hw2.symm ▸ Buf.fresh (w:=W3) (HW.out.2.2.nope HB.out.1) H1.out.2 H1.out.1 (by have:=HR.out.1;omega)) (hw2.symm ▸ (kR Nope w1).alloc (.cells #[.slice ya D.length yc,.int .i64 0] 92):Kept Nope w1 w2));clear hw2))
  | (go_at_call 31;go_must (refine (xbh Any_ _ _ D (HW.out.1.keep HB.out.1 (fun _ _ _ h=>h)) (by have:=HR.out.1;omega)).mono ?_;rintro e w1 ⟨y1,rfl,hy1,hk1⟩;have hf1:=hy1;obtain ⟨ya,yc,rfl,_⟩:=hf1;have H1:=hid (aI hy1 hk1);clear hy1 hk1)))
 clear c40 c41 c42 f40 f41 f42;obtain ⟨W5,hW5⟩:∃ W5,(w4.setCell ⟨P,0,none⟩ (.slice py l'.length cy)).setCell ⟨P+1+1,0,none⟩ (.bool true)=W5:=⟨_,rfl⟩
 have hq5:Three W5 P (.slice py l'.length cy) (.slice none 0 0) (.bool true):=hW5 ▸ H4.out.2.2.2.store02 _ _;have hk5:Kept (xcw P) w4 W5:=hW5 ▸ xcR w4 P _ _
 (try rw [hW5])
 have hs1:=H1.out.2.size;have hs2:=H2.out.2.size;have hs3:=H3.out.1.kept.size;have hPs:=HB.out.2.1;have hBu:Buf W5 w1.heap.size (.slice ya D.length yc) D n:=(H3.out.1.buf.nope H4.out.1).keepQ hk5 (fun e=>by have e':P<=w1.heap.size/\w1.heap.size < P+3:=e;omega) (((((H1.out.1.mono (S':=fun b=>W3.heap.size<=b/\b < w1.heap.size) fun b hb hS=>⟨hS,hb⟩).keep H2.out.2 (fun _ _ _ h=>h)).keep H3.out.1.kept (fun b _ hb e=>by have e':b=w1.heap.size:=e;omega)).keep H4.out.1 (fun _ _ _ h=>h)).mono fun b _ hb=>⟨by omega,fun e=>by have e':P<=b/\b < P+3:=e;omega⟩) (fun e=>by have e':P<=0/\0 < P+3:=e;have:=HW.out.2.2.lt;have:=HB.out.2.2.2;omega);have hkw5:Kept Nope w W5:=(H3.out.2.1.trans' H4.out.1).trans hk5 (fun k hk e=>by have e':P<=k/\k < P+3:=e;have:=HB.out.2.2.2;omega);have hv5:=H4.out.2.1.keep hk5 (fun b _ hb e=>by have e':P<=b/\b < P+3:=e;have hb':w3.heap.size<=b:=hb;omega);have hz5:P+3<=W5.heap.size:=by have:=hk5.size;have:=H4.out.1.size;omega
 have H5:=hid (aI hq5 (aI hBu (aI hkw5 (aI hv5 hz5))));have HS:=hid (aI hs1 (aI hs2 (aI hs3 hPs)));clear hq5 hk5 hs1 hs2 hs3 hPs hBu hkw5 hv5 hW5 hz5
 go_region_held3 (fun w'=>w'.cell? ⟨P,0,none⟩=some (.slice py l'.length cy)) (first | with_reducible exact H5.out.1.drew.cell0 | with_reducible exact (H5.out.1.drew.drewN k8).cell0 | with_reducible exact (H5.out.1.drewN (1+k8)).cell0 | with_reducible exact H9.out.2.2.1.cell0 | with_reducible exact HA.out.1.cell0 | with_reducible exact (HA.out.2.1 _).cell0 | with_reducible exact (HA.out.2.2.1 _).cell0 | fail) (first
  | (go_at_call 31;go_must (refine (xbh Any_ _ _ bh H8.out.2 H8.out.1).mono ?_;rintro e w9 ⟨y9,rfl,hy9,hk9⟩;have hf9:=hy9;obtain ⟨y9p,y9c,rfl,_⟩:=hf9;have hKK:Kept Nope W5 w9:=((kR Nope W5).drewN (1+k8)).trans' hk9;have g:=H5.out.1.keep hKK;have c90:=g.b0.cell 0;have f90:=g.b0.frozen 0;have c91:=g.b1.cell 0;have f91:=g.b1.frozen 0;have c92:=g.b2.cell 0;have f92:=g.b2.frozen 0;simp only [gt,gz] at c90 c91 c92;have HA:=hid (aI (g.set0 (.slice py l'.length cy)) (aI (fun y=>(g.set0 (.slice py l'.length cy)).set1 y) (aI (fun y=>((g.set0 (.slice py l'.length cy)).set1 y).set2 (.bool true)) True.intro)));have H9:=hid (aI hy9 (aI hKK (aI g True.intro)));clear hy9 hk9 hKK g))
  | (go_at_call 34;(refine (xbJ w1.heap.size _ D n _ (H5.out.2.1.nope ((kR Nope W5).drew))).mono ?_;rintro e w8 ⟨x8,rfl,hb8,k8,rfl⟩;rw [HR.out.2] at hb8;have hf8:=hb8;obtain ⟨x8p,x8c,rfl,_⟩:=hf8;have H8:=hid (aI (show bh.length<=1099511627776 by have h1:=HR.out.2;have h2:=HR.out.1;rw [<- h1,List.length_drop];omega) ((hb8.mono (S':=Any_) fun _ _ _=>trivial).keep (show Kept Nope W5.drew (W5.drewN (1+k8)) from ⟨rfl,rfl,rfl,Nat.le_refl _,fun _ _ _=>rfl⟩) (fun _ _ _ h=>h)));clear hb8)))
 have hqz:=HA.out.2.2.1 (.slice y9p bh.length y9c);have hkz:=xbr w9 P (.slice py l'.length cy) (.slice y9p bh.length y9c) (.bool true);have hsw:=HB.out.2.2.2;have hsP:=HB.out.2.1;have h31:=HS.out.1;have h32:=HS.out.2.1;have h33:=HS.out.2.2.1;have h34:=H4.out.1.size;have h35:=H5.out.2.2.1.size;have kz:=(H5.out.2.2.1.trans' H9.out.2.1).trans hkz (fun k hk e=>by have e':P<=k/\k < P+3:=e;omega);have vz:=((H5.out.2.2.2.1.keep H9.out.2.1 (fun _ _ _ h=>h)).keep hkz (fun b _ hb e=>by have e':P<=b/\b < P+3:=e;have hb':w3.heap.size<=b:=hb;omega)).mono (S':=xaf w) fun b _ hb=>by have hb':w3.heap.size<=b:=hb;show w.heap.size<=b;omega
 have yz:=(H9.out.1.keep hkz (fun b _ hb e=>by have e':P<=b/\b < P+3:=e;have hb':(W5.drewN (1+k8)).heap.size<=b:=hb;have h36:W5.heap.size<=b:=hb';have:=H5.out.2.2.2.2;omega)).mono (S':=xaf w) fun b _ hb=>by have h36:W5.heap.size<=b:=hb;have:=H5.out.2.2.2.2;show w.heap.size<=b;omega
 go_wp2;refine leaves_cons (f:=40) (args:=#[.pointer (some ⟨P,0,none⟩),.pointer (some ⟨P+1,0,none⟩),.pointer (some ⟨P+1+1,0,none⟩)]) (by simp) (by simp [go_sem]) ?_;refine (xbq _ _ _ _).mono ?_;rintro e u' w'' ⟨rfl,rfl,rfl⟩;exact ret3 _ rfl _ _ _ P _ _ _ rfl rfl rfl hqz ⟨_,_,rfl,kz,⟨l',vz,H4.out.2.2.1⟩,yz⟩
theorem xiM (w:World) (s:Value) (D:List UInt8) (hs:BSl Any_ w s D) (hlen:D.length < 4294967296) (he:Eof w)
  (hU:∀ (W0 W:World) (r p:Nat) (y:Value),Buf W0 r y D 0->At_ W0 W r y D 0->Calls prog 50 #[.pointer (some ⟨p,0,none⟩),.pointer (some ⟨r,0,none⟩)] W (Gives fun e w'=>xbC e/\Kept (Only r) W w')) :
  Calls prog 27 #[s] w (xiN w):=by
 have HW:=hid (aI hs he);have HR:=hid hlen;have HU:=hid hU;clear hlen he hU;obtain ⟨sa,sc,rfl,_⟩:=hs
 go_enter_defers func27,ntmps27
 go_wp2_with fail;obtain ⟨P,hP⟩:∃ P,w.heap.size=P:=⟨_,rfl⟩
 obtain ⟨W3,hW3⟩:∃ W3,((w.alloc (.cells #[.slice none 0 0] 23)).alloc (.cells #[.slice none 0 0] 26)).alloc (.cells #[.bool false] 4)=W3:=⟨_,rfl⟩
 have hB:=xco w P hP W3 hW3;rw [hW3,hP];have HB:=hid hB;clear hB hW3 hP
 go_wp2_with (first
  | (go_at_call 50;go_must (refine (HU.out w2 _ w1.heap.size w2.heap.size _ H2.out.1 ((At_.refl H2.out.1).nope ((kR Nope w2).alloc _))).mono ?_;rintro e w3 ⟨_,rfl,⟨T3,z3,rfl⟩,hk3⟩;have hkA:=((kR Nope w2).alloc (.cells #[.map none] 85));have hq3:=(HB.out.2.2.1.keep ((H1.out.2.trans' H2.out.2).trans' hkA)).keepO hk3 (by have h1:=H1.out.2.size;have h2:=HB.out.2.1;omega);have hkw3:Kept Nope w w3:=(HB.out.1.trans' ((H1.out.2.trans' H2.out.2).trans' hkA)).trans hk3 (fun k hk e=>by have e':k=w1.heap.size:=e;have h2:=(HB.out.1.trans' H1.out.2).size;omega);have H3:=hid (aI hkw3 hq3);have c40:=hq3.b0.cell 0;have c41:=hq3.b1.cell 0;have c42:=hq3.b2.cell 0;have f40:=hq3.b0.frozen 0;have f41:=hq3.b1.frozen 0;have f42:=hq3.b2.frozen 0;simp only [gt,gz] at c40 c41 c42;clear hk3 hkA hq3 hkw3))
  | (go_at_call 30;go_must (refine (xes _ _ _ _).mono ?_;rintro e w2 ⟨rfl,hw2⟩;have H2:=hid (aI (hw2.symm ▸ Buf.fresh (w:=W3) (HW.out.2.nope HB.out.1) H1.out.2 H1.out.1 (by have:=HR.out;omega)) (hw2.symm ▸ (kR Nope w1).alloc (.cells #[.slice ya D.length yc,.int .i64 0] 92):Kept Nope w1 w2));clear hw2))
  | (go_at_call 31;go_must (refine (xbh Any_ _ _ D (HW.out.1.keep HB.out.1 (fun _ _ _ h=>h)) (by have:=HR.out;omega)).mono ?_;rintro e w1 ⟨y1,rfl,hy1,hk1⟩;have hf1:=hy1;obtain ⟨ya,yc,rfl,_⟩:=hf1;have H1:=hid (aI hy1 hk1);clear hy1 hk1)))
 have hk5:=xbr w3 P (.slice none 0 0) (.slice none 0 0) (.bool false);have hq5:=((H3.out.2.set0 (.slice none 0 0)).set1 (.slice none 0 0)).set2 (.bool false);have kz:Kept Nope w (((w3.setCell ⟨P,0,none⟩ (.slice none 0 0)).setCell ⟨P+1,0,none⟩ (.slice none 0 0)).setCell ⟨P+1+1,0,none⟩ (.bool false)):=H3.out.1.trans hk5 (fun k hk e=>by have e':P<=k/\k < P+3:=e;have:=HB.out.2.2.2;omega);go_wp2;refine leaves_cons (f:=40) (args:=#[.pointer (some ⟨P,0,none⟩),.pointer (some ⟨P+1,0,none⟩),.pointer (some ⟨P+1+1,0,none⟩)]) (by simp) (by simp [go_sem]) ?_;refine (xbq _ _ _ _).mono ?_;rintro e u' w'' ⟨rfl,rfl,rfl⟩;exact ret3 _ rfl _ _ _ P _ _ _ rfl rfl rfl hq5 ⟨rfl,kz⟩
theorem xdY {v:V} {bs bh D:List UInt8} (w:World) (s:Value) (hD:D=bs ++ bh) (hs:BSl Any_ w s D) (hg:Good v) (hu:Utf (asRead v)) (h22:v.kind=22) (hK:xeo 19 v) (hE:Enc v bs) (hlen:D.length < 4294967296) (hT:Tabs w) (he:Eof w) :
  Calls prog 27 #[s] w (xdA w 22 (asRead v) bh):=by
 subst hD;refine xiL w s (bs ++ bh) bh bs.length 22 (asRead v) hs hlen (by simp) hT he fun W0 W r p y hB hA hp hb => ?_
 refine (xli r y (bs ++ bh) W0 W p 0 _ v bs hg h22 (fun i k h => .inl (hK i k h)) hlen hE (xoM bs bh) hB hA hp hb).mono ?_;rintro e w' ⟨_,rfl,rfl,hA',b,es,hx,_,hm,hl,hk,hv⟩;exact ⟨_,rfl,rfl,hA',b,hx,fun hT'=>xiy hg hu h22 hK hm hl hk (fun i e u h1 h2=>(hv i e u h1 h2).mono fun _ _=>trivial) hT'⟩
theorem xdw {v:V} {D:List UInt8} (w:World) (s:Value) (hs:BSl Any_ w s D) (hR:xbY 22 v D) (hlen:D.length < 4294967296) (he:Eof w):Calls prog 27 #[s] w (xiN w) :=
 xiM w s D hs hlen he fun W0 W r p y _ hA=>xlh W0 W r y D 0 p hA fun W2 h2=>xdl r y D W2 hR h2
theorem xiK (w:World) (s:Value) (hs:BSl Any_ w s [193,5,2,161,1,97,65]) (hT:Tabs w) (he:Eof w):Calls prog 27 #[s] w fun e w'=>∃ b off c rx,e = .returned (.tuple #[.slice (some ⟨b,off,none⟩) 2 c,rx,.bool true])/\2<=c/\w'.cell? ⟨b,off+2,none⟩=some (.string ⟨#[97]⟩)/\Kept Nope w w' :=
 (xdY (v:=xdO 19) (bs:=[193,5,2,161,1,97,65]) (bh:=[]) w s rfl hs (xga (by decide)) (xhF _) rfl (xlq 19) xqc (by decide) hT he).mono fun _ _ h=>xfU (a:=asRead (kA 19)) (b:=asRead xdf) h (xgX rfl) (xjd (v:=xdO 19) rfl) (by rw [xaS];rfl)
theorem xpp (w:World) (x:Value) (v:V) (st cut:Int) (xb:Value) (bh:List UInt8) (h:xiq w x v st cut xb bh) (hT:Tabs w) (he:Eof w):Calls prog 8 #[x] w fun e w'=>e = .returned (.bool true)/\Kept Nope w w':=by
  obtain ⟨⟨a0,a1,a2,a3,a4,a5,rfl,hv⟩,hst,hcut,hb⟩:=h;have hv':=hv;obtain ⟨kv,dv,e,hnv,hkv,hdv⟩:=hv';obtain ⟨pkv,ckv,rfl,_⟩:=hkv.form;obtain ⟨pdv,cdv,rfl,_⟩:=hdv.form;unfold vagg at e;simp only [Value.agg.injEq,Array.mk.injEq,List.cons.injEq,and_true] at e;obtain ⟨rfl,rfl,rfl,rfl,rfl,rfl⟩:=e;have HD:=hid (aI hv (aI hb (aI hT (aI he (aI hst (aI hcut hnv))))));obtain ⟨bp,bc,rfl,_⟩:=hb;clear hv hkv hdv hnv hT he hst hcut;obtain ⟨nl,hnl⟩:∃ n,v.kids.length=n:=⟨_,rfl⟩
  obtain ⟨nd,hnd⟩:∃ n,v.desc.length=n:=⟨_,rfl⟩
  obtain ⟨nb,hnb⟩:∃ n,bh.length=n:=⟨_,rfl⟩
  rw [hnl,hnd,hnb] at HD ⊢;have HNN:=hid (aI hnl (aI hnd hnb));clear hnl hnd hnb;obtain ⟨kd,hkd⟩:∃ k,v.kind=k:=⟨_,rfl⟩
  rw [hkd] at HD ⊢;have HKD:=hid hkd;clear hkd;go_enter func8,ntmps8;go_wp2_with fail;obtain ⟨P,hP⟩:∃ P,w.heap.size=P:=⟨_,rfl⟩
  obtain ⟨W1,hW1⟩:∃ W1,w.alloc (.cells #[.int .i64 kd,.int .u64 v.num,.string v.text,.slice pkv nl ckv,.int .i64 v.of_,.slice pdv nd cdv,.int .u64 st,.slice bp nb bc,.int .i64 cut] 39)=W1:=⟨_,rfl⟩
  have hB0:Blk W1 P 39 #[.int .i64 kd,.int .u64 v.num,.string v.text,.slice pkv nl ckv,.int .i64 v.of_,.slice pdv nd cdv,.int .u64 st,.slice bp nb bc,.int .i64 cut]:=by rw [<- hW1,<- hP];exact Blk.new w 39 _
  have hK1:Kept Nope w W1:=by rw [<- hW1];exact (kR Nope w).alloc _
  rw [hW1]
  (try rw [hP])
  have HB:=hid (aI hB0 (aI hK1 hP));clear hB0 hK1 hW1 hP;refine (xdj _ _ _ _ _ _ _ _ _ _ _ _).mono ?_;rintro e w1 ⟨b1,rfl,hk1⟩;have K1:=hid (HB.out.2.1.trans' hk1);have J1:=hid hk1;clear hk1;obtain ⟨c0,c1,c2,c3,c4,c5,c6,c7,c8⟩:=nine HB.out.1 J1.out;cases b1
  case false =>
    go_wp2;go_ret;exact ⟨rfl,K1.out⟩
  go_wp2_with fail;refine (xiK _ _ (xeZ w1 _ [193,5,2,161,1,97,65] (by decide)) (HD.out.2.2.1.nope (K1.out.alloc _)) (HD.out.2.2.2.1.nope (K1.out.alloc _))).mono ?_;rintro e w2 ⟨tb,toff,tc,rx2,rfl,htc,t0,hk2⟩;have K2:=hid ((K1.out.alloc _).trans' hk2);have J2:=hid ((J1.out.alloc _).trans' hk2);clear hk2 c0 c1 c2 c3 c4 c5 c6 c7 c8;obtain ⟨c0,c1,c2,c3,c4,c5,c6,c7,c8⟩:=nine HB.out.1 J2.out;go_wp2_with fail;clear t0;refine (xgP _ v _ _ _ _ _ _ _ st cut bh (HD.out.1.keep K2.out (fun _ _ _ h=>h)) (by have:=HD.out.2.2.2.2.1;omega) HD.out.2.2.2.2.2.1 (HD.out.2.1.keep K2.out (fun _ _ _ h=>h)) (HD.out.2.2.1.nope K2.out)).mono ?_;intro e w3 h3;obtain ⟨hk3,⟨x3,y3,cc,rfl⟩ | ⟨x3,y3,cc,rfl,hg3⟩⟩:=h3.one
  . have K3:=hid (K2.out.trans' hk3)
    have J3:=hid (J2.out.trans' hk3);clear hk3 h3 c0 c1 c2 c3 c4 c5 c6 c7 c8;obtain ⟨c0,c1,c2,c3,c4,c5,c6,c7,c8⟩:=nine HB.out.1 J3.out;go_wp2;go_ret;exact ⟨rfl,K3.out.alloc _⟩
  have HG:=hid hg3;have K3:=hid (K2.out.trans' hk3);have J3:=hid (J2.out.trans' hk3);clear hk3 h3 hg3 c0 c1 c2 c3 c4 c5 c6 c7 c8;obtain ⟨c0,c1,c2,c3,c4,c5,c6,c7,c8⟩:=nine HB.out.1 J3.out;go_wp2_with fail;obtain ⟨Q,hQ⟩:∃ Q,w3.heap.size=Q:=⟨_,rfl⟩
  obtain ⟨W4,hW4⟩:∃ W4,w3.alloc (.cells #[.int .i64 kd,.int .u64 v.num,.string v.text,.slice pkv nl ckv,.int .i64 v.of_,.slice pdv nd cdv] 25)=W4:=⟨_,rfl⟩
  have KV:Hid (Kept Nope w W4):=hid (hW4 ▸ K3.out.alloc _);have LV:Hid (Kept Nope w3 W4):=hid (hW4 ▸ (kR Nope w3).alloc _);have HV:Hid (Blk W4 Q 25 #[.int .i64 kd,.int .u64 v.num,.string v.text,.slice pkv nl ckv,.int .i64 v.of_,.slice pdv nd cdv]):=hid (hW4 ▸ hQ ▸ Blk.new w3 25 _);rw [hW4]
  (try rw [hQ])
  clear hW4 hQ c0 c1 c2 c3 c4 c5 c6 c7 c8;obtain ⟨d0,d1,d2,d3,d4,d5⟩:=xaL HV.out (kR _ _);refine (xdk v _ _ (HD.out.1.keep KV.out (fun _ _ _ h=>h)) (HD.out.2.2.1.nope KV.out)).mono ?_;rintro e w4 ⟨⟨rfl,hsv⟩ | rfl,hk4⟩
  case inr =>
    have K4:=hid (KV.out.trans' hk4);clear hk4;go_wp2;go_ret;exact ⟨rfl,K4.out⟩
  have HSV:=hid hsv;have K4:=hid (KV.out.trans' hk4);have J4:=hid hk4;clear hk4 hsv d0 d1 d2 d3 d4 d5;obtain ⟨d0,d1,d2,d3,d4,d5⟩:=xaL HV.out J4.out;go_wp2_with fail;refine (xbN v _ _ (HD.out.1.keep K4.out (fun _ _ _ h=>h))).mono ?_;rintro e w5 ⟨rfl | ⟨rfl,hy5⟩,hk5⟩
  case inl =>
    have K5:=hid (K4.out.trans' hk5);clear hk5;go_wp2;go_ret;exact ⟨rfl,K5.out⟩
  have HY:=hid hy5;have K5:=hid (K4.out.trans' hk5);have J5:=hid (J4.out.trans' hk5);have L5:=hid (LV.out.trans' J5.out);clear hk5 hy5 d0 d1 d2 d3 d4 d5;obtain ⟨d0,d1,d2,d3,d4,d5⟩:=xaL HV.out J5.out;obtain ⟨hf,hcn,hdn,hbl,bs,D,hE,hx,hD⟩:=HG.out;have hlb:=xfa hf hcn hE;have HE:=hid (aI hf (aI hdn (aI hE hlb)));have HX:=hid (hx.keep L5.out (fun _ _ _ h=>h));have HDD:=hid hD;have HBL:=hid hbl;clear hf hcn hdn hbl hE hx hD hlb HG;have hl:bs.length < 4294967296:=by have:=HE.out.2.2.2;omega
  have hDl:D.length < 4294967296:=by
    have h1:=HE.out.2.2.2;have h2:=HBL.out
    rcases HDD.out with ⟨_,m,hm,h3⟩ | ⟨_,h3,_⟩ <;> rw [h3] <;> simp <;> omega
  have HDL:=hid (aI hDl hl);clear hDl hl;have hxf:=HX.out;obtain ⟨xp,xc,rfl,_⟩:=hxf
  by_cases hkk:kd=22
  . subst hkk
    go_wp2_with fail;refine (xgt v _ _ _ [19] ((HD.out.1.keep K5.out (fun _ _ _ h=>h)).keep ((kR Nope w5).alloc _) (fun _ _ _ h=>h)) HE.out.1.own.few (xfV w5 _ [19] (by decide))).mono ?_;rintro e w6 ⟨⟨rfl,_,hks⟩ | rfl,hk6⟩
    case inr =>
      have K6:=hid ((K5.out.alloc _).trans' hk6);clear hk6;go_wp2;go_ret;exact ⟨rfl,K6.out⟩
    have HKS:=hid hks;have K6:=hid ((K5.out.alloc _).trans' hk6);have J6:=hid ((J5.out.alloc _).trans' hk6);have L6:=hid ((L5.out.alloc _).trans' hk6);have HX6:=hid ((HX.out.keep ((kR Nope w5).alloc _) (fun _ _ _ h=>h)).keep hk6 (fun _ _ _ h=>h));clear hk6 hks d0 d1 d2 d3 d4 d5;obtain ⟨d0,d1,d2,d3,d4,d5⟩:=xaL HV.out J6.out;cases cc
    case true =>
      have hR:xbY 22 v D:=by
        rcases HDD.out with ⟨_,m,hm,h2⟩ | ⟨h1,_⟩
        . exact ⟨bs,HE.out.2.2.1,HE.out.2.1,HDL.out.2,.inl ⟨m,hm,h2⟩⟩
        . cases h1
      have HR:=hid hR;clear hR;go_wp2_with fail;refine (xdw _ _ HX6.out HR.out HDL.out.1 (HD.out.2.2.2.1.nope K6.out)).mono ?_;rintro e w7 ⟨rfl,hk7⟩;have K7:=hid (K6.out.trans' hk7);clear hk7;go_wp2;go_ret;exact ⟨rfl,K7.out⟩
    have hdy:D=bs ++ bh/\BSl Any_ w3 y3 bh:=by
      rcases HDD.out with ⟨h1,_⟩ | ⟨_,h2,h3⟩
      . cases h1
      . exact ⟨h2,h3⟩
    have hyf:=hdy.2;obtain ⟨yp,yc,rfl,_⟩:=hyf;have HYB:=hid hdy;have HGD:=hid (xds HD.out.1.nums HSV.out HY.out);have HKY:=hid (show xeo 19 v from fun i x hx=>List.mem_singleton.1 (HKS.out i x hx));clear hdy;go_wp2_with fail;refine (xdY (v:=v) (bs:=bs) (bh:=bh) _ _ HYB.out.1 HX6.out HGD.out (xeU HSV.out) HKD.out HKY.out HE.out.2.2.1 HDL.out.1 (HD.out.2.2.1.nope K6.out) (HD.out.2.2.2.1.nope K6.out)).mono ?_;rintro e w7 ⟨lx,rx,rfl,hk7,⟨l',hl7,hlo7⟩,hr7⟩;obtain ⟨lp,lc,rfl,_⟩:=hl7.form;have H7:=hid (aI hl7 (aI hlo7 hr7));have K7:=hid (K6.out.trans' hk7);have J7:=hid (J6.out.trans' hk7);have L7:=hid (L6.out.trans' hk7);clear hk7 hl7 hlo7 hr7 d0 d1 d2 d3 d4 d5;obtain ⟨d0,d1,d2,d3,d4,d5⟩:=xaL HV.out J7.out;go_wp2_with fail;refine (xft v HKD.out (xcv _ v (Nat.le_refl _) HE.out.1) _ _ (HD.out.1.keep K7.out (fun _ _ _ h=>h)) HE.out.1.own.few).mono ?_;rintro e w8 ⟨y8,rfl,hv8,hk8⟩;rw [own_eq HGD.out HKD.out HKY.out] at hv8;have H8:=hid hv8;have K8:=hid (K7.out.trans' hk8);have L8:=hid (L7.out.trans' hk8);have M8:=hid (aI (H7.out.1.keep hk8 (fun _ _ _ h=>h)) (H7.out.2.2.keep hk8 (fun _ _ _ h=>h)));clear hv8 hk8;go_wp2_with fail;refine (xbX (xci _ v (Nat.le_refl _) HGD.out) H7.out.2.1 H8.out ((xeC 22 (by decide) M8.out.1).mono fun _ _ _=>trivial)).mono ?_;rintro e w9 ⟨rfl,hk9⟩;have K9:=hid (K8.out.trans' hk9);have M9:=hid (aI ((M8.out.2.keep hk9 (fun _ _ _ h=>h)).mono (S':=Any_) fun _ _ _=>trivial) (HYB.out.2.keep (L8.out.trans' hk9) (fun _ _ _ h=>h)));clear hk9;go_wp2_with fail;refine (left_ok _ _ _ bh M9.out.1 M9.out.2).mono ?_;rintro e w10 ⟨rfl,rfl⟩;go_wp2;go_ret;exact ⟨rfl,K9.out⟩
  . have hkb:(kd == 22)=false:=by simpa using hkk
    have hR:xbY 22 v D:=by
      rcases HDD.out with ⟨_,m,hm,h2⟩ | ⟨_,h2,_⟩
      . exact ⟨bs,HE.out.2.2.1,HE.out.2.1,HDL.out.2,.inl ⟨m,hm,h2⟩⟩
      . exact ⟨bs,HE.out.2.2.1,HE.out.2.1,HDL.out.2,.inr ⟨by rw [HKD.out];exact hkk,bh,h2⟩⟩
    have HR:=hid hR;clear hR hkk;go_wp2_with fail;refine (xdw _ _ HX.out HR.out HDL.out.1 (HD.out.2.2.2.1.nope K5.out)).mono ?_;rintro e w6 ⟨rfl,hk6⟩;have K6:=hid (K5.out.trans' hk6);have J6:=hid (J5.out.trans' hk6);clear hk6 d0 d1 d2 d3 d4 d5;obtain ⟨d0,d1,d2,d3,d4,d5⟩:=xaL HV.out J6.out;cases cc
    all_goals
      go_wp2;go_ret;exact ⟨rfl,K6.out⟩
end Go.Proofs.YtmdpodeegdjkeaaGreatDoor
