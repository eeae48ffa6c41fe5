/- FnReadValue, part 3 (texts LwValue). No conditions. -/
import Derived.Deep.RegionHeld3
import Derived.Deep.DrawnRows
import Derived.Test.YtmdpodeegdjkeaaGreatDoorEV2
set_option maxRecDepth 100000
set_option maxHeartbeats 3200000
namespace Go.Proofs.YtmdpodeegdjkeaaGreatDoor
open Go Go.RowKit Go.Lib Tryz
theorem xmb (w:World) (s:Value) (hs:BSl Any_ w s [65]) (hT:Tabs w) (he:Eof w):Calls prog 28 #[s] w fun e w'=>∃ t p n c o q m d rx,e = .returned (.tuple #[.agg #[.int .i64 1,.int .u64 1,.string t,.slice p n c,.int .i64 o,.slice q m d],rx,.bool true])/\Kept Nope w w':=by
 refine (xeK (v:=xdf) (bs:=[65]) (bh:=[]) w s rfl hs xhY utf_true (.plain (c:=65) (p:=[]) rfl (Form.flag (v:=xdf) rfl)) (by decide) hT he).mono ?_;rintro e w' ⟨vx,rx,rfl,hk,⟨v',hv,hlo⟩,_⟩;obtain ⟨ks,ds,rfl,_,h1,h2⟩:=hv;obtain ⟨p,c,rfl,_⟩:=h1.form;obtain ⟨q,d,rfl,_⟩:=h2.form;have h0:(asRead xdf).kind=1:=by rw [xaw];rfl
 have hn:(asRead xdf).num=1:=by rw [xgR];rfl
 cases hlo with
 | leaf _ _ h =>
  cases h with
  | mk e1 e2 _ _ _ _ _ =>
   rw [h0] at e1;rw [hn] at e2;unfold vagg;rw [<- e1,<- e2];exact ⟨_,_,_,_,_,_,_,_,_,rfl,hk⟩
 | list h=>rw [h0] at h;exact absurd h (by decide)
 | map _ _ _ h=>rw [h0] at h;exact absurd h (by decide)
theorem six_new {W W':World} {a0 a1 a2 a3 a4 a5:Value} (hk:Kept Nope (W.alloc (.cells #[a0,a1,a2,a3,a4,a5] 25)) W') :
  W'.cell? ⟨W.heap.size,0,none⟩=some a0/\W'.cell? ⟨W.heap.size,1,none⟩=some a1/\W'.cell? ⟨W.heap.size,2,none⟩=some a2/\W'.cell? ⟨W.heap.size,3,none⟩=some a3/\W'.cell? ⟨W.heap.size,4,none⟩=some a4/\W'.cell? ⟨W.heap.size,5,none⟩=some a5:=by
 have g0:=(Blk.new W 25 #[a0,a1,a2,a3,a4,a5]).kept hk (fun h=>h);exact ⟨g0.cell 0,g0.cell 1,g0.cell 2,g0.cell 3,g0.cell 4,g0.cell 5⟩
theorem FnReadValue_ok (w:World) (x:Value) (v:V) (st cut:Int) (xb:Value) (bh:List UInt8) (h:xiq w x v st cut xb bh) (hT:Tabs w) (he:Eof w):Calls prog 9 #[x] w fun e w'=>e = .returned (.bool true)/\Kept Nope w w':=by
  obtain ⟨⟨a0,a1,a2,a3,a4,a5,rfl,hv⟩,hst,hcut,hb⟩:=h;have hv':=hv;obtain ⟨kv,dv,e,hnv,hkv,hdv⟩:=hv';obtain ⟨pkv,ckv,rfl,_⟩:=hkv.form;obtain ⟨pdv,cdv,rfl,_⟩:=hdv.form;unfold vagg at e;simp only [Value.agg.injEq,Array.mk.injEq,List.cons.injEq,and_true] at e;obtain ⟨rfl,rfl,rfl,rfl,rfl,rfl⟩:=e;have HD:=hid (aI hv (aI hb (aI hT (aI he (aI hst (aI hcut hnv))))));obtain ⟨bp,bc,rfl,_⟩:=hb;clear hv hkv hdv hnv hT he hst hcut;obtain ⟨nl,hnl⟩:∃ n,v.kids.length=n:=⟨_,rfl⟩
  obtain ⟨nd,hnd⟩:∃ n,v.desc.length=n:=⟨_,rfl⟩
  obtain ⟨nb,hnb⟩:∃ n,bh.length=n:=⟨_,rfl⟩
  rw [hnl,hnd,hnb] at HD ⊢;have HNN:=hid (aI hnl (aI hnd hnb));clear hnl hnd hnb;go_enter func9,ntmps9;go_wp2_with fail;obtain ⟨P,hP⟩:∃ P,w.heap.size=P:=⟨_,rfl⟩
  obtain ⟨W1,hW1⟩:∃ W1,w.alloc (.cells #[.int .i64 v.kind,.int .u64 v.num,.string v.text,.slice pkv nl ckv,.int .i64 v.of_,.slice pdv nd cdv,.int .u64 st,.slice bp nb bc,.int .i64 cut] 39)=W1:=⟨_,rfl⟩
  have hB0:Blk W1 P 39 #[.int .i64 v.kind,.int .u64 v.num,.string v.text,.slice pkv nl ckv,.int .i64 v.of_,.slice pdv nd cdv,.int .u64 st,.slice bp nb bc,.int .i64 cut]:=by rw [<- hW1,<- hP];exact Blk.new w 39 _
  have hK1:Kept Nope w W1:=by rw [<- hW1];exact (kR Nope w).alloc _
  rw [hW1]
  (try rw [hP])
  have HB:=hid (aI hB0 (aI hK1 hP));clear hB0 hK1 hW1 hP;refine (xdj _ _ _ _ _ _ _ _ _ _ _ _).mono ?_;rintro e w1 ⟨b1,rfl,hk1⟩;have K1:=hid (HB.out.2.1.trans' hk1);have J1:=hid hk1;clear hk1;obtain ⟨c0,c1,c2,c3,c4,c5,c6,c7,c8⟩:=nine HB.out.1 J1.out;cases b1
  case false =>
    go_wp2;go_ret;exact ⟨rfl,K1.out⟩
  go_wp2_with fail;refine (xmb _ _ (xeZ w1 _ [65] (by decide)) (HD.out.2.2.1.nope (K1.out.alloc _)) (HD.out.2.2.2.1.nope (K1.out.alloc _))).mono ?_;rintro e w2 ⟨t2,p2,n2,q2,o2,r2,m2,d2,rx2,rfl,hk2⟩;have hk2':Kept Nope w1 (w2.alloc (.cells #[.int .i64 1,.int .u64 1,.string t2,.slice p2 n2 q2,.int .i64 o2,.slice r2 m2 d2] 25)):=((kR Nope w1).alloc _).trans' (hk2.alloc _);have K2:=hid (K1.out.trans' hk2');have J2:=hid (J1.out.trans' hk2');clear hk2 hk2' c0 c1 c2 c3 c4 c5 c6 c7 c8;obtain ⟨c0,c1,c2,c3,c4,c5,c6,c7,c8⟩:=nine HB.out.1 J2.out;obtain ⟨b0,b1,b2,b3,b4,b5⟩:=six_new (W:=w2) (a0:=.int .i64 1) (a1:=.int .u64 1) (a2:=.string t2) (a3:=.slice p2 n2 q2) (a4:=.int .i64 o2) (a5:=.slice r2 m2 d2) (kR _ _);go_wp2_with fail;clear b0 b1 b2 b3 b4 b5;refine (xgP _ v _ _ _ _ _ _ _ st cut bh (HD.out.1.keep K2.out (fun _ _ _ h=>h)) (by have:=HD.out.2.2.2.2.1;omega) HD.out.2.2.2.2.2.1 (HD.out.2.1.keep K2.out (fun _ _ _ h=>h)) (HD.out.2.2.1.nope K2.out)).mono ?_;intro e w3 h3;obtain ⟨hk3,⟨x3,y3,cc,rfl⟩ | ⟨x3,y3,cc,rfl,hg3⟩⟩:=h3.one
  . have K3:=hid (K2.out.trans' hk3)
    clear hk3 h3;go_wp2;go_ret;exact ⟨rfl,K3.out⟩
  have HG:=hid hg3;have K3:=hid (K2.out.trans' hk3);have J3:=hid (J2.out.trans' hk3);clear hk3 h3 hg3 c0 c1 c2 c3 c4 c5 c6 c7 c8;obtain ⟨c0,c1,c2,c3,c4,c5,c6,c7,c8⟩:=nine HB.out.1 J3.out;go_wp2_with fail;refine (xdk v _ _ (HD.out.1.keep K3.out (fun _ _ _ h=>h)) (HD.out.2.2.1.nope K3.out)).mono ?_;rintro e w4 ⟨⟨rfl,hsv⟩ | rfl,hk4⟩
  case inr =>
    have K4:=hid (K3.out.trans' hk4);clear hk4;go_wp2;go_ret;exact ⟨rfl,K4.out⟩
  have HSV:=hid hsv;have K4:=hid (K3.out.trans' hk4);have J4:=hid (J3.out.trans' hk4);have L4:=hid hk4;clear hk4 hsv c0 c1 c2 c3 c4 c5 c6 c7 c8;obtain ⟨c0,c1,c2,c3,c4,c5,c6,c7,c8⟩:=nine HB.out.1 J4.out;go_wp2_with fail;refine (xbN v _ _ (HD.out.1.keep K4.out (fun _ _ _ h=>h))).mono ?_;rintro e w5 ⟨rfl | ⟨rfl,hy5⟩,hk5⟩
  case inl =>
    have K5:=hid (K4.out.trans' hk5);clear hk5;go_wp2;go_ret;exact ⟨rfl,K5.out⟩
  have HY:=hid hy5;have K5:=hid (K4.out.trans' hk5);have J5:=hid (J4.out.trans' hk5);have L5:=hid (L4.out.trans' hk5);clear hk5 hy5 c0 c1 c2 c3 c4 c5 c6 c7 c8;obtain ⟨c0,c1,c2,c3,c4,c5,c6,c7,c8⟩:=nine HB.out.1 J5.out;obtain ⟨hf,hcn,hdn,hbl,bs,D,hE,hx,hD⟩:=HG.out;have hlb:=xfa hf hcn hE;have HE:=hid (aI hf (aI hdn (aI hE hlb)));have HX:=hid (hx.keep L5.out (fun _ _ _ h=>h));have HDD:=hid hD;have HBL:=hid hbl;clear hf hcn hdn hbl hE hx hD hlb HG;have hl:bs.length < 4294967296:=by have:=HE.out.2.2.2;omega
  have hDl:D.length < 4294967296:=by
    have h1:=HE.out.2.2.2;have h2:=HBL.out
    rcases HDD.out with ⟨_,m,hm,h3⟩ | ⟨_,h3,_⟩ <;> rw [h3] <;> simp <;> omega
  have HDL:=hid (aI hDl hl);clear hDl hl;have HGD:=hid (xds HD.out.1.nums HSV.out HY.out);have hxf:=HX.out;obtain ⟨xp,xc,rfl,_⟩:=hxf;cases cc
  case true =>
    obtain ⟨m,hm,hDe⟩:∃ m,m < bs.length/\D=bs.take m:=by
      rcases HDD.out with ⟨_,m,hm,h2⟩ | ⟨h1,_⟩
      . exact ⟨m,hm,h2⟩
      . cases h1
    have HM:=hid (aI hDe hm);clear hDe hm;go_wp2_with fail;refine (ReadValue_cut _ _ HM.out.1 HM.out.2 HX.out HGD.out HE.out.2.2.1 HDL.out.2 (HD.out.2.2.2.1.nope K5.out)).mono ?_;rintro e w6 ⟨rfl,hk6⟩;have K6:=hid (K5.out.trans' hk6);clear hk6;unfold zVal;go_wp2;go_ret;exact ⟨rfl,K6.out.alloc _⟩
  have hdy:D=bs ++ bh/\BSl Any_ w3 y3 bh:=by
    rcases HDD.out with ⟨h1,_⟩ | ⟨_,h2,h3⟩
    . cases h1
    . exact ⟨h2,h3⟩
  have hyf:=hdy.2;obtain ⟨yp,yc,rfl,_⟩:=hyf;have HYB:=hid hdy;clear hdy;go_wp2_with fail;refine (xeK (v:=v) (bs:=bs) (bh:=bh) _ _ HYB.out.1 HX.out HGD.out (xeU HSV.out) HE.out.2.2.1 HDL.out.1 (HD.out.2.2.1.nope K5.out) (HD.out.2.2.2.1.nope K5.out)).mono ?_;rintro e w6 ⟨vx,rx,rfl,hk6,⟨v',hv6,hlo6⟩,hr6⟩;have M6:=hid (aI hv6 (aI hlo6 hr6));obtain ⟨ks6,ds6,rfl,_,g6,g6'⟩:=hv6;obtain ⟨pk6,ck6,rfl,_⟩:=g6.form;obtain ⟨pd6,cd6,rfl,_⟩:=g6'.form;obtain ⟨rp6,rc6,rfl,_⟩:=hr6;unfold vagg at M6 ⊢;clear hlo6 g6 g6';obtain ⟨WH,hWH⟩:∃ WH,w6.alloc (.cells #[.int .i64 v'.kind,.int .u64 v'.num,.string v'.text,.slice pk6 v'.kids.length ck6,.int .i64 v'.of_,.slice pd6 v'.desc.length cd6] 25)=WH:=⟨_,rfl⟩
  have hk6':Kept Nope w5 WH:=hWH ▸ hk6.alloc _;have KH:=hid (K5.out.trans' hk6');have JH:=hid (J5.out.trans' hk6');have LH:=hid (L5.out.trans' hk6');have NH:Hid (Kept Nope w6 WH):=hid (hWH ▸ (kR Nope w6).alloc _);clear hk6 hk6' c0 c1 c2 c3 c4 c5 c6 c7 c8;obtain ⟨c0,c1,c2,c3,c4,c5,c6,c7,c8⟩:=nine HB.out.1 JH.out;obtain ⟨Q,hQ⟩:∃ Q,w6.heap.size=Q:=⟨_,rfl⟩
  have hj:Blk WH Q 25 #[.int .i64 v'.kind,.int .u64 v'.num,.string v'.text,.slice pk6 v'.kids.length ck6,.int .i64 v'.of_,.slice pd6 v'.desc.length cd6]:=by rw [<- hWH,<- hQ];exact Blk.new w6 25 _
  go_wp2_with fail
  (try rw [hWH])
  (try rw [hQ])
  clear hWH hQ;have j0:=hj.cell 0;have j1:=hj.cell 1;have j2:=hj.cell 2;have j3:=hj.cell 3;have j4:=hj.cell 4;have j5:=hj.cell 5;simp only [gt,gz,gs] at j0 j1 j2 j3 j4 j5;have HM:Hid (∀ w',Kept Nope WH w'->(Kept Nope WH w'/\w'.cell? ⟨P,0,none⟩=some (.int .i64 v.kind)/\w'.cell? ⟨P,1,none⟩=some (.int .u64 v.num)/\w'.cell? ⟨P,2,none⟩=some (.string v.text)/\w'.cell? ⟨P,3,none⟩=some (.slice pkv nl ckv)/\w'.cell? ⟨P,4,none⟩=some (.int .i64 v.of_)/\w'.cell? ⟨P,5,none⟩=some (.slice pdv nd cdv)/\w'.cell? ⟨Q,0,none⟩=some (.int .i64 v'.kind)/\w'.cell? ⟨Q,1,none⟩=some (.int .u64 v'.num)/\w'.cell? ⟨Q,2,none⟩=some (.string v'.text)/\w'.cell? ⟨Q,3,none⟩=some (.slice pk6 v'.kids.length ck6)/\w'.cell? ⟨Q,4,none⟩=some (.int .i64 v'.of_)/\w'.cell? ⟨Q,5,none⟩=some (.slice pd6 v'.desc.length cd6))):=hid fun w' hk=>⟨hk,hk.cell c0 (fun h=>h),hk.cell c1 (fun h=>h),hk.cell c2 (fun h=>h),hk.cell c3 (fun h=>h),hk.cell c4 (fun h=>h),hk.cell c5 (fun h=>h),hk.cell j0 (fun h=>h),hk.cell j1 (fun h=>h),hk.cell j2 (fun h=>h),hk.cell j3 (fun h=>h),hk.cell j4 (fun h=>h),hk.cell j5 (fun h=>h)⟩
  clear c0 c1 c2 c3 c4 c5 c6 c7 c8 j0 j1 j2 j3 j4 j5 hj
  go_region_held3 (fun w'=>Kept Nope WH w'/\w'.cell? ⟨P,0,none⟩=some (.int .i64 v.kind)/\w'.cell? ⟨P,1,none⟩=some (.int .u64 v.num)/\w'.cell? ⟨P,2,none⟩=some (.string v.text)/\w'.cell? ⟨P,3,none⟩=some (.slice pkv nl ckv)/\w'.cell? ⟨P,4,none⟩=some (.int .i64 v.of_)/\w'.cell? ⟨P,5,none⟩=some (.slice pdv nd cdv)/\w'.cell? ⟨Q,0,none⟩=some (.int .i64 v'.kind)/\w'.cell? ⟨Q,1,none⟩=some (.int .u64 v'.num)/\w'.cell? ⟨Q,2,none⟩=some (.string v'.text)/\w'.cell? ⟨Q,3,none⟩=some (.slice pk6 v'.kids.length ck6)/\w'.cell? ⟨Q,4,none⟩=some (.int .i64 v'.of_)/\w'.cell? ⟨Q,5,none⟩=some (.slice pd6 v'.desc.length cd6)) (first | exact HM.out _ ((kR Nope WH).drew) | exact ‹Kept Nope WH _/\_› | exact HM.out _ (Kept.trans' (‹Kept Nope WH _/\_›).1 ‹Kept Nope _ _›)) (first
    | (go_at_call 18;refine (left_ok _ _ _ bh ((M6.out.2.2.keep (NH.out.trans' (‹Kept Nope WH _/\_›).1) (fun _ _ _ h=>h)).mono fun _ _ _=>trivial) (HYB.out.2.keep (LH.out.trans' (‹Kept Nope WH _/\_›).1) (fun _ _ _ h=>h))).mono ?_;rintro e we ⟨rfl,rfl⟩)
    | (go_at_call 17;refine (xbX (xci _ v (Nat.le_refl _) HGD.out) M6.out.2.1 (HY2.out.mono fun _ _ _=>trivial) ((M6.out.1.keep (NH.out.trans' (‹Kept Nope WH _/\_›).1) (fun _ _ _ h=>h)).mono fun _ _ _=>trivial)).mono ?_;rintro e wd ⟨rfl,hkd⟩)
    | (go_at_call 16;refine (xeR v (xcv _ v (Nat.le_refl _) HE.out.1) _ _ (HD.out.1.keep (KH.out.trans' (‹Kept Nope WH _/\_›).1) (fun _ _ _ h=>h))).mono ?_;rintro e wc ⟨y2,rfl,ha2⟩;have hkc:=(ha2.any HD.out.2.2.2.2.2.2).2;have HY2:=hid (ha2.any HD.out.2.2.2.2.2.2).1;clear ha2))
  go_wp2;go_ret;exact ⟨rfl,KH.out.trans' (‹Kept Nope WH _/\_›).1⟩
end Go.Proofs.YtmdpodeegdjkeaaGreatDoor
