/- Part 36 of the proof of the readers and the guards. No conditions. -/
import Derived.Deep.RegionHeld3
import Derived.Test.YtmdpodeegdjkeaaGreatDoorU0
import Derived.Test.YtmdpodeegdjkeaaGreatDoorU5
set_option maxRecDepth 100000
set_option maxHeartbeats 3200000
namespace Go.Proofs.YtmdpodeegdjkeaaGreatDoor
open Go Go.RowKit Go.Lib Tryz
inductive xdz:V->Prop
 | mk {v:V}:v.desc=[]->v.kids.length<=1000->(∀ k ∈ v.kids,xdz k)->xdz v
theorem xdz.desc {v:V} (h:xdz v):v.desc=[]:=by cases h;assumption
theorem xdz.kid {v k:V} (h:xdz v) (hk:k ∈ v.kids):xdz k:=by cases h with | mk _ _ h=>exact h k hk
theorem xdz.few {v:V} (h:xdz v):v.kids.length<=1000:=by cases h;assumption
theorem xha {a b:V} (h:xao a b) (hk:a.kind=21\/a.kind=22):a.kind=b.kind/\a.kids.length=b.kids.length/\b.desc=[]:=by
 cases h with
 | leaf h1 h2 _=>omega
 | list h1 h2 h3 h4 h5 _=>exact ⟨h1.trans h2.symm,h3,h5⟩
 | map j k x h1 h2 h3 h4 h5 _ _=>exact ⟨h1.trans h2.symm,h3,h5⟩
theorem xna {a b x y:V} {i:Nat} (h:xao a b) (hk:a.kind=21) (hx:a.kids[i]? = some x) (hy:b.kids[i]? = some y):xao x y:=by
 cases h with
 | leaf h1 h2 _=>omega
 | list h1 h2 h3 h4 h5 h6=>exact h6 i x y hx hy
 | map j k x h1 h2 h3 h4 h5 _ _=>omega
theorem xlk {a b:V} (h:xao a b) (h1:a.kind≠21) (h2:a.kind≠22):Same a b:=by
 cases h with
 | leaf _ _ h=>exact h
 | list h _=>exact absurd h h1
 | map j k x h _=>exact absurd h h2
theorem xmZ {a b x y:V} {i:Nat} (h:xao a b) (hk:a.kind=22) (hx:a.kids[2*i]? = some x) (hy:a.kids[2*i+1]? = some y) :
  ∃ (j:Nat) (x' y':V),b.kids[2*j]? = some x'/\b.kids[2*j+1]? = some y'/\Same x x'/\xao y y':=by
 cases h with
 | leaf h1 h2 _=>omega
 | list h1 _=>omega
 | map j k z h1 h2 h3 h4 h5 h6 h7 =>
  obtain ⟨g1,g2,g3⟩:=h6 i x hx (gi.1 hy).1;exact ⟨j i,_,_,g1,g2,g3,h7 i y hy⟩
def xnW (a:V):Prop:=∀ k,k ∈ a.kids->∀ (u:V) (W:World) (x y:Value),VAgg Any_ W x k->VAgg Any_ W y u->Calls prog 17 #[x,y] W (AskF (¬ xao k u) W)
theorem xhA (a b:V) (w:World) (xa xb:Value) (ha:VAgg Any_ w xa a) (hb:VAgg Any_ w xb b) (h1:a.kind≠21) (h2:a.kind≠22) :
  Calls prog 17 #[xa,xb] w (AskF (¬ xao a b) w):=by
 have HA:=hid (aI ha hb);obtain ⟨ka,da,rfl,hna,hka,hda⟩:=ha;obtain ⟨kb,db,rfl,hnb,hkb,hdb⟩:=hb;unfold vagg at HA ⊢;have HT:=Blk.two w (xps a ka da) (xps b kb db) 25;unfold xps at HT;obtain ⟨k,hk⟩:∃ k,a.kind=k:=⟨_,rfl⟩
 have HN:=hid (aI h1 h2);rw [hk] at h1 h2 HT HA ⊢;have HTT:=hid HT;have n1:(k != 21)=true:=by simpa using h1
 have n2:(k != 22)=true:=by simpa using h2
 clear hna hnb hka hkb hda hdb hk HT;go_enter func17,ntmps17;go_wp2_with (go_at_call 15;go_must (refine (xcU a b _ _ _ (HA.out.1.keep HTT.out.2.2 (fun _ _ _ h=>h)) (HA.out.2.keep HTT.out.2.2 (fun _ _ _ h=>h))).mono ?_;rintro e w1 ⟨⟨rfl,hb⟩ | ⟨rfl,hb⟩,hk1⟩;all_goals have H1:=hid (aI hb (HTT.out.2.2.trans' hk1));clear hb hk1))
 ·go_ret;exact ⟨.inl rfl,H1.out.2⟩
 ·go_ret;exact ⟨.inr ⟨rfl,fun h=>H1.out.1 (xlk h HN.out.1 HN.out.2)⟩,H1.out.2⟩
theorem xhz (a b:V) (w:World) (xa xb:Value) (ha:VAgg Any_ w xa a) (hb:VAgg Any_ w xb b) (h1:a.kind=21) (hnd:a.desc=[]) (ih:xnW a) :
  Calls prog 17 #[xa,xb] w (AskF (¬ xao a b) w):=by
 obtain ⟨ka,da,rfl,hna,hka,hda⟩:=ha;obtain ⟨kb,db,rfl,hnb,hkb,hdb⟩:=hb;have HKA:=hid (aI hka hkb);have HI:=hid ih;obtain ⟨p1,c1,rfl,q1,m1⟩:=hka.form;obtain ⟨p2,c2,rfl,q2,m2⟩:=hkb.form;obtain ⟨p3,c3,rfl,q3,m3⟩:=hda.form;obtain ⟨p4,c4,rfl,q4,m4⟩:=hdb.form;have hlm:a.kids.length<=maxLen:=by omega
 clear hna hnb hka hkb hda hdb ih q1 q2 q3 q4 m1 m2 m3 m4;unfold maxLen at hlm;unfold vagg;have hd0:a.desc.length=0:=by rw [hnd];rfl
 have HNO:=hid (fun h:xao a b=>xha h (.inl h1));have HK:=hid h1;rw [hd0,h1];clear hd0 hnd h1;obtain ⟨nl,hnl⟩:∃ m,a.kids.length=m:=⟨_,rfl⟩
 obtain ⟨nb,hnb⟩:∃ m,b.kids.length=m:=⟨_,rfl⟩
 obtain ⟨nd,hnd⟩:∃ m,b.desc.length=m:=⟨_,rfl⟩
 obtain ⟨kk,hkk⟩:∃ m,b.kind=m:=⟨_,rfl⟩
 rw [hnl] at hlm ⊢;rw [hnb,hnd,hkk];have HL:=hid (aI hnl (aI hnb (aI hnd hkk)));clear hnl hnb hnd hkk
 by_cases e0:kk=21
 ·subst e0
  by_cases e1:nl=nb
  ·subst e1
   rcases Nat.eq_zero_or_pos nd with e2 | e2
   ·subst e2;go_enter func17,ntmps17;go_wp2;go_quiet (fail);go_wp2;have HT:=Blk.two w #[Value.int .i64 21,.int .u64 a.num,.string a.text,.slice p1 nl c1,.int .i64 a.of_,.slice p3 0 c3] #[Value.int .i64 21,.int .u64 b.num,.string b.text,.slice p2 nl c2,.int .i64 b.of_,.slice p4 0 c4] 25;generalize (w.alloc (.cells #[Value.int .i64 21,.int .u64 a.num,.string a.text,.slice p1 nl c1,.int .i64 a.of_,.slice p3 0 c3] 25)).alloc (.cells #[Value.int .i64 21,.int .u64 b.num,.string b.text,.slice p2 nl c2,.int .i64 b.of_,.slice p4 0 c4] 25)=W2 at HT ⊢;generalize w.heap.size+1=B at HT ⊢;generalize w.heap.size=A at HT ⊢;have HT2:=aI (HT.1.drewN nq) (aI (HT.2.1.drewN nq) (HT.2.2.drewN nq));generalize W2.drewN nq=W3 at HT2 ⊢;have HW:=hid HT2;clear HT HT2
    go_loopw [67] (fun c w'=>∃ kk:Nat,kk<=nl/\c = .int .i64 kk/\Hid (Kept Nope W3 w')) (fun c _=>nl - (RowKit.intOf c).toNat)
    case atStart=>exact ⟨0,by omega,rfl,hid (kR _ _)⟩
    case round =>
     obtain ⟨kk,hk,rfl,HR⟩:=hrel;have bA3:=(HW.out.1.kept HR.out (fun h=>h)).cell 3;have bB3:=(HW.out.2.1.kept HR.out (fun h=>h)).cell 3;simp only [gt,gz,gs] at bA3 bB3;have HKW:=hid (HW.out.2.2.trans' HR.out)
     by_cases hkn:kk < nl
     ·have hkn':(kk:Int) < (nl:Int):=by omega
      have hk0:(0:Int)<=(kk:Int):=by omega
      have e1:IntKind.i64.wrap ((kk:Int)+1)=(kk:Int)+1:=IntWalk.i64_in _ (by omega);obtain ⟨x,hx⟩:∃ v,a.kids[kk]? = some v:=⟨a.kids[kk]'(by rw [HL.out.1];exact hkn),ge _⟩
      obtain ⟨y,hy⟩:∃ v,b.kids[kk]? = some v:=⟨b.kids[kk]'(by rw [HL.out.2.1];exact hkn),ge _⟩
      obtain ⟨b1,off1,cap1,ks1,ds1,q1,hc1,_,hvx,x0,x1,x2,x3,x4,x5⟩:=(HKA.out.1.keep HKW.out (fun _ _ _ h=>h)).six hx;obtain ⟨b2,off2,cap2,ks2,ds2,q2,hc2,_,hvy,y0,y1,y2,y3,y4,y5⟩:=(HKA.out.2.keep HKW.out (fun _ _ _ h=>h)).six hy;injection q1 with q1 _ q1'
      injection q2 with q2 _ q2'
      subst q1 q1' q2 q2';have HX:=hid (aI hx (aI hy (aI hvx hvy)));clear hx hy hvx hvy hc1 hc2;go_wp2;refine wp_region_tail 10 (by kernel_rfl) (by kernel_rfl) (fun K hK => ?_);simp only [List.take_succ_cons,List.take_zero,List.drop_succ_cons,List.drop_zero] at hK ⊢
      repeat still_step
      refine wpStill_nil (hK _ ?_);clear hK K;go_wp2_with (go_at_call 17;go_must (refine (HI.out x (gm HX.out.1) y _ _ _ HX.out.2.2.1.drew HX.out.2.2.2.drew).mono ?_;rintro e w1 ⟨rfl | ⟨rfl,hb⟩,hk1⟩;all_goals have H1:=hid (((kR Nope wr).drew).trans' hk1);clear hk1))
      ·go_roundw
       case rel=>exact ⟨kk+1,by omega,by go_num,hid (HR.out.trans' H1.out)⟩
       case measure=>simp [RowKit.intOf];omega
      ·go_ret;exact ⟨.inr ⟨rfl,fun h=>hb (xna h HK.out HX.out.1 HX.out.2.1)⟩,HKW.out.trans' H1.out⟩
     ·obtain rfl:kk=nl:=by omega
      have hlt:¬ (kk:Int) < (kk:Int):=by omega
      go_wp2;go_ret;exact ⟨.inl rfl,HKW.out⟩
   ·have e2':((0:Int) != (nd:Int))=true:=by simp;omega
    have e2'':¬ (nd:Int)=1\/(nd:Int)=1:=by omega
    clear e2'';go_enter func17,ntmps17;go_wp2;go_quiet (fail);go_wp2;go_ret;exact ⟨.inr ⟨rfl,fun h=>by have:=(HNO.out h).2.2;have h2:=HL.out.2.2.1;rw [this] at h2;simp at h2;omega⟩,(((kR _ _).alloc _).alloc _).drewN _⟩
  ·have e1':((nl:Int) != (nb:Int))=true:=by simp;omega
   go_enter func17,ntmps17;go_wp2;go_quiet (fail);go_wp2;go_ret;exact ⟨.inr ⟨rfl,fun h=>e1 (by have:=(HNO.out h).2.1;have h1:=HL.out.1;have h2:=HL.out.2.1;omega)⟩,(((kR _ _).alloc _).alloc _).drewN _⟩
 ·have e0'':((21:Int) != kk)=true:=by simpa using fun e=>e0 (Eq.symm e)
  go_enter func17,ntmps17;go_wp2;go_quiet (fail);go_wp2;go_ret;exact ⟨.inr ⟨rfl,fun h=>e0 (by have:=(HNO.out h).1;have h1:=HK.out;have h2:=HL.out.2.2.2;omega)⟩,(((kR _ _).alloc _).alloc _).drewN _⟩
theorem xkp {a b:V} {w:World} {xa xb:Value} (ha:VAgg Any_ w xa a) (hb:VAgg Any_ w xb b) (h:Same a b):Calls prog 15 #[xa,xb] w fun e w'=>e = .returned (.bool true)/\Kept Nope w w' :=
 (xcU a b w xa xb ha hb).mono fun e w' hh=>by
  rcases hh with ⟨⟨e1,_⟩ | ⟨_,h1⟩,hk⟩
  ·exact ⟨e1,hk⟩
  ·exact absurd h h1
theorem xkq {a b:V} {w:World} {xa xb:Value} (ha:VAgg Any_ w xa a) (hb:VAgg Any_ w xb b) (h:¬ Same a b):Calls prog 15 #[xa,xb] w fun e w'=>e = .returned (.bool false)/\Kept Nope w w' :=
 (xcU a b w xa xb ha hb).mono fun e w' hh=>by
  rcases hh with ⟨⟨_,h1⟩ | ⟨e1,_⟩,hk⟩
  ·exact absurd h1 h
  ·exact ⟨e1,hk⟩
theorem AskF.b {P:Prop} {w w':World} {e:Ending} (h:AskF P w e w'):∃ b,e = .returned (.bool b)/\(b=false->P)/\Kept Nope w w':=by
 rcases h with ⟨rfl | ⟨rfl,h⟩,hk⟩
 ·exact ⟨true,rfl,(fun h=>nomatch h),hk⟩
 ·exact ⟨false,rfl,fun _=>h,hk⟩
theorem xim (a b:V) (w:World) (xa xb:Value) (ha:VAgg Any_ w xa a) (hb:VAgg Any_ w xb b) (h1:a.kind=22) (hnd:a.desc=[]) (hlm:a.kids.length<=1000) (ih:xnW a) :
  Calls prog 17 #[xa,xb] w (AskF (¬ xao a b) w):=by
 obtain ⟨ka,da,rfl,hna,hka,hda⟩:=ha;obtain ⟨kb,db,rfl,hnb,hkb,hdb⟩:=hb;have HKA:=hid (aI hka hkb);have HI:=hid ih;obtain ⟨p1,c1,rfl,q1,m1⟩:=hka.form;obtain ⟨p2,c2,rfl,q2,m2⟩:=hkb.form;obtain ⟨p3,c3,rfl,q3,m3⟩:=hda.form;obtain ⟨p4,c4,rfl,q4,m4⟩:=hdb.form;clear hna hnb hka hkb hda hdb ih q1 q2 q3 q4 m1 m2 m3 m4;unfold vagg;have hd0:a.desc.length=0:=by rw [hnd];rfl
 have HNO:=hid (fun h:xao a b=>xha h (.inr h1));have HK:=hid h1;rw [hd0,h1];clear hd0 hnd h1;obtain ⟨nl,hnl⟩:∃ m,a.kids.length=m:=⟨_,rfl⟩
 obtain ⟨nb,hnb⟩:∃ m,b.kids.length=m:=⟨_,rfl⟩
 obtain ⟨nd,hnd⟩:∃ m,b.desc.length=m:=⟨_,rfl⟩
 obtain ⟨kk,hkk⟩:∃ m,b.kind=m:=⟨_,rfl⟩
 rw [hnl] at hlm ⊢;rw [hnb,hnd,hkk];have HL:=hid (aI hnl (aI hnb (aI hnd hkk)));clear hnl hnb hnd hkk
 by_cases e0:kk=22
 ·subst e0
  by_cases e1:nl=nb
  ·subst e1
   rcases Nat.eq_zero_or_pos nd with e2 | e2
   ·subst e2;go_enter func17,ntmps17;go_wp2;go_quiet (fail);go_wp2;have HT:=Blk.two w #[Value.int .i64 22,.int .u64 a.num,.string a.text,.slice p1 nl c1,.int .i64 a.of_,.slice p3 0 c3] #[Value.int .i64 22,.int .u64 b.num,.string b.text,.slice p2 nl c2,.int .i64 b.of_,.slice p4 0 c4] 25;generalize (w.alloc (.cells #[Value.int .i64 22,.int .u64 a.num,.string a.text,.slice p1 nl c1,.int .i64 a.of_,.slice p3 0 c3] 25)).alloc (.cells #[Value.int .i64 22,.int .u64 b.num,.string b.text,.slice p2 nl c2,.int .i64 b.of_,.slice p4 0 c4] 25)=W2 at HT ⊢;generalize w.heap.size+1=B at HT ⊢;generalize w.heap.size=A at HT ⊢;have HT2:=aI (HT.1.drewN nq) (aI (HT.2.1.drewN nq) (HT.2.2.drewN nq));generalize W2.drewN nq=W3 at HT2 ⊢;have HW:=hid HT2;clear HT HT2
    go_loopw [6] (fun c w'=>∃ ii:Nat,2*ii<=nl+1/\c = .int .i64 (2*(ii:Int))/\Hid (Kept Nope W3 w')) (fun c _=>nl+1 - (RowKit.intOf c).toNat)
    case atStart=>exact ⟨0,by omega,rfl,hid (kR _ _)⟩
    case round =>
     obtain ⟨ii,hk,rfl,HR⟩:=hrel;have bA3:=(HW.out.1.kept HR.out (fun h=>h)).cell 3;have bB3:=(HW.out.2.1.kept HR.out (fun h=>h)).cell 3;simp only [gt,gz,gs] at bA3 bB3;have HKW:=hid (HW.out.2.2.trans' HR.out);have e1:IntKind.i64.wrap (2*(ii:Int)+1)=2*(ii:Int)+1:=IntWalk.i64_in _ (by omega);have e2:IntKind.i64.wrap (2*(ii:Int)+2)=2*(ii:Int)+2:=IntWalk.i64_in _ (by omega)
     by_cases hkn:2*ii+1 < nl
     ·have hkn':2*(ii:Int)+1 < (nl:Int):=by omega
      obtain ⟨u,hu⟩:∃ v,a.kids[2*ii]? = some v:=⟨a.kids[2*ii]'(by rw [HL.out.1];omega),ge _⟩
      obtain ⟨v,hv⟩:∃ v,a.kids[2*ii+1]? = some v:=⟨a.kids[2*ii+1]'(by rw [HL.out.1];omega),ge _⟩
      have HU:=hid (aI hu hv);clear hu hv;go_wp2;obtain ⟨wo,rfl⟩:∃ wo:World,wo=wr:=⟨_,rfl⟩
      go_loopw [7,8] (fun g c w'=>∃ (f:Bool) (jj:Nat),2*jj<=nl+1/\g = .bool f/\c = .int .i64 (2*(jj:Int))/\Hid (Kept Nope wo w'/\(f=false->∀ (j:Nat) (x y:V),j < jj->b.kids[2*j]? = some x->b.kids[2*j+1]? = some y->¬ (Same u x/\xao v y)))) (fun _ c _=>nl+1 - (RowKit.intOf c).toNat)
      case atStart=>exact ⟨false,0,by omega,rfl,rfl,hid ⟨kR _ _,fun _ j x y hj=>by omega⟩⟩
      case round =>
       obtain ⟨f,jj,hj,rfl,rfl,HQ⟩:=hrel;have bA3':wr.cell? ⟨A,3,none⟩=some (Value.slice p1 nl c1):=HQ.out.1.cell bA3 (fun h=>h);have bB3':wr.cell? ⟨B,3,none⟩=some (Value.slice p2 nl c2):=HQ.out.1.cell bB3 (fun h=>h);have g1:IntKind.i64.wrap (2*(jj:Int)+1)=2*(jj:Int)+1:=IntWalk.i64_in _ (by omega);have g2:IntKind.i64.wrap (2*(jj:Int)+2)=2*(jj:Int)+2:=IntWalk.i64_in _ (by omega);have HKQ:=hid (HKW.out.trans' HQ.out.1)
       by_cases hjn:2*jj+1 < nl
       ·have hjn':2*(jj:Int)+1 < (nl:Int):=by omega
        obtain ⟨x,hx⟩:∃ v,b.kids[2*jj]? = some v:=⟨b.kids[2*jj]'(by rw [HL.out.2.1];omega),ge _⟩
        obtain ⟨y,hy⟩:∃ v,b.kids[2*jj+1]? = some v:=⟨b.kids[2*jj+1]'(by rw [HL.out.2.1];omega),ge _⟩
        have HY:=hid (aI hx hy);clear hx hy;cases f
        ·obtain ⟨b1,off1,cap1,ks1,ds1,q1,hc1,_,hvu,u0,u1,u2,u3,u4,u5⟩:=(HKA.out.1.keep HKQ.out (fun _ _ _ h=>h)).six HU.out.1;obtain ⟨b1',off1',cap1',ks2,ds2,q1',hc1',_,hvv,v0,v1,v2,v3,v4,v5⟩:=(HKA.out.1.keep HKQ.out (fun _ _ _ h=>h)).six HU.out.2;obtain ⟨b2,off2,cap2,ks3,ds3,q2,hc2,_,hvx,x0,x1,x2,x3,x4,x5⟩:=(HKA.out.2.keep HKQ.out (fun _ _ _ h=>h)).six HY.out.1;obtain ⟨b2',off2',cap2',ks4,ds4,q2',hc2',_,hvy,y0,y1,y2,y3,y4,y5⟩:=(HKA.out.2.keep HKQ.out (fun _ _ _ h=>h)).six HY.out.2;injection q1 with q1 _ r1
         injection q2 with q2 _ r2
         subst q1 r1 q2 r2;injection q1' with q1' _ r1'
         injection q2' with q2' _ r2'
         injection q1' with q1'
         injection q2' with q2'
         injection q1' with q3 q4
         injection q2' with q5 q6
         subst q3 q4 q5 q6 r1' r2';have HX:=hid (aI (aI hvu hvv) (aI hvx hvy));clear hvu hvv hvx hvy hc1 hc1' hc2 hc2';have t1:(2*(ii:Int)).toNat=2*ii:=by omega
         have t2:(2*(ii:Int)+1).toNat=2*ii+1:=by omega
         have t3:(2*(jj:Int)).toNat=2*jj:=by omega
         have t4:(2*(jj:Int)+1).toNat=2*jj+1:=by omega
         have z1:(0:Int)<=2*(ii:Int):=by omega
         have z2:(0:Int)<=2*(jj:Int):=by omega
         have z3:2*(ii:Int) < (nl:Int):=by omega
         have z4:2*(jj:Int) < (nl:Int):=by omega
         have z5:(0:Int)<=2*(ii:Int)+1:=by omega
         have z6:(0:Int)<=2*(jj:Int)+1:=by omega
         have HM:Hid (∀ w',Kept Nope wr w'->(Kept Nope wr w'/\w'.cell? ⟨A,3,none⟩=some (Value.slice (some ⟨b1,off1,none⟩) nl c1)/\w'.cell? ⟨B,3,none⟩=some (Value.slice (some ⟨b2,off2,none⟩) nl c2)/\w'.cell? ⟨b1,off1+2*ii*6,none⟩=some (.int .i64 u.kind)/\w'.cell? ⟨b1,off1+2*ii*6+1,none⟩=some (.int .u64 u.num)/\w'.cell? ⟨b1,off1+2*ii*6+2,none⟩=some (.string u.text)/\w'.cell? ⟨b1,off1+2*ii*6+3,none⟩=some (ks1)/\w'.cell? ⟨b1,off1+2*ii*6+4,none⟩=some (.int .i64 u.of_)/\w'.cell? ⟨b1,off1+2*ii*6+5,none⟩=some (ds1)/\w'.cell? ⟨b1,off1+(2*ii+1)*6,none⟩=some (.int .i64 v.kind)/\w'.cell? ⟨b1,off1+(2*ii+1)*6+1,none⟩=some (.int .u64 v.num)/\w'.cell? ⟨b1,off1+(2*ii+1)*6+2,none⟩=some (.string v.text)/\w'.cell? ⟨b1,off1+(2*ii+1)*6+3,none⟩=some (ks2)/\w'.cell? ⟨b1,off1+(2*ii+1)*6+4,none⟩=some (.int .i64 v.of_)/\w'.cell? ⟨b1,off1+(2*ii+1)*6+5,none⟩=some (ds2)/\w'.cell? ⟨b2,off2+2*jj*6,none⟩=some (.int .i64 x.kind)/\w'.cell? ⟨b2,off2+2*jj*6+1,none⟩=some (.int .u64 x.num)/\w'.cell? ⟨b2,off2+2*jj*6+2,none⟩=some (.string x.text)/\w'.cell? ⟨b2,off2+2*jj*6+3,none⟩=some (ks3)/\w'.cell? ⟨b2,off2+2*jj*6+4,none⟩=some (.int .i64 x.of_)/\w'.cell? ⟨b2,off2+2*jj*6+5,none⟩=some (ds3)/\w'.cell? ⟨b2,off2+(2*jj+1)*6,none⟩=some (.int .i64 y.kind)/\w'.cell? ⟨b2,off2+(2*jj+1)*6+1,none⟩=some (.int .u64 y.num)/\w'.cell? ⟨b2,off2+(2*jj+1)*6+2,none⟩=some (.string y.text)/\w'.cell? ⟨b2,off2+(2*jj+1)*6+3,none⟩=some (ks4)/\w'.cell? ⟨b2,off2+(2*jj+1)*6+4,none⟩=some (.int .i64 y.of_)/\w'.cell? ⟨b2,off2+(2*jj+1)*6+5,none⟩=some (ds4))):=hid fun w' hk=>⟨hk,hk.cell bA3' (fun h=>h),hk.cell bB3' (fun h=>h),hk.cell u0 (fun h=>h),hk.cell u1 (fun h=>h),hk.cell u2 (fun h=>h),hk.cell u3 (fun h=>h),hk.cell u4 (fun h=>h),hk.cell u5 (fun h=>h),hk.cell v0 (fun h=>h),hk.cell v1 (fun h=>h),hk.cell v2 (fun h=>h),hk.cell v3 (fun h=>h),hk.cell v4 (fun h=>h),hk.cell v5 (fun h=>h),hk.cell x0 (fun h=>h),hk.cell x1 (fun h=>h),hk.cell x2 (fun h=>h),hk.cell x3 (fun h=>h),hk.cell x4 (fun h=>h),hk.cell x5 (fun h=>h),hk.cell y0 (fun h=>h),hk.cell y1 (fun h=>h),hk.cell y2 (fun h=>h),hk.cell y3 (fun h=>h),hk.cell y4 (fun h=>h),hk.cell y5 (fun h=>h)⟩
         by_cases hsm:Same u x
         ·have HS:=hid hsm;clear hsm;go_wp2
          go_region_held3 (fun w'=>Kept Nope wr w'/\w'.cell? ⟨A,3,none⟩=some (Value.slice (some ⟨b1,off1,none⟩) nl c1)/\w'.cell? ⟨B,3,none⟩=some (Value.slice (some ⟨b2,off2,none⟩) nl c2)/\w'.cell? ⟨b1,off1+2*ii*6,none⟩=some (.int .i64 u.kind)/\w'.cell? ⟨b1,off1+2*ii*6+1,none⟩=some (.int .u64 u.num)/\w'.cell? ⟨b1,off1+2*ii*6+2,none⟩=some (.string u.text)/\w'.cell? ⟨b1,off1+2*ii*6+3,none⟩=some (ks1)/\w'.cell? ⟨b1,off1+2*ii*6+4,none⟩=some (.int .i64 u.of_)/\w'.cell? ⟨b1,off1+2*ii*6+5,none⟩=some (ds1)/\w'.cell? ⟨b1,off1+(2*ii+1)*6,none⟩=some (.int .i64 v.kind)/\w'.cell? ⟨b1,off1+(2*ii+1)*6+1,none⟩=some (.int .u64 v.num)/\w'.cell? ⟨b1,off1+(2*ii+1)*6+2,none⟩=some (.string v.text)/\w'.cell? ⟨b1,off1+(2*ii+1)*6+3,none⟩=some (ks2)/\w'.cell? ⟨b1,off1+(2*ii+1)*6+4,none⟩=some (.int .i64 v.of_)/\w'.cell? ⟨b1,off1+(2*ii+1)*6+5,none⟩=some (ds2)/\w'.cell? ⟨b2,off2+2*jj*6,none⟩=some (.int .i64 x.kind)/\w'.cell? ⟨b2,off2+2*jj*6+1,none⟩=some (.int .u64 x.num)/\w'.cell? ⟨b2,off2+2*jj*6+2,none⟩=some (.string x.text)/\w'.cell? ⟨b2,off2+2*jj*6+3,none⟩=some (ks3)/\w'.cell? ⟨b2,off2+2*jj*6+4,none⟩=some (.int .i64 x.of_)/\w'.cell? ⟨b2,off2+2*jj*6+5,none⟩=some (ds3)/\w'.cell? ⟨b2,off2+(2*jj+1)*6,none⟩=some (.int .i64 y.kind)/\w'.cell? ⟨b2,off2+(2*jj+1)*6+1,none⟩=some (.int .u64 y.num)/\w'.cell? ⟨b2,off2+(2*jj+1)*6+2,none⟩=some (.string y.text)/\w'.cell? ⟨b2,off2+(2*jj+1)*6+3,none⟩=some (ks4)/\w'.cell? ⟨b2,off2+(2*jj+1)*6+4,none⟩=some (.int .i64 y.of_)/\w'.cell? ⟨b2,off2+(2*jj+1)*6+5,none⟩=some (ds4)) (first | exact HM.out _ ((kR Nope wr).drew) | exact HM.out _ (Kept.trans' (‹Kept Nope wr _/\_›).1 ‹Kept Nope _ _›)) (first | (go_at_call 15;refine (xkp (HX.out.1.1.keep (‹Kept Nope wr _/\_›).1 (fun _ _ _ h=>h)) (HX.out.2.1.keep (‹Kept Nope wr _/\_›).1 (fun _ _ _ h=>h)) HS.out).mono ?_;rintro e w1 ⟨rfl,hk1⟩) | (go_at_call 17;refine ((HI.out v (gm HU.out.2) y _ _ _ (HX.out.1.2.keep (‹Kept Nope wr _/\_›).1 (fun _ _ _ h=>h)) (HX.out.2.2.keep (‹Kept Nope wr _/\_›).1 (fun _ _ _ h=>h))).mono fun _ _=>AskF.b).mono ?_;rintro e w2 ⟨bb,rfl,hbb,hk2⟩;have HBB:=hid hbb;clear hbb))
          have hkk:=hid (((kR Nope wr).drew.trans' hk1).trans' hk2);go_wp2;go_roundw
          case rel =>
           refine ⟨bb,jj+1,by omega,rfl,by go_num,hid ⟨HQ.out.1.trans' hkk.out,fun e j x' y' hj' hx' hy' => ?_⟩⟩
           rcases Nat.lt_or_ge j jj with hlt | hge
           ·exact HQ.out.2 trivial j x' y' hlt hx' hy'
           ·obtain rfl:j=jj:=by omega
            have h1:=HY.out.1;have h2:=HY.out.2;rw [hx'] at h1;rw [hy'] at h2;cases h1;cases h2;exact fun hh=>HBB.out e hh.2
          case measure=>simp [RowKit.intOf];omega
         ·have HS:=hid hsm;clear hsm;go_wp2;refine wp_region_held_drew (S:=(fun w'=>Kept Nope wr w'/\w'.cell? ⟨A,3,none⟩=some (Value.slice (some ⟨b1,off1,none⟩) nl c1)/\w'.cell? ⟨B,3,none⟩=some (Value.slice (some ⟨b2,off2,none⟩) nl c2)/\w'.cell? ⟨b1,off1+2*ii*6,none⟩=some (.int .i64 u.kind)/\w'.cell? ⟨b1,off1+2*ii*6+1,none⟩=some (.int .u64 u.num)/\w'.cell? ⟨b1,off1+2*ii*6+2,none⟩=some (.string u.text)/\w'.cell? ⟨b1,off1+2*ii*6+3,none⟩=some (ks1)/\w'.cell? ⟨b1,off1+2*ii*6+4,none⟩=some (.int .i64 u.of_)/\w'.cell? ⟨b1,off1+2*ii*6+5,none⟩=some (ds1)/\w'.cell? ⟨b1,off1+(2*ii+1)*6,none⟩=some (.int .i64 v.kind)/\w'.cell? ⟨b1,off1+(2*ii+1)*6+1,none⟩=some (.int .u64 v.num)/\w'.cell? ⟨b1,off1+(2*ii+1)*6+2,none⟩=some (.string v.text)/\w'.cell? ⟨b1,off1+(2*ii+1)*6+3,none⟩=some (ks2)/\w'.cell? ⟨b1,off1+(2*ii+1)*6+4,none⟩=some (.int .i64 v.of_)/\w'.cell? ⟨b1,off1+(2*ii+1)*6+5,none⟩=some (ds2)/\w'.cell? ⟨b2,off2+2*jj*6,none⟩=some (.int .i64 x.kind)/\w'.cell? ⟨b2,off2+2*jj*6+1,none⟩=some (.int .u64 x.num)/\w'.cell? ⟨b2,off2+2*jj*6+2,none⟩=some (.string x.text)/\w'.cell? ⟨b2,off2+2*jj*6+3,none⟩=some (ks3)/\w'.cell? ⟨b2,off2+2*jj*6+4,none⟩=some (.int .i64 x.of_)/\w'.cell? ⟨b2,off2+2*jj*6+5,none⟩=some (ds3)/\w'.cell? ⟨b2,off2+(2*jj+1)*6,none⟩=some (.int .i64 y.kind)/\w'.cell? ⟨b2,off2+(2*jj+1)*6+1,none⟩=some (.int .u64 y.num)/\w'.cell? ⟨b2,off2+(2*jj+1)*6+2,none⟩=some (.string y.text)/\w'.cell? ⟨b2,off2+(2*jj+1)*6+3,none⟩=some (ks4)/\w'.cell? ⟨b2,off2+(2*jj+1)*6+4,none⟩=some (.int .i64 y.of_)/\w'.cell? ⟨b2,off2+(2*jj+1)*6+5,none⟩=some (ds4))) (by kernel_rfl) (HM.out _ ((kR Nope wr).drew)) (fun hS => ?_);refine wpAnyH_take (i:=0) (oi:=?oi0) (v:=?v0) ?hi0 (by kernel_rfl) (by kernel_rfl) (by kernel_rfl) ?hq0 (Or.inl ⟨?hw0,?hy0⟩) (by assumption) ?hr0
          case hi0=>(simp only [gt,gz];rfl)
          case hq0=>exact fun _ _ _ h=>h
          case hw0=>rfl
          case hy0=>(intro w hSw;(try dsimp only at hSw);go_simp;(try with_reducible rfl))
          try simp only [Act.put,List.setIfInBounds_toArray,List.set_cons_zero,List.set_cons_succ]
          refine wpAnyH_take (i:=1) (oi:=?oi1) (v:=?v1) ?hi1 (by kernel_rfl) (by kernel_rfl) (by kernel_rfl) ?hq1 (Or.inl ⟨?hw1,?hy1⟩) (by assumption) ?hr1
          case hi1=>(simp only [gt,gs,gz];rfl)
          case hq1=>exact fun _ _ _ h=>h
          case hw1=>rfl
          case hy1=>(intro w hSw;(try dsimp only at hSw);go_simp;(try with_reducible rfl))
          try simp only [Act.put,List.setIfInBounds_toArray,List.set_cons_zero,List.set_cons_succ]
          refine wpAnyH_take (i:=2) (oi:=?oi2) (v:=?v2) ?hi2 (by kernel_rfl) (by kernel_rfl) (by kernel_rfl) ?hq2 (Or.inl ⟨?hw2,?hy2⟩) (by assumption) ?hr2
          case hi2=>(simp only [gt,gs,gz];rfl)
          case hq2=>exact fun _ _ _ h=>h
          case hw2=>rfl
          case hy2=>(intro w hSw;(try dsimp only at hSw);go_simp;(try with_reducible rfl))
          try simp only [Act.put,List.setIfInBounds_toArray,List.set_cons_zero,List.set_cons_succ]
          refine wpAnyH_take (i:=3) (oi:=?oi3) (v:=?v3) ?hi3 (by kernel_rfl) (by kernel_rfl) (by kernel_rfl) ?hq3 (Or.inl ⟨?hw3,?hy3⟩) (by assumption) ?hr3
          case hi3=>(simp only [gt,gs,gz];rfl)
          case hq3=>exact fun _ _ _ h=>h
          case hw3=>rfl
          case hy3=>(intro w hSw;(try dsimp only at hSw);go_simp;(try with_reducible rfl))
          try simp only [Act.put,List.setIfInBounds_toArray,List.set_cons_zero,List.set_cons_succ]
          refine wpAnyH_take (i:=4) (oi:=?oi4) (v:=?v4) ?hi4 (by kernel_rfl) (by kernel_rfl) (by kernel_rfl) ?hq4 (Or.inl ⟨?hw4,?hy4⟩) (by assumption) ?hr4
          case hi4=>(simp only [gt,gs,gz];rfl)
          case hq4=>exact fun _ _ _ h=>h
          case hw4=>rfl
          case hy4=>(intro w hSw;(try dsimp only at hSw);go_simp;(try with_reducible rfl))
          try simp only [Act.put,List.setIfInBounds_toArray,List.set_cons_zero,List.set_cons_succ]
          refine wpAnyH_take (i:=5) (oi:=?oi5) (v:=?v5) ?hi5 (by kernel_rfl) (by kernel_rfl) (by kernel_rfl) ?hq5 (Or.inl ⟨?hw5,?hy5⟩) (by assumption) ?hr5
          case hi5=>(simp only [gt,gs,gz];rfl)
          case hq5=>exact fun _ _ _ h=>h
          case hw5=>rfl
          case hy5=>(intro w hSw;(try dsimp only at hSw);go_simp;(try with_reducible rfl))
          try simp only [Act.put,List.setIfInBounds_toArray,List.set_cons_zero,List.set_cons_succ]
          refine wpAnyH_take (i:=6) (oi:=?oi6) (v:=?v6) ?hi6 (by kernel_rfl) (by kernel_rfl) (by kernel_rfl) ?hq6 (Or.inl ⟨?hw6,?hy6⟩) (by assumption) ?hr6
          case hi6=>(simp only [gt,gs,gz];rfl)
          case hq6=>exact fun _ _ _ h=>h
          case hw6=>rfl
          case hy6=>(intro w hSw;(try dsimp only at hSw);go_simp;(try with_reducible rfl))
          try simp only [Act.put,List.setIfInBounds_toArray,List.set_cons_zero,List.set_cons_succ]
          refine wpAnyH_take (i:=7) (oi:=?oi7) (v:=?v7) ?hi7 (by kernel_rfl) (by kernel_rfl) (by kernel_rfl) ?hq7 (Or.inl ⟨?hw7,?hy7⟩) (by assumption) ?hr7
          case hi7=>(simp only [gt,gs,gz];rfl)
          case hq7=>exact fun _ _ _ h=>h
          case hw7=>rfl
          case hy7=>(intro w hSw;(try dsimp only at hSw);go_simp;(try with_reducible rfl))
          try simp only [Act.put,List.setIfInBounds_toArray,List.set_cons_zero,List.set_cons_succ]
          refine wpAnyH_take (i:=8) (oi:=?oi8) (v:=?v8) ?hi8 (by kernel_rfl) (by kernel_rfl) (by kernel_rfl) ?hq8 (Or.inl ⟨?hw8,?hy8⟩) (by assumption) ?hr8
          case hi8=>(simp only [gt,gs,gz];rfl)
          case hq8=>exact fun _ _ _ h=>h
          case hw8=>rfl
          case hy8=>(intro w hSw;(try dsimp only at hSw);go_simp;(try with_reducible rfl))
          try simp only [Act.put,List.setIfInBounds_toArray,List.set_cons_zero,List.set_cons_succ]
          refine wpAnyH_take (i:=9) (oi:=?oi9) (v:=?v9) ?hi9 (by kernel_rfl) (by kernel_rfl) (by kernel_rfl) ?hq9 (Or.inl ⟨?hw9,?hy9⟩) (by assumption) ?hr9
          case hi9=>(simp only [gt,gs,gz];rfl)
          case hq9=>exact fun _ _ _ h=>h
          case hw9=>rfl
          case hy9=>(intro w hSw;(try dsimp only at hSw);go_simp;(try with_reducible rfl))
          try simp only [Act.put,List.setIfInBounds_toArray,List.set_cons_zero,List.set_cons_succ]
          refine wpAnyH_take (i:=10) (oi:=?oi10) (v:=?v10) ?hi10 (by kernel_rfl) (by kernel_rfl) (by kernel_rfl) ?hq10 (Or.inl ⟨?hw10,?hy10⟩) (by assumption) ?hr10
          case hi10=>(simp only [gt,gs,gz];rfl)
          case hq10=>exact fun _ _ _ h=>h
          case hw10=>rfl
          case hy10=>(intro w hSw;(try dsimp only at hSw);go_simp;(try with_reducible rfl))
          try simp only [Act.put,List.setIfInBounds_toArray,List.set_cons_zero,List.set_cons_succ]
          refine wpAnyH_take (i:=11) (oi:=?oi11) (v:=?v11) ?hi11 (by kernel_rfl) (by kernel_rfl) (by kernel_rfl) ?hq11 (Or.inl ⟨?hw11,?hy11⟩) (by assumption) ?hr11
          case hi11=>(simp only [gt,gs,gz];rfl)
          case hq11=>exact fun _ _ _ h=>h
          case hw11=>rfl
          case hy11=>(intro w hSw;(try dsimp only at hSw);go_simp;(try with_reducible rfl))
          try simp only [Act.put,List.setIfInBounds_toArray,List.set_cons_zero,List.set_cons_succ]
          refine wpAnyH_ready (rs:=[12]) (by kernel_rfl) (by simp) ?_;refine AllReadyH.cons (o:=?oi12) ?hi12 (fun K hK => ?_) AllReadyH.nil
          case hi12=>(simp only [gt,gs,gz];rfl)
          go_simp;refine (xkq (HX.out.1.1.keep (‹Kept Nope wr _/\_›).1 (fun _ _ _ h=>h)) (HX.out.2.1.keep (‹Kept Nope wr _/\_›).1 (fun _ _ _ h=>h)) HS.out).mono ?_;rintro e w1 ⟨rfl,hk1⟩;refine hK.out _ _ (HM.out _ (Kept.trans' ((kR Nope wr).drew) hk1)) (fun hS2 => ?_);clear hK K hS
          try simp only [Act.put,List.setIfInBounds_toArray,List.set_cons_zero,List.set_cons_succ]
          refine wpAnyH_take (i:=13) (oi:=?oi13) (v:=?v13) ?hi13 (by kernel_rfl) (by kernel_rfl) (by kernel_rfl) ?hq13 (Or.inl ⟨?hw13,?hy13⟩) (by assumption) ?hr13
          case hi13=>(simp only [gt,gs,gz];rfl)
          case hq13=>exact fun _ _ _ h=>h
          case hw13=>rfl
          case hy13=>(intro w hSw;(try dsimp only at hSw);go_simp;(try with_reducible rfl))
          try simp only [Act.put,List.setIfInBounds_toArray,List.set_cons_zero,List.set_cons_succ]
          refine wpAnyH_take (i:=14) (oi:=?oi14) (v:=undef) ?hi14 (by kernel_rfl) (by kernel_rfl) (by kernel_rfl) ?hq14 (Or.inr ⟨?hw14,rfl⟩) (by assumption) ?hr14
          case hi14=>(simp only [gt,gs,gz];rfl)
          case hq14=>exact fun _ _ _ h=>h
          case hw14=>rfl
          try simp only [Act.put,List.setIfInBounds_toArray,List.set_cons_zero,List.set_cons_succ]
          refine wpAnyH_take (i:=15) (oi:=?oi15) (v:=undef) ?hi15 (by kernel_rfl) (by kernel_rfl) (by kernel_rfl) ?hq15 (Or.inr ⟨?hw15,rfl⟩) (by assumption) ?hr15
          case hi15=>(simp only [gt,gs,gz];rfl)
          case hq15=>exact fun _ _ _ h=>h
          case hw15=>rfl
          try simp only [Act.put,List.setIfInBounds_toArray,List.set_cons_zero,List.set_cons_succ]
          refine wpAnyH_take (i:=16) (oi:=?oi16) (v:=undef) ?hi16 (by kernel_rfl) (by kernel_rfl) (by kernel_rfl) ?hq16 (Or.inr ⟨?hw16,rfl⟩) (by assumption) ?hr16
          case hi16=>(simp only [gt,gs,gz];rfl)
          case hq16=>exact fun _ _ _ h=>h
          case hw16=>rfl
          try simp only [Act.put,List.setIfInBounds_toArray,List.set_cons_zero,List.set_cons_succ]
          refine wpAnyH_take (i:=17) (oi:=?oi17) (v:=undef) ?hi17 (by kernel_rfl) (by kernel_rfl) (by kernel_rfl) ?hq17 (Or.inr ⟨?hw17,rfl⟩) (by assumption) ?hr17
          case hi17=>(simp only [gt,gs,gz];rfl)
          case hq17=>exact fun _ _ _ h=>h
          case hw17=>rfl
          try simp only [Act.put,List.setIfInBounds_toArray,List.set_cons_zero,List.set_cons_succ]
          refine wpAnyH_take (i:=18) (oi:=?oi18) (v:=undef) ?hi18 (by kernel_rfl) (by kernel_rfl) (by kernel_rfl) ?hq18 (Or.inr ⟨?hw18,rfl⟩) (by assumption) ?hr18
          case hi18=>(simp only [gt,gs,gz];rfl)
          case hq18=>exact fun _ _ _ h=>h
          case hw18=>rfl
          try simp only [Act.put,List.setIfInBounds_toArray,List.set_cons_zero,List.set_cons_succ]
          refine wpAnyH_take (i:=19) (oi:=?oi19) (v:=undef) ?hi19 (by kernel_rfl) (by kernel_rfl) (by kernel_rfl) ?hq19 (Or.inr ⟨?hw19,rfl⟩) (by assumption) ?hr19
          case hi19=>(simp only [gt,gs,gz];rfl)
          case hq19=>exact fun _ _ _ h=>h
          case hw19=>rfl
          try simp only [Act.put,List.setIfInBounds_toArray,List.set_cons_zero,List.set_cons_succ]
          refine wpAnyH_take (i:=20) (oi:=?oi20) (v:=undef) ?hi20 (by kernel_rfl) (by kernel_rfl) (by kernel_rfl) ?hq20 (Or.inr ⟨?hw20,rfl⟩) (by assumption) ?hr20
          case hi20=>(simp only [gt,gs,gz];rfl)
          case hq20=>exact fun _ _ _ h=>h
          case hw20=>rfl
          try simp only [Act.put,List.setIfInBounds_toArray,List.set_cons_zero,List.set_cons_succ]
          refine wpAnyH_take (i:=21) (oi:=?oi21) (v:=undef) ?hi21 (by kernel_rfl) (by kernel_rfl) (by kernel_rfl) ?hq21 (Or.inr ⟨?hw21,rfl⟩) (by assumption) ?hr21
          case hi21=>(simp only [gt,gs,gz];rfl)
          case hq21=>exact fun _ _ _ h=>h
          case hw21=>rfl
          try simp only [Act.put,List.setIfInBounds_toArray,List.set_cons_zero,List.set_cons_succ]
          refine wpAnyH_take (i:=22) (oi:=?oi22) (v:=undef) ?hi22 (by kernel_rfl) (by kernel_rfl) (by kernel_rfl) ?hq22 (Or.inr ⟨?hw22,rfl⟩) (by assumption) ?hr22
          case hi22=>(simp only [gt,gs,gz];rfl)
          case hq22=>exact fun _ _ _ h=>h
          case hw22=>rfl
          try simp only [Act.put,List.setIfInBounds_toArray,List.set_cons_zero,List.set_cons_succ]
          refine wpAnyH_take (i:=23) (oi:=?oi23) (v:=undef) ?hi23 (by kernel_rfl) (by kernel_rfl) (by kernel_rfl) ?hq23 (Or.inr ⟨?hw23,rfl⟩) (by assumption) ?hr23
          case hi23=>(simp only [gt,gs,gz];rfl)
          case hq23=>exact fun _ _ _ h=>h
          case hw23=>rfl
          try simp only [Act.put,List.setIfInBounds_toArray,List.set_cons_zero,List.set_cons_succ]
          refine wpAnyH_take (i:=24) (oi:=?oi24) (v:=undef) ?hi24 (by kernel_rfl) (by kernel_rfl) (by kernel_rfl) ?hq24 (Or.inr ⟨?hw24,rfl⟩) (by assumption) ?hr24
          case hi24=>(simp only [gt,gs,gz];rfl)
          case hq24=>exact fun _ _ _ h=>h
          case hw24=>rfl
          try simp only [Act.put,List.setIfInBounds_toArray,List.set_cons_zero,List.set_cons_succ]
          refine wpAnyH_take (i:=25) (oi:=?oi25) (v:=undef) ?hi25 (by kernel_rfl) (by kernel_rfl) (by kernel_rfl) ?hq25 (Or.inr ⟨?hw25,rfl⟩) (by assumption) ?hr25
          case hi25=>(simp only [gt,gs,gz];rfl)
          case hq25=>exact fun _ _ _ h=>h
          case hw25=>rfl
          try simp only [Act.put,List.setIfInBounds_toArray,List.set_cons_zero,List.set_cons_succ]
          refine wpAnyH_take (i:=26) (oi:=?oi26) (v:=undef) ?hi26 (by kernel_rfl) (by kernel_rfl) (by kernel_rfl) ?hq26 (Or.inr ⟨?hw26,rfl⟩) (by assumption) ?hr26
          case hi26=>(simp only [gt,gs,gz];rfl)
          case hq26=>exact fun _ _ _ h=>h
          case hw26=>rfl
          try simp only [Act.put,List.setIfInBounds_toArray,List.set_cons_zero,List.set_cons_succ]
          refine wpAnyH_take (i:=27) (oi:=?oi27) (v:=?v27) ?hi27 (by kernel_rfl) (by kernel_rfl) (by kernel_rfl) ?hq27 (Or.inl ⟨?hw27,?hy27⟩) (by assumption) ?hr27
          case hi27=>(simp only [gt,gs,gz];rfl)
          case hq27=>exact fun _ _ _ h=>h
          case hw27=>rfl
          case hy27=>(intro w hSw;(try dsimp only at hSw);go_simp;(try with_reducible rfl))
          try simp only [Act.put,List.setIfInBounds_toArray,List.set_cons_zero,List.set_cons_succ]
          refine wpAnyH_take (i:=28) (oi:=?oi28) (v:=?v28) ?hi28 (by kernel_rfl) (by kernel_rfl) (by kernel_rfl) ?hq28 (Or.inl ⟨?hw28,?hy28⟩) (by assumption) ?hr28
          case hi28=>(simp only [gt,gs,gz];rfl)
          case hq28=>exact fun _ _ _ h=>h
          case hw28=>rfl
          case hy28=>(intro w hSw;(try dsimp only at hSw);go_simp;(try with_reducible rfl))
          try simp only [Act.put,List.setIfInBounds_toArray,List.set_cons_zero,List.set_cons_succ]
          refine wpAnyH_take (i:=29) (oi:=?oi29) (v:=?v29) ?hi29 (by kernel_rfl) (by kernel_rfl) (by kernel_rfl) ?hq29 (Or.inl ⟨?hw29,?hy29⟩) (by assumption) ?hr29
          case hi29=>(simp only [gt,gs,gz];rfl)
          case hq29=>exact fun _ _ _ h=>h
          case hw29=>rfl
          case hy29=>(intro w hSw;(try dsimp only at hSw);go_simp;(try with_reducible rfl))
          try simp only [Act.put,List.setIfInBounds_toArray,List.set_cons_zero,List.set_cons_succ]
          refine wpAnyH_done (by kernel_rfl) ?_ _;have hkk:=hid (((kR Nope wr).drew.trans' hk1));clear hS2;go_wp2;go_roundw
          case rel =>
           refine ⟨false,jj+1,by omega,rfl,by go_num,hid ⟨HQ.out.1.trans' hkk.out,fun e j x' y' hj' hx' hy' => ?_⟩⟩
           rcases Nat.lt_or_ge j jj with hlt | hge
           ·exact HQ.out.2 trivial j x' y' hlt hx' hy'
           ·obtain rfl:j=jj:=by omega
            have h1:=HY.out.1;have h2:=HY.out.2;rw [hx'] at h1;rw [hy'] at h2;cases h1;cases h2;exact fun hh=>HS.out hh.1
          case measure=>simp [RowKit.intOf];omega
        ·go_wp2;go_quiet (fail);go_wp2;go_roundw
         case rel=>exact ⟨true,jj+1,by omega,rfl,by go_num,hid ⟨HQ.out.1.drewN _,fun h=>nomatch h⟩⟩
         case measure=>simp [RowKit.intOf];omega
       ·have hjn':¬ 2*(jj:Int)+1 < (nl:Int):=by omega
        cases f
        ·go_wp2;go_ret;refine ⟨.inr ⟨rfl,fun h => ?_⟩,HKQ.out⟩;obtain ⟨j,x',y',g1,g2,g3,g4⟩:=xmZ h HK.out HU.out.1 HU.out.2;exact HQ.out.2 trivial j x' y' (by have:=(gi.1 g2).1;have:=HL.out.2.1;omega) g1 g2 ⟨g3,g4⟩
        ·go_wp2;go_roundw
         case rel=>exact ⟨ii+1,by omega,by go_num,hid (HR.out.trans' HQ.out.1)⟩
         case measure=>simp [RowKit.intOf];omega
     ·have hkn':¬ 2*(ii:Int)+1 < (nl:Int):=by omega
      go_wp2;go_ret;exact ⟨.inl rfl,HKW.out⟩
   ·have e2':((0:Int) != (nd:Int))=true:=by simp;omega
    have e2'':¬ (nd:Int)=1\/(nd:Int)=1:=by omega
    clear e2'';go_enter func17,ntmps17;go_wp2;go_quiet (fail);go_wp2;go_ret;exact ⟨.inr ⟨rfl,fun h=>by have:=(HNO.out h).2.2;have h2:=HL.out.2.2.1;rw [this] at h2;simp at h2;omega⟩,(((kR _ _).alloc _).alloc _).drewN _⟩
  ·have e1':((nl:Int) != (nb:Int))=true:=by simp;omega
   go_enter func17,ntmps17;go_wp2;go_quiet (fail);go_wp2;go_ret;exact ⟨.inr ⟨rfl,fun h=>e1 (by have:=(HNO.out h).2.1;have h1:=HL.out.1;have h2:=HL.out.2.1;omega)⟩,(((kR _ _).alloc _).alloc _).drewN _⟩
 ·have e0'':((22:Int) != kk)=true:=by simpa using fun e=>e0 (Eq.symm e)
  go_enter func17,ntmps17;go_wp2;go_quiet (fail);go_wp2;go_ret;exact ⟨.inr ⟨rfl,fun h=>e0 (by have:=(HNO.out h).1;have h1:=HK.out;have h2:=HL.out.2.2.2;omega)⟩,(((kR _ _).alloc _).alloc _).drewN _⟩
theorem xin:∀ (n:Nat) (a:V),SizeOf.sizeOf a<=n->xdz a->∀ (b:V) (w:World) (xa xb:Value),VAgg Any_ w xa a->VAgg Any_ w xb b->Calls prog 17 #[xa,xb] w (AskF (¬ xao a b) w):=by
 intro n
 induction n using Nat.strongRecOn with
 | _ n ihn =>
  intro a hn hd b w xa xb ha hb
  have ih:xnW a:=fun k hk u W x y hx hy=>by
   have hs:=V.sizeOf_kid hk;exact ihn (SizeOf.sizeOf k) (by omega) k (Nat.le_refl _) (hd.kid hk) u W x y hx hy
  by_cases h1:a.kind=21
  ·exact xhz a b w xa xb ha hb h1 hd.desc ih
  ·by_cases h2:a.kind=22
   ·exact xim a b w xa xb ha hb h2 hd.desc hd.few ih
   ·exact xhA a b w xa xb ha hb h1 h2
theorem xbX {a b:V} (hd:xdz a) (h:xao a b) {w:World} {xa xb:Value} (ha:VAgg Any_ w xa a) (hb:VAgg Any_ w xb b):Calls prog 17 #[xa,xb] w fun e w'=>e = .returned (.bool true)/\Kept Nope w w' :=
 (xin _ a (Nat.le_refl _) hd b w xa xb ha hb).mono fun e w' hh=>by
  rcases hh with ⟨e1 | ⟨_,h1⟩,hk⟩
  ·exact ⟨e1,hk⟩
  ·exact absurd h h1
theorem xci:∀ (n:Nat) (v:V),SizeOf.sizeOf v<=n->Good v->xdz (asRead v):=by
 intro n
 induction n using Nat.strongRecOn with
 | _ n ih =>
  intro v hn hg
  have hleaf:∀ k ∈ v.kids,v.kind=23->xdz k:=fun k hk h23=>by
   have hgk:=hg.kid hk
   have hkk:k.kids=[]:=by
    cases hg with
    | mk _ _ _ _ h5 =>
     obtain ⟨k0,_,h1,_,h2,_⟩:=h5 h23;have:=h2 k hk;unfold xaK at h1;exact hgk.tidy.leaf (by omega)
   exact .mk hgk.desc (by rw [hkk];simp) (by rw [hkk];simp)
  rw [xbj];refine .mk hg.desc ?_ fun k hk => ?_
  ·simp only [V.kids_mk];have:=hg.tidy.few
   split
   ·exact this
   ·simpa using this
  ·simp only [V.kids_mk] at hk
   split at hk
   ·next h=>exact hleaf k hk h
   ·obtain ⟨u,hu,rfl⟩:=List.mem_map.1 hk;have:=V.sizeOf_kid hu;exact ih (SizeOf.sizeOf u) (by omega) u (Nat.le_refl _) (hg.kid hu)
end Go.Proofs.YtmdpodeegdjkeaaGreatDoor
