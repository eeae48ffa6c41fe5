/- Part 33 of the proof of the readers and the guards. No conditions. -/
import Derived.LoopTactic
import Derived.IntWalk
import Derived.Outline
import Derived.RegionTactic
import Derived.Deep.RegionHeld3
import Derived.Deep.DrawnRows
import Derived.Deep.DeepCutAuto
import Derived.Test.YtmdpodeegdjkeaaGreatDoorU0
import Derived.Test.YtmdpodeegdjkeaaGreatDoorU5
import Derived.Test.YtmdpodeegdjkeaaGreatDoorU7
set_option maxRecDepth 100000
set_option maxHeartbeats 3200000
namespace Go.Proofs.YtmdpodeegdjkeaaGreatDoor
open Go Go.RowKit Go.Lib Tryz
def FewP (b:Nat) (L:Int) (v:V) (w:World):Ending->World->Prop:=fun e w'=>Kept (Only b) w w' /\
 ((e = .returned (.bool true)/\(v.count:Int)<=L/\Blk w' b 3 #[.int .i64 (L - v.count)])\/(e = .returned (.bool false)/\∃ x,Blk w' b 3 #[.int .i64 x]))
def FewIH (l:List V):Prop:=∀ k,k ∈ l->∀ (b:Nat) (L:Int) (W:World) (y:Value),VAgg (fun c=>c≠b) W y k->Blk W b 3 #[.int .i64 L]->0<=L->L<=2000->Calls prog 91 #[y,.pointer (some ⟨b,0,none⟩)] W (FewP b L k W)
theorem xod {l:List V} {k:Nat} {x:V} (h:l[k]? = some x):sumOf V.count (l.take (k+1))=sumOf V.count (l.take k)+x.count:=by
 rw [List.take_add_one,h,xex];simp [sumOf]
theorem fewValues_step (v:V) (b:Nat) (L:Int) (w:World) (xa:Value) (ha:VAgg (fun c=>c≠b) w xa v) (hb:Blk w b 3 #[.int .i64 L]) (h0:0<=L) (h1:L<=2000) (ih1:FewIH v.kids) (ih2:FewIH v.desc) :
  Calls prog 91 #[xa,.pointer (some ⟨b,0,none⟩)] w (FewP b L v w):=by
 obtain ⟨ka,da,rfl,hna,hka,hda⟩:=ha;have HKA:=hid (aI hka hda);have HI:=hid (aI ih1 ih2);have HB:=hid hb;obtain ⟨p1,c1,rfl,q1,m1⟩:=hka.form;obtain ⟨p2,c2,rfl,q2,m2⟩:=hda.form;have hlm:v.kids.length<=maxLen:=by omega
 have hdm:v.desc.length<=maxLen:=by omega
 have cb:=((kR Nope w).alloc (.cells #[] 0)).cell (hb.cell 0) (fun h=>h);have cba:∀ o,(w.alloc o).cell? ⟨b,0,none⟩=some (.int .i64 L):=fun o=>((kR Nope w).alloc o).cell (hb.cell 0) (fun h=>h)
 have fba:∀ o,(w.alloc o).frozen? ⟨b,0,none⟩=false:=fun o=>by have h:=(hb.alloc o).frozen 0;exact h
 have hbw:=hb.lt;clear hna hka hda ih1 ih2 q1 m1 q2 m2 hb cb;unfold maxLen at hlm hdm;unfold vagg;obtain ⟨n,hn⟩:∃ m,v.kids.length=m:=⟨_,rfl⟩
 obtain ⟨nd,hnd⟩:∃ m,v.desc.length=m:=⟨_,rfl⟩
 rw [hn] at hlm ⊢;rw [hnd] at hdm ⊢;have HL:=hid (aI hn hnd);clear hn hnd;have ew:IntKind.i64.wrap (L - 1)=L - 1:=IntWalk.i64_in _ (by omega);have HCNT:=hid v.count_eq;have hk0:Kept (Only b) w (((w.alloc (.cells #[Value.int .i64 v.kind,.int .u64 v.num,.string v.text,.slice p1 n c1,.int .i64 v.of_,.slice p2 nd c2] 25))).setCell ⟨b,0,none⟩ (.int .i64 (L - 1))):=((kR _ _).alloc _).set1 0 _;have hbb:Blk (((w.alloc (.cells #[Value.int .i64 v.kind,.int .u64 v.num,.string v.text,.slice p1 n c1,.int .i64 v.of_,.slice p2 nd c2] 25))).setCell ⟨b,0,none⟩ (.int .i64 (L - 1))) b 3 #[.int .i64 (L - 1)]:=by have h:=(HB.out.alloc (.cells #[Value.int .i64 v.kind,.int .u64 v.num,.string v.text,.slice p1 n c1,.int .i64 v.of_,.slice p2 nd c2] 25)).set_ 0 (.int .i64 (L - 1));simpa using h
 have hbA:Blk (((w.alloc (.cells #[Value.int .i64 v.kind,.int .u64 v.num,.string v.text,.slice p1 n c1,.int .i64 v.of_,.slice p2 nd c2] 25))).setCell ⟨b,0,none⟩ (.int .i64 (L - 1))) w.heap.size 25 #[Value.int .i64 v.kind,.int .u64 v.num,.string v.text,.slice p1 n c1,.int .i64 v.of_,.slice p2 nd c2]:=(Blk.new w _ _).far (p:=⟨b,0,none⟩) (show w.heap.size≠b by omega) _;have HW:=hid (aI hk0 (aI hbb hbA));clear hk0 hbb hbA;have HBW:=hid hbw;clear hbw
 by_cases hneg:L - 1 < 0
 ·go_enter func91,ntmps91;go_wp2;go_ret;exact ⟨HW.out.1,.inr ⟨rfl,_,HW.out.2.1⟩⟩
 ·have HNEG:=hid hneg;go_enter func91,ntmps91;go_wp2;generalize (w.alloc (.cells #[Value.int .i64 v.kind,.int .u64 v.num,.string v.text,.slice p1 n c1,.int .i64 v.of_,.slice p2 nd c2] 25)).setCell ⟨b,0,none⟩ (.int .i64 (L - 1))=W2 at HW ⊢;have HA:=hid (show w.heap.size≠b by have:=HBW.out;omega);generalize w.heap.size=A at HW HA ⊢;clear hneg cba fba ew
  go_loopw [5] (fun c w'=>∃ k:Nat,k<=n/\c = .int .i64 k/\Hid (Kept (Only b) W2 w'/\Blk w' b 3 #[.int .i64 ((L - 1) - sumOf V.count (v.kids.take k))]/\(sumOf V.count (v.kids.take k):Int)<=(L - 1))) (fun c _=>n - (RowKit.intOf c).toNat)
  case atStart=>exact ⟨0,by omega,rfl,hid ⟨kR _ _,(by simpa [sumOf] using HW.out.2.1),(by have h:=HNEG.out;simp [sumOf];omega)⟩⟩
  case round =>
   obtain ⟨k,hk,rfl,HR⟩:=hrel;have bA:=(HW.out.2.2.kept (HR.out.1) (fun e=>HA.out e)).cell 3;simp only [gt,gz,gs] at bA;have HKW:=hid (HW.out.1.trans' (HR.out.1))
   by_cases hkn:k < n
   ·have hkn':(k:Int) < (n:Int):=by omega
    have hk0:(0:Int)<=(k:Int):=by omega
    have e1:IntKind.i64.wrap ((k:Int)+1)=(k:Int)+1:=IntWalk.i64_in _ (by omega);obtain ⟨x,hx⟩:∃ u,v.kids[k]? = some u:=⟨v.kids[k]'(by rw [HL.out.1];exact hkn),ge _⟩
    obtain ⟨b2,off2,cap2,pk,ck,pd,cd,q2,hvx,y0,y1,y2,y3,y4,y5⟩:=(HKA.out.1.keep HKW.out (fun _ _ h e=>h e)).sixS hx;injection q2 with q2 _ q2'
    subst q2 q2';have HX:=hid (aI hx hvx);clear hx hvx;go_wp2_with (go_at_call 91;go_must (refine (HI.out.1 x (gm HX.out.1) b _ _ _ HX.out.2 HR.out.2.1 (by have:=HR.out.2.2;omega) (by omega)).mono ?_;rintro e w1 ⟨hk1,⟨rfl,hb1,hb2⟩ | ⟨rfl,xx,hb2⟩⟩;all_goals have H1:=hid (aI hk1 hb2);all_goals clear hk1 hb2))
    ·have HB1:=hid hb1;clear hb1;go_roundw
     case rel =>
      have hs:=xod HX.out.1;refine ⟨k+1,by omega,by go_num,hid ⟨HR.out.1.trans' H1.out.1,?_,?_⟩⟩
      ·have h:=H1.out.2;have he:(L - 1) - (sumOf V.count (v.kids.take (k+1)):Int)=(L - 1) - (sumOf V.count (v.kids.take k):Int) - (x.count:Int):=by rw [hs];omega
       rw [he];exact h
      ·rw [hs];have:=HB1.out;omega
     case measure=>simp [RowKit.intOf];omega
    ·go_ret;exact ⟨HKW.out.trans' H1.out.1,.inr ⟨rfl,_,H1.out.2⟩⟩
   ·obtain rfl:k=n:=by omega
    have hlt:¬ (k:Int) < (k:Int):=by omega
    go_wp2;have hS:=HR.out;rw [List.take_of_length_le (by rw [HL.out.1];exact Nat.le_refl _)] at hS;have HS:=hid hS;clear hS;obtain ⟨wk,rfl⟩:∃ wk:World,wk=wr:=⟨_,rfl⟩
    clear bA HKW HR
    go_loopw [6] (fun c w'=>∃ k:Nat,k<=nd/\c = .int .i64 k/\Hid (Kept (Only b) wk w'/\Blk w' b 3 #[.int .i64 ((L - 1 - (sumOf V.count v.kids:Int)) - sumOf V.count (v.desc.take k))]/\(sumOf V.count (v.desc.take k):Int)<=(L - 1 - (sumOf V.count v.kids:Int)))) (fun c _=>nd - (RowKit.intOf c).toNat)
    case atStart=>exact ⟨0,by omega,rfl,hid ⟨kR _ _,(by simpa [sumOf] using HS.out.2.1),(by have h:=HS.out.2.2;simp [sumOf];omega)⟩⟩
    case round =>
     obtain ⟨k,hk,rfl,HR⟩:=hrel;have bA:=(HW.out.2.2.kept (HS.out.1.trans' HR.out.1) (fun e=>HA.out e)).cell 5;simp only [gt,gz,gs] at bA;have HKW:=hid (HW.out.1.trans' (HS.out.1.trans' HR.out.1))
     by_cases hkn:k < nd
     ·have hkn':(k:Int) < (nd:Int):=by omega
      have hk0:(0:Int)<=(k:Int):=by omega
      have e1:IntKind.i64.wrap ((k:Int)+1)=(k:Int)+1:=IntWalk.i64_in _ (by omega);obtain ⟨x,hx⟩:∃ u,v.desc[k]? = some u:=⟨v.desc[k]'(by rw [HL.out.2];exact hkn),ge _⟩
      obtain ⟨b2,off2,cap2,pk,ck,pd,cd,q2,hvx,y0,y1,y2,y3,y4,y5⟩:=(HKA.out.2.keep HKW.out (fun _ _ h e=>h e)).sixS hx;injection q2 with q2 _ q2'
      subst q2 q2';have HX:=hid (aI hx hvx);clear hx hvx;go_wp2_with (go_at_call 91;go_must (refine (HI.out.2 x (gm HX.out.1) b _ _ _ HX.out.2 HR.out.2.1 (by have:=HR.out.2.2;omega) (by omega)).mono ?_;rintro e w1 ⟨hk1,⟨rfl,hb1,hb2⟩ | ⟨rfl,xx,hb2⟩⟩;all_goals have H1:=hid (aI hk1 hb2);all_goals clear hk1 hb2))
      ·have HB1:=hid hb1;clear hb1;go_roundw
       case rel =>
        have hs:=xod HX.out.1;refine ⟨k+1,by omega,by go_num,hid ⟨HR.out.1.trans' H1.out.1,?_,?_⟩⟩
        ·have h:=H1.out.2;have he:(L - 1 - (sumOf V.count v.kids:Int)) - (sumOf V.count (v.desc.take (k+1)):Int)=(L - 1 - (sumOf V.count v.kids:Int)) - (sumOf V.count (v.desc.take k):Int) - (x.count:Int):=by rw [hs];omega
         rw [he];exact h
        ·rw [hs];have:=HB1.out;omega
       case measure=>simp [RowKit.intOf];omega
      ·go_ret;exact ⟨HKW.out.trans' H1.out.1,.inr ⟨rfl,_,H1.out.2⟩⟩
     ·obtain rfl:k=nd:=by omega
      have hlt:¬ (k:Int) < (k:Int):=by omega
      go_wp2;go_ret;have h1:=HR.out;have h2:=HS.out;rw [List.take_of_length_le (by rw [HL.out.2];exact Nat.le_refl _)] at h1;refine ⟨HKW.out,.inl ⟨rfl,?_,?_⟩⟩
      ·rw [HCNT.out];omega
      ·have he:L - (v.count:Int)=L - 1 - (sumOf V.count v.kids:Int) - (sumOf V.count v.desc:Int):=by rw [HCNT.out];omega
       rw [he];exact h1.2.1
theorem xjV:∀ (n:Nat) (v:V),SizeOf.sizeOf v<=n->∀ (b:Nat) (L:Int) (W:World) (y:Value),VAgg (fun c=>c≠b) W y v->Blk W b 3 #[.int .i64 L]->0<=L->L<=2000->Calls prog 91 #[y,.pointer (some ⟨b,0,none⟩)] W (FewP b L v W):=by
 intro n
 induction n using Nat.strongRecOn with
 | _ n ih =>
  intro v hn b L W y hy hb h0 h1
  exact fewValues_step v b L W y hy hb h0 h1
   (fun k hk=>ih (SizeOf.sizeOf k) (by have:=V.sizeOf_kid hk;omega) k (Nat.le_refl _))
   (fun k hk=>ih (SizeOf.sizeOf k) (by have:=V.sizeOf_desc hk;omega) k (Nat.le_refl _))
theorem xcg (l:List Lay):(l.flatMap Lay.cells).length=l.length*6:=by
 induction l with
 | nil=>rfl
 | cons a l ih=>rw [List.flatMap_cons,lA,ih];simp [Lay.cells];omega
theorem VSl.toC {S:Nat->Prop} {w:World} {s:Value} {l:List V} (h:VSl S w s l):∃ la:List Lay,la.map Lay.v=l/\(∀ a ∈ la,a.Ok S w)/\CSl S w 6 s l.length (la.flatMap Lay.cells):=by
 cases h with
 | nil a cap hc=>exact ⟨[],rfl,(fun _ h=>by cases h),rfl,a,cap,rfl,Nat.zero_le _,hc,.inl rfl⟩
 | mk b off cap l ks ds hb hl hc hm hcell hk hd =>
  refine ⟨l.mapIdx fun i v=>⟨v,ks i,ds i⟩,?_,fun a ha => ?_,?_,some ⟨b,off,none⟩,cap,rfl,hc,hm,.inr ⟨b,off,rfl,hb,fun j u hu => ?_⟩⟩
  ·apply List.ext_getElem?;intro i;rw [gM,List.getElem?_mapIdx];cases l[i]? <;> rfl
  ·obtain ⟨i,hi⟩:=List.mem_iff_getElem?.1 ha;rw [List.getElem?_mapIdx] at hi;obtain ⟨v,hv,rfl⟩:=Option.map_eq_some_iff.1 hi;exact ⟨(hcell i v hv).1,hk i v hv,hd i v hv⟩
  ·rw [xcg,List.length_mapIdx]
  ·have hlt:j < l.length*6:=by
    have:=(gi.1 hu).1;rwa [xcg,List.length_mapIdx] at this
   have hi:(l.mapIdx fun i v=>(⟨v,ks i,ds i⟩:Lay))[j / 6]? = some ⟨l[j / 6]'(by omega),ks (j / 6),ds (j / 6)⟩:=by
    rw [List.getElem?_mapIdx,ge (by omega)];rfl
   have hv:l[j / 6]? = some (l[j / 6]'(by omega)):=ge _;have h6:=xdt hi (j % 6) (by omega);have hj:j / 6*6+j % 6=j:=by omega
   rw [hj,hu] at h6;obtain ⟨_,g0,g1,g2,g3,g4,g5⟩:=hcell _ _ hv;have ho:off+j=off+j / 6*6+j % 6:=by omega
   rw [ho]
   rcases (show j % 6=0\/j % 6=1\/j % 6=2\/j % 6=3\/j % 6=4\/j % 6=5 by omega) with e | e | e | e | e | e <;> rw [e] at h6 ⊢ <;> simp [Lay.cells] at h6 <;> subst h6
   ·exact g0
   ·exact g1
   ·exact g2
   ·exact g3
   ·exact g4
   ·exact g5
attribute [local go_sem ↓] Go.wp_at_zero Go.wp_at_succ
def xnI (w:World):Ending->World->Prop:=fun e w'=>∃ n:Int,e = .returned (.int .i64 n)/\Kept Nope w w'
theorem xiT {ops:Array Oper} {o:Oper} {a:Act} {K:Act->World->Prop} {Q:Exit->Act->World->Prop} {E:Prop} (w:World) (s x:Operand) (hgd:o.guard=none) (ho:o.op = .call { callee:=.builtin .append,args:=#[s,x],argTypes:=#[23,23] })
  (base:Nat) (v:Value) (n:Nat) (xs:List Value) (hs:a.eval s=v) (hown:w.ownsRow base 25 6 v n xs) (S:Nat->Prop) (sv:Value) (m:Nat) (news:List Value) (hx:a.eval x=sv) (hr:CSl S w 6 sv m news) (h1:∀ u ∈ news,u.oneCell'=true)
  (hl:n+m<=10000) (hb:base<=w.heap.size)
  (h:∀ p c w',w'.ownsRow base 25 6 (.slice p (n+m) c) (n+m) (xs ++ news)->w.grownBy w' v.ownBlock->K (a.put o.dst (.slice p (n+m) c)) w'):if Region.wanted o (yielded ops a.tmps)=true then Oper.wp prog o a w K Q else E:=by
 obtain ⟨i1,hi,hz0,hz1,hz2⟩:=info_parts xbc;rw [if_pos (by simp [Region.wanted,hgd])];refine xaG w s x 23 ho base 25 i1 _ 6 88 underlying23 hi hz0 hz1 hz2 rfl (by decide) v n xs hs hown S sv m news hx hr h1 (by unfold maxLen;omega) (by omega) hb fun v' w' h2 h3 h4 => ?_
 rcases h2.2 with ⟨rfl,e⟩ | ⟨g,cap,cur,rfl,_⟩
 ·have:=h none 0 w' (by rw [e] at h2 ⊢;exact h2) h3;rw [e] at this;exact this
 ·exact h _ _ w' h2 h3
theorem Lay.ones {S:Nat->Prop} {w:World} {la:List Lay} (h:∀ a ∈ la,a.Ok S w):∀ u ∈ la.flatMap Lay.cells,u.oneCell'=true:=by
 intro u hu;obtain ⟨a,ha,hu⟩:=List.mem_flatMap.1 hu;exact (h a ha).one u hu
theorem xjS {W1 w1 w2:World} {e:TypeId} {sz:Nat} {v:Value} {n:Nat} {xs:List Value} (h1:Kept Nope W1 w1) (ho:w1.ownsRow W1.heap.size e sz v n xs) (hg:w1.grownBy w2 v.ownBlock):Kept Nope W1 w2:=h1.grown hg (fun k hk => .inr (ho.lt k hk).1)
set_option maxHeartbeats 6400000 in
theorem Values_step (v:V) (w:World) (x:Value) (hk:v.kids.length<=1000) (hd:v.desc.length<=1) (hx:VAgg Any_ w x v) (ih:∀ k ∈ v.kids ++ v.desc,∀ (W:World) (y:Value),VAgg Any_ W y k->Calls prog 36 #[y] W (xnI W)) :
  Calls prog 36 #[x] w (xnI w):=by
 obtain ⟨ks,ds,rfl,hn,hks,hds⟩:=hx;have HKS:=hid (aI hks hds);obtain ⟨pk,ck,rfl,_⟩:=hks.form;obtain ⟨pd,cd,rfl,_⟩:=hds.form;have HI:=hid ih;obtain ⟨n,hnn⟩:∃ n,v.kids.length=n:=⟨_,rfl⟩
 obtain ⟨nd,hnd⟩:∃ n,v.desc.length=n:=⟨_,rfl⟩
 have HL:=hid (aI hnn hnd);rw [hnn] at hk;rw [hnd] at hd;clear hks hds hn ih;unfold vagg;rw [hnn,hnd];clear hnn hnd;go_enter func36,ntmps36
 go_upto_region 2 with fail
 have hA:=Blk.new w 25 #[.int .i64 v.kind,.int .u64 v.num,.string v.text,.slice pk n ck,.int .i64 v.of_,.slice pd nd cd];have HK1:=hid ((kR Nope w).alloc (.cells #[.int .i64 v.kind,.int .u64 v.num,.string v.text,.slice pk n ck,.int .i64 v.of_,.slice pd nd cd] 25));generalize w.alloc (.cells #[.int .i64 v.kind,.int .u64 v.num,.string v.text,.slice pk n ck,.int .i64 v.of_,.slice pd nd cd] 25)=W1 at hA HK1 ⊢;generalize w.heap.size=A at hA ⊢
 go_cut [12,13,14] (fun s12 s13 s14 wx=>∃ p c,s12 = .slice p (0+n+nd) c/\s13 = .int .i64 ((n:Int)+(nd:Int))/\s14 = .int .i64 ((0:Nat):Int)/\Hid (Kept Nope W1 wx/\VSl Any_ wx (.slice p (0+n+nd) c) (v.kids ++ v.desc)))
 case first =>
  obtain ⟨la,hla,hoka,hca⟩:=HKS.out.1.toC;obtain ⟨ld,hld,hokd,hcd⟩:=HKS.out.2.toC;rw [HL.out.1] at hca;rw [HL.out.2] at hcd;have HC:=hid (aI hca (aI hcd (aI hoka (aI hokd (aI hla hld)))));have HM:Hid (∀ w',Kept Nope W1 w'->Kept Nope W1 w'/\w'.cell? ⟨A,3,none⟩=some (.slice pk n ck)/\w'.cell? ⟨A,5,none⟩=some (.slice pd nd cd)):=hid fun w' h=>⟨h,(hA.kept h (fun h=>h)).cell 3,(hA.kept h (fun h=>h)).cell 5⟩
  have HO0:Hid ((W1.alloc (.cells #[] 25)).ownsRow W1.heap.size 25 6 (.slice (some ⟨W1.heap.size,0,none⟩) 0 0) 0 []):=hid (World.ownsRow_made W1 #[] 0 (Nat.le_refl _) (by simp [maxLen]) rfl);have HZ0:Hid (W1.heap.size<=(W1.alloc (.cells #[] 25)).heap.size):=hid (by rw [World.size_alloc];omega);clear hA hla hld hoka hokd hca hcd
  go_region_held3 (fun w'=>Kept Nope W1 w'/\w'.cell? ⟨A,3,none⟩=some (.slice pk n ck)/\w'.cell? ⟨A,5,none⟩=some (.slice pd nd cd)) (first | exact HM.out _ (kR _ W1).drew | exact HM.out _ ‹Kept Nope W1 _› | exact HM.out _ ((kR _ W1).alloc _) | exact HM.out _ ((kR _ W1).drew.alloc _) | exact HM.out _ ((kR _ W1).alloc _).drew) (first | (refine xiT _ (.tmp 6) (.tmp 8) rfl rfl W1.heap.size _ 0 [] rfl (by first | exact HO0.out | exact HO0.out.drew) Any_ _ _ _ rfl (HC.out.1.keep (by first | exact HK1.out.trans' ((kR Nope W1).alloc _) | exact HK1.out.trans' ((kR Nope W1).alloc _).drew) (fun _ _ _ h=>h)) (Lay.ones HC.out.2.2.1) (by omega) (by first | exact HZ0.out | exact HZ0.out) ?_;intro p3 c3 w3 ho3 hg3;have hN3:Kept Nope W1 w3:=(by first | exact xjS ((kR Nope W1).alloc _) HO0.out hg3 | exact xjS ((kR Nope W1).alloc _).drew HO0.out.drew hg3);have H3:=hid (aI ho3 hN3);clear ho3 hg3) | (refine xiT _ (.tmp 9) (.tmp 11) rfl rfl W1.heap.size _ _ _ rfl H3.out.1 Any_ _ _ _ rfl (HC.out.2.1.keep (HK1.out.trans' H3.out.2) (fun _ _ _ h=>h)) (Lay.ones HC.out.2.2.2.1) (by omega) H3.out.2.size ?_;intro p4 c4 w4 ho4 hg4;have hN4:=xjS H3.out.2 H3.out.1 hg4;have H4:=hid (aI ho4 hN4);clear ho4 hg4))
  go_wp2_with fail
  go_meet
  refine ⟨p4,c4,rfl,rfl,rfl,hid ⟨H4.out.2,?_⟩⟩;have hkw:=HK1.out.trans' H4.out.2
  have el:(la ++ ld).length=0+n+nd:=by
   have h1:=congrArg List.length HC.out.2.2.2.2.1;have h2:=congrArg List.length HC.out.2.2.2.2.2;rw [lM] at h1 h2;rw [lA,h1,h2,HL.out.1,HL.out.2,Nat.zero_add]
  have ho:=H4.out.1
  have h:=VSl.ofOwn (S:=Any_) (l:=la ++ ld) (by rw [el,List.flatMap_append];exact ho) (fun _ _=>trivial) (fun a ha=>by
   rcases List.mem_append.1 ha with ha | ha
   ·exact (HC.out.2.2.1 a ha).keep hkw (fun _ _ _ h=>h)
   ·exact (HC.out.2.2.2.1 a ha).keep hkw (fun _ _ _ h=>h))
  rw [List.map_append,HC.out.2.2.2.2.1,HC.out.2.2.2.2.2] at h;exact h
 case rest =>
  obtain ⟨p,c,rfl,rfl,rfl,HV⟩:=hcut;obtain ⟨m,hm⟩:∃ m:Nat,0+n+nd=m:=⟨_,rfl⟩
  have hm':(n:Int)+(nd:Int)=(m:Int):=by omega
  rw [hm,hm'];rw [hm] at HV;have HLL:Hid ((v.kids ++ v.desc).length=m):=hid (by rw [lA,HL.out.1,HL.out.2];omega);have hmb:m<=1001:=by omega
  clear hm hm' hA HKS;go_wp2_with fail;obtain ⟨wk,rfl⟩:∃ wk:World,wk=wc:=⟨_,rfl⟩
  go_loopw [3,14] (fun a q w'=>∃ (s:Int) (k:Nat),k<=m/\a = .int .i64 s/\q = .int .i64 k/\Hid (Kept Nope wk w')) (fun _ q _=>m - (RowKit.intOf q).toNat)
  case atStart=>exact ⟨1,0,by omega,rfl,rfl,hid (kR _ _)⟩
  case round =>
   obtain ⟨s,k,hk',rfl,rfl,HR⟩:=hrel
   by_cases hkn:k < m
   ·have hkn':(k:Int) < (m:Int):=by omega
    have hk0:(0:Int)<=(k:Int):=by omega
    have e1:IntKind.i64.wrap ((k:Int)+1)=(k:Int)+1:=IntWalk.i64_in _ (by omega);obtain ⟨x,hx⟩:∃ u,(v.kids ++ v.desc)[k]? = some u:=⟨(v.kids ++ v.desc)[k]'(by rw [HLL.out];exact hkn),ge _⟩
    obtain ⟨b2,off2,cap2,pk',ck',pd',cd',q2,hvx,y0,y1,y2,y3,y4,y5⟩:=(HV.out.2.keep HR.out (fun _ _ _ h=>h)).sixS hx;injection q2 with q2 q2m q2'
    clear q2m;subst q2 q2';have HX:=hid (aI hx hvx);clear hx hvx;go_wp2_with (go_at_call 36;go_must (refine (HI.out x (gm HX.out.1) _ _ (HX.out.2.keep ((kR Nope _).alloc _) (fun _ _ _ h=>h))).mono ?_;rintro e w1 ⟨r,rfl,hk1⟩;have H1:=hid hk1;clear hk1));go_roundw
    case rel=>exact ⟨_,k+1,by omega,rfl,by go_num,hid (HR.out.trans' (((kR Nope _).alloc _).trans' H1.out))⟩
    case measure=>simp [RowKit.intOf];omega
   ·obtain rfl:k=m:=by omega
    have hlt:¬ (k:Int) < (k:Int):=by omega
    go_wp2;go_ret;exact ⟨_,rfl,HK1.out.trans' (HV.out.1.trans' HR.out)⟩
theorem xjs (hv:V->Prop) (hl:∀ v,hv v->v.kids.length<=1000/\v.desc.length<=1/\∀ k ∈ v.kids ++ v.desc,hv k):∀ (n:Nat) (v:V),SizeOf.sizeOf v<=n->hv v->∀ (W:World) (y:Value),VAgg Any_ W y v->Calls prog 36 #[y] W (xnI W):=by
 intro n
 induction n using Nat.strongRecOn with
 | _ n ih =>
  intro v hn hh W y hy;refine Values_step v W y (hl v hh).1 (hl v hh).2.1 hy fun k hk => ?_
  rcases List.mem_append.1 hk with hk' | hk'
  ·exact ih (SizeOf.sizeOf k) (by have:=V.sizeOf_kid hk';omega) k (Nat.le_refl _) ((hl v hh).2.2 k hk)
  ·exact ih (SizeOf.sizeOf k) (by have:=V.sizeOf_desc hk';omega) k (Nat.le_refl _) ((hl v hh).2.2 k hk)
end Go.Proofs.YtmdpodeegdjkeaaGreatDoor
