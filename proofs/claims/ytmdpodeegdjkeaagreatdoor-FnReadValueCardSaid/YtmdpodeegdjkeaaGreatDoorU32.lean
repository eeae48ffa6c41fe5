/- Part 32 of the proof of the readers and the guards. No conditions. -/
import Derived.LoopTactic
import Derived.IntWalk
import Derived.Outline
import Derived.RegionTactic
import Derived.Deep.RegionHeld3
import Derived.Deep.DrawnRows
import Derived.Deep.DeepCutAuto
import Derived.BigQuiet
import Derived.StillTailTactics
import Derived.Test.YtmdpodeegdjkeaaGreatDoorU0
import Derived.Test.YtmdpodeegdjkeaaGreatDoorU5
import Derived.Test.YtmdpodeegdjkeaaGreatDoorU7
import Derived.Test.YtmdpodeegdjkeaaGreatDoorU31
set_option maxRecDepth 100000
set_option maxHeartbeats 3200000
namespace Go.Proofs.YtmdpodeegdjkeaaGreatDoor
open Go Go.RowKit Go.Lib Tryz
theorem VAgg.parts {S:Nat->Prop} {w:World} {v:V} {K D:Value} (h:VAgg S w (vagg v K D) v):VSl S w K v.kids/\VSl S w D v.desc:=by
 obtain ⟨ks,ds,e,_,h1,h2⟩:=h;unfold vagg at e;injection e with e
 injection e with e
 injection e with _ e;injection e with _ e;injection e with _ e;injection e with e3 e;injection e with _ e;injection e with e5 _
 rw [e3,e5];exact ⟨h1,h2⟩
def ArrF (v:V):Prop:=(v.kids=[]->0<=v.of_/\v.of_ < 24)/\∀ k0,v.kids[0]? = some k0->∀ k ∈ v.kids,k.kind=k0.kind/\k.desc.length=k0.desc.length
theorem xiI (v:V) (w:World) (xa:Value) (ha:VAgg Any_ w xa v) (h0:v.kids.length=0):Calls prog 191 #[xa] w (AskT (ArrF v) w):=by
 obtain ⟨ka,da,rfl,-,hka,-⟩:=ha;obtain ⟨p1,c1,rfl,-⟩:=hka.form;clear hka;unfold vagg;rw [h0];have hkid:v.kids=[]:=List.eq_nil_of_length_eq_zero h0;have HP:Hid (0<=v.of_/\v.of_ < 24->ArrF v):=hid fun h=>⟨fun _=>h,fun k0 hk=>by rw [hkid] at hk;cases hk⟩
 clear hkid h0
 by_cases h1:(0:Int)<=v.of_
 ·by_cases h2:v.of_ < 24
  ·have HH:=hid (HP.out ⟨h1,h2⟩);go_enter func191,ntmps191;go_wp2;go_ret;exact ⟨.inl ⟨rfl,HH.out⟩,(kR _ _).alloc _⟩
  ·go_enter func191,ntmps191;go_wp2;go_ret;exact ⟨.inr rfl,(kR _ _).alloc _⟩
 ·go_enter func191,ntmps191;go_wp2;go_ret;exact ⟨.inr rfl,(kR _ _).alloc _⟩
set_option maxHeartbeats 6400000 in
theorem xiH (v u:V) (w:World) (xa:Value) (ha:VAgg Any_ w xa v) (hu:v.kids[0]? = some u) (hf:v.kids.length<=1000):Calls prog 191 #[xa] w (AskT (ArrF v) w):=by
 obtain ⟨ka,da,rfl,-,hka,-⟩:=ha;obtain ⟨b1,off1,cap1,pk1,ck1,pd1,cd1,rfl,hvu,x0,x1,x2,x3,x4,x5⟩:=hka.sixS hu;have HVU:=hid hvu.parts.2;clear hvu;have h0:0 < v.kids.length:=(gi.1 hu).1;simp only [Nat.zero_mul,Nat.add_zero] at x0 x5;clear x1 x2 x3 x4;have HKA:=hid (aI hka (aI x0 x5));clear hka x0 x5;unfold vagg;obtain ⟨n,hn⟩:∃ m,v.kids.length=m:=⟨_,rfl⟩
 rw [hn] at h0 hf ⊢;have HL:=hid hn;clear hn;have HP:Hid ((∀ k ∈ v.kids,k.kind=u.kind/\k.desc.length=u.desc.length)->ArrF v):=hid fun h=>⟨fun e=>(by rw [e] at hu;cases hu),fun k0 hk=>(by rw [hu] at hk;cases hk;exact h)⟩
 have HU:=hid hu;clear hu;have h0':((n:Int) == 0)=false:=by simp;omega
 go_enter func191,ntmps191;go_wp2;have HT:=Blk.one w #[Value.int .i64 v.kind,.int .u64 v.num,.string v.text,.slice (some ⟨b1,off1,none⟩) n cap1,.int .i64 v.of_,da] 25;generalize w.alloc (.cells #[Value.int .i64 v.kind,.int .u64 v.num,.string v.text,.slice (some ⟨b1,off1,none⟩) n cap1,.int .i64 v.of_,da] 25)=W2 at HT ⊢;generalize w.heap.size=A at HT ⊢;have HW:=hid HT;clear HT
 go_loopw [20] (fun c w'=>∃ k:Nat,k<=n/\c = .int .i64 k/\Hid (Kept Nope W2 w'/\∀ (i:Nat) (x:V),i < k->v.kids[i]? = some x->x.kind=u.kind/\x.desc.length=u.desc.length)) (fun c _=>n - (RowKit.intOf c).toNat)
 case atStart=>exact ⟨0,by omega,rfl,hid ⟨kR _ _,fun i x hi=>by omega⟩⟩
 case round =>
  obtain ⟨k,hk,rfl,HR⟩:=hrel;have HKW:=hid (HW.out.2.trans' HR.out.1)
  by_cases hkn:k < n
  ·have hkn':(k:Int) < (n:Int):=by omega
   have hk0:(0:Int)<=(k:Int):=by omega
   have e1:IntKind.i64.wrap ((k:Int)+1)=(k:Int)+1:=IntWalk.i64_in _ (by omega);obtain ⟨x,hx⟩:∃ u,v.kids[k]? = some u:=⟨v.kids[k]'(by rw [HL.out];exact hkn),ge _⟩
   obtain ⟨b2,off2,cap2,pk,ck,pd,cd,q2,hvx,y0,y1,y2,y3,y4,y5⟩:=(HKA.out.1.keep HKW.out (fun _ _ _ h=>h)).sixS hx;injection q2 with q2 q2m q2'
   injection q2 with q2
   injection q2 with q4 q5
   clear q2m;subst q4 q5 q2';have HX:=hid (aI hx hvx);clear hx hvx
   go_upto_region 6 with fail
   have bB:=(Blk.new wr 25 #[.int .i64 x.kind,.int .u64 x.num,.string x.text,.slice pk x.kids.length ck,.int .i64 x.of_,.slice pd x.desc.length cd]);have bA:=(HW.out.1.kept (HR.out.1.trans' ((kR Nope wr).alloc (.cells #[.int .i64 x.kind,.int .u64 x.num,.string x.text,.slice pk x.kids.length ck,.int .i64 x.of_,.slice pd x.desc.length cd] 25))) (fun h=>h)).cell 3;have k0:=(HKW.out.trans' ((kR Nope wr).alloc (.cells #[.int .i64 x.kind,.int .u64 x.num,.string x.text,.slice pk x.kids.length ck,.int .i64 x.of_,.slice pd x.desc.length cd] 25))).cell HKA.out.2.1 (fun h=>h);have k5:=(HKW.out.trans' ((kR Nope wr).alloc (.cells #[.int .i64 x.kind,.int .u64 x.num,.string x.text,.slice pk x.kids.length ck,.int .i64 x.of_,.slice pd x.desc.length cd] 25))).cell HKA.out.2.2 (fun h=>h);have HK3:=hid ((kR Nope wr).alloc (.cells #[.int .i64 x.kind,.int .u64 x.num,.string x.text,.slice pk x.kids.length ck,.int .i64 x.of_,.slice pd x.desc.length cd] 25));clear y0 y1 y2 y3 y4 y5;generalize wr.alloc (.cells #[.int .i64 x.kind,.int .u64 x.num,.string x.text,.slice pk x.kids.length ck,.int .i64 x.of_,.slice pd x.desc.length cd] 25)=W3 at bA bB k0 k5 HK3 ⊢;generalize wr.heap.size=B at bB ⊢;have b0:=bB.cell 0;have b5:=bB.cell 5;simp only [gt,gz,gs] at bA b0 b5;clear bB;have HKK:=hid (HKW.out.trans' HK3.out)
   have hnext:∀ w',Kept Nope W3 w'->x.kind=u.kind->x.desc.length=u.desc.length->Kept Nope W2 w'/\∀ (i:Nat) (x:V),i < k+1->v.kids[i]? = some x->x.kind=u.kind/\x.desc.length=u.desc.length:=fun w' h3 g1 g2=>⟨HR.out.1.trans' (HK3.out.trans' h3),fun i y hi hy=>by
    rcases Nat.lt_or_ge i k with h1 | h1
    ·exact HR.out.2 i y h1 hy
    ·obtain rfl:i=k:=by omega
     have h2:=HX.out.1;rw [hy] at h2;cases h2
     exact ⟨g1,g2⟩⟩
   have HN:=hid hnext;clear hnext
   by_cases g1:x.kind=u.kind
   ·have G1:=hid g1
    by_cases g2:x.desc.length=u.desc.length
    ·have G2:=hid g2;have n1:(x.kind != u.kind)=false:=by rw [g1];simp
     have n2:((x.desc.length:Int) != (u.desc.length:Int))=false:=by rw [g2];simp
     by_cases g3:x.desc.length=1
     ·have g4:u.desc.length=1:=by omega
      obtain ⟨xd,hxd⟩:∃ d,x.desc[0]? = some d:=⟨x.desc[0]'(by omega),ge _⟩
      obtain ⟨ud,hud⟩:∃ d,u.desc[0]? = some d:=⟨u.desc[0]'(by omega),ge _⟩
      obtain ⟨b3,off3,cap3,pk3,ck3,pd3,cd3,q3,hv3,x0,x1,x2,x3,x4,x5⟩:=(HX.out.2.parts.2.keep HK3.out (fun _ _ _ h=>h)).sixS hxd;obtain ⟨b4,off4,cap4,pk4,ck4,pd4,cd4,q4,hv4,y0,y1,y2,y3,y4,y5⟩:=(HVU.out.keep HKK.out (fun _ _ _ h=>h)).sixS hud;simp only [Nat.zero_mul,Nat.add_zero] at x0 x1 x2 x3 x4 x5 y0 y1 y2 y3 y4 y5;injection q3 with q3 q3m q3'
      injection q4 with q4 q4m q4'
      clear q3m q4m;subst q3 q3' q4 q4';have HS:=hid (aI hv3 hv4);have z1:(0:Int) < (x.desc.length:Int):=by omega
      have z2:(0:Int) < (u.desc.length:Int):=by omega
      have n3:((x.desc.length:Int) == 1)=true:=by simp;omega
      clear hv3 hv4 g1 g2 g3 g4 hxd hud;obtain ⟨dx,hdx⟩:∃ m,x.desc.length=m:=⟨_,rfl⟩
      obtain ⟨du,hdu⟩:∃ m,u.desc.length=m:=⟨_,rfl⟩
      rw [hdx] at b5 n2 z1 n3 ⊢;rw [hdu] at k5 n2 z2;have z1n:0 < dx:=by omega
      have z2n:0 < du:=by omega
      clear hdx hdu;refine wp_region_tail 37 (by kernel_rfl) (by kernel_rfl) (fun K hK => ?_);simp only [List.take_succ_cons,List.take_zero,List.drop_succ_cons,List.drop_zero] at hK ⊢
      repeat still_step
      refine wpStill_nil (hK _ ?_);clear hK K;go_wp2_with (go_at_call 15;go_must (refine (xcU xd ud _ _ _ HS.out.1.drew HS.out.2.drew).mono ?_;rintro e w1 ⟨⟨rfl,hb⟩ | ⟨rfl,hb⟩,hk1⟩;all_goals have H1:=hid (((kR Nope W3).drew).trans' hk1);clear hb hk1))
      ·go_roundw
       case rel=>exact ⟨k+1,by omega,by go_num,hid (HN.out _ H1.out G1.out G2.out)⟩
       case measure=>simp [RowKit.intOf];omega
      ·go_ret;exact ⟨.inr rfl,HKK.out.trans' H1.out⟩
     ·have n3:((x.desc.length:Int) == 1)=false:=by simp;omega
      clear g1 g2 g3;go_quiet (fail);go_wp2;go_roundw
      case rel=>exact ⟨k+1,by omega,by go_num,hid (HN.out _ ((kR Nope _).drewN _) G1.out G2.out)⟩
      case measure=>simp [RowKit.intOf];omega
    ·have n1:(x.kind != u.kind)=false:=by rw [g1];simp
     have n2:((x.desc.length:Int) != (u.desc.length:Int))=true:=by rw [bne_iff_ne];omega
     clear g1 g2;go_quiet (fail);go_wp2;go_ret;exact ⟨.inr rfl,HKK.out.trans' ((kR Nope _).drewN _)⟩
   ·have n1:(x.kind != u.kind)=true:=by rw [bne_iff_ne];exact g1
    clear g1;go_quiet (fail);go_wp2;go_ret;exact ⟨.inr rfl,HKK.out.trans' ((kR Nope _).drewN _)⟩
  ·obtain rfl:k=n:=by omega
   have hlt:¬ (k:Int) < (k:Int):=by omega
   have hall:∀ x ∈ v.kids,x.kind=u.kind/\x.desc.length=u.desc.length:=fun x hx=>by
    obtain ⟨i,hi,rfl⟩:=List.getElem_of_mem hx;exact HR.out.2 i _ (by rw [<- HL.out];exact hi) (ge _)
   have HH:=hid (HP.out hall);have bA:=(HW.out.1.kept HR.out.1 (fun h=>h)).cell 4;simp only [gt,gz,gs] at bA;clear hall;go_wp2;go_ret;refine ⟨?_,HKW.out⟩;cases v.of_ == 0
   ·exact .inr rfl
   ·exact .inl ⟨rfl,HH.out⟩
theorem xlN (v:V) (w:World) (xa:Value) (ha:VAgg Any_ w xa v) (hf:v.kids.length<=1000):Calls prog 191 #[xa] w (AskT (ArrF v) w):=by
 rcases Nat.eq_zero_or_pos v.kids.length with h | h
 ·exact xiI v w xa ha h
 ·exact xiH v _ w xa ha (ge h) hf
set_option maxHeartbeats 6400000 in
theorem xiC (v:V) (w:World) (xa:Value) (ha:VAgg Any_ w xa v) (h23:v.kind=23) (hf:v.kids.length<=1000):Calls prog 148 #[xa] w (AskT (ArrF v) w):=by
 obtain ⟨ks,ds,rfl,hn,hks,hds⟩:=ha;have hv:VAgg Any_ w (vagg v ks ds) v:=⟨ks,ds,rfl,hn,hks,hds⟩;unfold vagg at hv ⊢;rw [h23] at hv ⊢;have HV:=hid (aI hv hf);have HFX:=hid (fx_one 23 (by omega) (by decide));clear hn hks hds hv hf h23;go_enter func148,ntmps148;go_wp2_with (first | (go_at_call 151;go_must (refine (HFX.out _).mono ?_;rintro e w1 ⟨rfl,hk1⟩;obtain ⟨c0,c1,c2,c3,c4,c5,HK⟩:=xcF hk1;clear hk1;generalize w.heap.size=A at c0 c1 c2 c3 c4 c5 ⊢)) | (go_at_call 191;go_must (refine (xlN v _ _ (HV.out.1.keep HK.out (fun _ _ _ h=>h)) HV.out.2).mono ?_;rintro e w2 ⟨⟨rfl,hb⟩ | rfl,hk2⟩;all_goals have HK2:=hid (HK.out.trans' hk2);all_goals clear hk2)))
 ·go_ret;exact ⟨.inl ⟨rfl,hb⟩,HK2.out⟩
 ·go_ret;exact ⟨.inr rfl,HK2.out⟩
theorem xiB (v:V) (w:World) (xa:Value) (ha:VAgg Any_ w xa v) (hk:0<=v.kind/\v.kind < 24) (hf:v.kids.length<=1000) (hs:v.text.size<=131072) (hT:Tabs w):Calls prog 148 #[xa] w (AskT (xeQ v) w):=by
 by_cases h:v.kind=23
 ·exact (xiC v w xa ha h hf).mono fun _ _ g=>g.to fun hA=>by
   constructor <;> intro h' <;> first | exact hA | exact absurd h' (by omega)
 ·exact xjW v w xa ha (by omega) hf hs hT
theorem size_nil {t:ByteArray} (h:t.toList=[]):t.size=0:=by
 rw [ByteArray.toList_eq] at h;have:=congrArg List.length h
 simpa using this
def FitIH (l:List V) (d:Int):Prop:=∀ k ∈ l,∀ (W:World) (y:Value),Tabs W->VAgg Any_ W y k->Calls prog 92 #[y,.int .i64 d] W (AskT (Fits k) W)
set_option maxHeartbeats 6400000 in
theorem valueFits_step (v:V) (d:Int) (w:World) (xa:Value) (ha:VAgg Any_ w xa v) (hT:Tabs w) (hd:d<=1000000) (ih1:0 < d->FitIH v.kids (d - 1)) (ih2:0 < d->FitIH v.desc (d - 1)):Calls prog 92 #[xa,.int .i64 d] w (AskT (Fits v) w):=by
 have HA:=hid (aI ha hT);obtain ⟨ks,ds,rfl,hn,hks,hds⟩:=ha;have HKS:=hid (aI hks hds);obtain ⟨pk,ck,rfl,mk⟩:=hks.form;obtain ⟨pd,cd,rfl,md⟩:=hds.form;have HI:=hid (aI ih1 ih2);obtain ⟨n,hnn⟩:∃ n,v.kids.length=n:=⟨_,rfl⟩
 obtain ⟨nd,hnd⟩:∃ n,v.desc.length=n:=⟨_,rfl⟩
 obtain ⟨kd,hkd⟩:∃ n,v.kind=n:=⟨_,rfl⟩
 obtain ⟨nm,hnm⟩:∃ n,v.num=n:=⟨_,rfl⟩
 obtain ⟨tx,htx⟩:∃ n,v.text=n:=⟨_,rfl⟩
 have HL:=hid (aI hnn (aI hnd (aI hkd (aI hnm htx))));have hln:n<=maxLen:=by omega
 have hld:nd<=maxLen:=by omega
 unfold maxLen at hln hld;unfold vagg at HA ⊢;rw [hnn,hnd,hkd,hnm,htx] at HA ⊢;clear hn hks hds ih1 ih2 mk md hT hnn hnd hkd hnm htx;go_enter func92,ntmps92
 go_upto_region 1 with fail
 have hA:=Blk.new w 25 #[.int .i64 kd,.int .u64 nm,.string tx,.slice pk n ck,.int .i64 v.of_,.slice pd nd cd];have HK1:=hid ((kR Nope w).alloc (.cells #[.int .i64 kd,.int .u64 nm,.string tx,.slice pk n ck,.int .i64 v.of_,.slice pd nd cd] 25));generalize w.alloc (.cells #[.int .i64 kd,.int .u64 nm,.string tx,.slice pk n ck,.int .i64 v.of_,.slice pd nd cd] 25)=W1 at hA HK1 ⊢;generalize w.heap.size=A at hA ⊢;have HB:=hid hA;have a0:=hA.cell 0;have a1:=hA.cell 1;have a2:=hA.cell 2;have a3:=hA.cell 3;have a5:=hA.cell 5;simp only [gt,gz,gs] at a0 a1 a2 a3 a5;clear hA
 go_cut [5] (fun s wx=>∃ b,s = .bool b/\W1=wx/\(b=true->kd=21\/kd=22\/kd=23))
 case first =>
  rcases Bool.eq_false_or_eq_true (kd == 21) with h1 | h1 <;> rcases Bool.eq_false_or_eq_true (kd == 22) with h2 | h2 <;> rcases Bool.eq_false_or_eq_true (kd == 23) with h3 | h3
  all_goals
   go_wp2_with fail
   go_meet
   refine ⟨_,rfl,rfl,?_⟩
   first
    | (intro h;cases h;done)
    | exact fun _ => .inl (eq_of_beq h1)
    | exact fun _ => .inr (.inl (eq_of_beq h2))
    | exact fun _ => .inr (.inr (eq_of_beq h3))
 case rest =>
  obtain ⟨c5,rfl,rfl,h5⟩:=hcut;have H5:=hid h5;clear h5
  go_upto_region 2 with fail
  go_cut [6] (fun s wx=>∃ b,s = .bool b/\W1=wx/\(b=true->(17<=kd/\kd<=20)\/kd=14))
  case first =>
   rcases (show (17<=kd/\kd<=20)\/(17<=kd/\¬ kd<=20)\/(¬ 17<=kd/\kd<=20) by omega) with ⟨h1,h2⟩ | ⟨h1,h2⟩ | ⟨h1,h2⟩ <;> rcases Bool.eq_false_or_eq_true (kd == 14) with h3 | h3
   all_goals
    go_wp2_with fail
    go_meet
    refine ⟨_,rfl,rfl,?_⟩
    first
     | (intro h;cases h;done)
     | exact fun _ => .inl ⟨h1,h2⟩
     | exact fun _ => .inr (eq_of_beq h3)
  case rest =>
   obtain ⟨c6,rfl,rfl,h6⟩:=hcut;have H6:=hid h6;clear h6
   go_upto_region 3 with fail
   go_cut [7] (fun s wx=>∃ b,s = .bool b/\W1=wx/\(b=true->1<=kd/\kd<=16/\kd≠14))
   case first =>
    rcases (show (1<=kd/\kd<=16)\/(1<=kd/\¬ kd<=16)\/(¬ 1<=kd/\kd<=16) by omega) with ⟨h1,h2⟩ | ⟨h1,h2⟩ | ⟨h1,h2⟩ <;> rcases Bool.eq_false_or_eq_true (kd != 14) with h3 | h3
    all_goals
     go_wp2_with fail
     go_meet
     refine ⟨_,rfl,rfl,?_⟩
     first
      | (intro h;cases h;done)
      | exact fun _=>⟨h1,h2,bne_iff_ne.1 h3⟩
   case rest =>
    obtain ⟨c7,rfl,rfl,h7⟩:=hcut;have H7:=hid h7;clear h7
    go_upto_region 4 with fail
    go_cut [5,6,7,106] (fun _ _ _ s wx=>∃ b,s = .bool b/\W1=wx/\(b=false->0 < d/\0<=kd/\kd < 24/\(kd=21\/kd=22\/kd=23\/n=0)/\((17<=kd/\kd<=20)\/kd=14\/tx.size=0)/\((1<=kd/\kd<=16/\kd≠14)\/nm=0)/\nd<=1/\n<=1000/\tx.size<=131072))
    case first =>
     have HX5:Hid (c5=true\/n=0->kd=21\/kd=22\/kd=23\/n=0):=hid fun h=>by rcases h with h | h;have:=H5.out h;omega;omega
     have HX6:Hid (c6=true\/tx.size=0->(17<=kd/\kd<=20)\/kd=14\/tx.size=0):=hid fun h=>by rcases h with h | h;have:=H6.out h;omega;omega
     have HX7:Hid (c7=true\/nm=0->(1<=kd/\kd<=16/\kd≠14)\/nm=0):=hid fun h=>by rcases h with h | h;have:=H7.out h;omega;omega
     by_cases h1:d<=0
     ·as_aux_lemma =>
       go_wp2_with fail
       go_meet
       exact ⟨_,rfl,rfl,fun h=>by cases h⟩
     by_cases h2:kd < 0
     ·as_aux_lemma =>
       go_wp2_with fail
       go_meet
       exact ⟨_,rfl,rfl,fun h=>by cases h⟩
     by_cases h3:24<=kd
     ·as_aux_lemma =>
       go_wp2_with fail
       go_meet
       exact ⟨_,rfl,rfl,fun h=>by cases h⟩
     rcases (show (c5=false/\0 < n)\/(c5=true)\/(c5=false/\n=0) by cases c5;simp;omega;simp) with ⟨rfl,h4⟩ | rfl | ⟨rfl,h4⟩
     ·have h5:(0:Int) < (n:Int):=by omega
      as_aux_lemma =>
       go_wp2_with fail
       go_meet
       exact ⟨_,rfl,rfl,fun h=>by cases h⟩
     ·rcases (show (c6=false/\¬ tx.toList=[])\/c6=true\/(c6=false/\tx.toList=[]) by by_cases h:tx.toList=[] <;> cases c6 <;> simp [h]) with ⟨rfl,T0⟩ | rfl | ⟨rfl,T0⟩
      ·as_aux_lemma =>
        go_wp2_with fail
        go_meet
        exact ⟨_,rfl,rfl,fun h=>by cases h⟩
      ·rcases (show (c7=false/\¬ nm=0)\/c7=true\/(c7=false/\nm=0) by by_cases h:nm=0 <;> cases c7 <;> simp [h]) with ⟨rfl,m1⟩ | rfl | ⟨rfl,m1⟩
       ·have m2:(nm != 0)=true:=by rw [bne_iff_ne];exact m1
        clear m1
        as_aux_lemma =>
         go_wp2_with fail
         go_meet
         exact ⟨_,rfl,rfl,fun h=>by cases h⟩
       ·by_cases k1:1 < nd
        ·have k2:(1:Int) < (nd:Int):=by omega
         as_aux_lemma =>
          go_wp2_with fail
          go_meet
          exact ⟨_,rfl,rfl,fun h=>by cases h⟩
        have k2:¬ (1:Int) < (nd:Int):=by omega
        by_cases k3:1000 < n
        ·have k4:(1000:Int) < (n:Int):=by omega
         as_aux_lemma =>
          go_wp2_with fail
          go_meet
          exact ⟨_,rfl,rfl,fun h=>by cases h⟩
        have k4:¬ (1000:Int) < (n:Int):=by omega
        by_cases k5:131072 < tx.size
        ·have k6:(131072:Int) < (tx.size:Int):=by omega
         as_aux_lemma =>
          go_wp2_with fail
          go_meet
          exact ⟨_,rfl,rfl,fun h=>by cases h⟩
        have k6:¬ (131072:Int) < (tx.size:Int):=by omega
        have HF:=hid (aI (HX5.out (.inl rfl)) (aI (HX6.out (.inl rfl)) (HX7.out (.inl rfl))))
        as_aux_lemma =>
         go_wp2_with fail
         go_meet
         exact ⟨_,rfl,rfl,fun _=>⟨by omega,by omega,by omega,HF.out.1,HF.out.2.1,HF.out.2.2,by omega,by omega,by omega⟩⟩
       ·have m2:(nm != 0)=false:=by rw [bne_eq_false_iff_eq];exact m1
        have M0:=hid m1;clear m1
        by_cases k1:1 < nd
        ·have k2:(1:Int) < (nd:Int):=by omega
         as_aux_lemma =>
          go_wp2_with fail
          go_meet
          exact ⟨_,rfl,rfl,fun h=>by cases h⟩
        have k2:¬ (1:Int) < (nd:Int):=by omega
        by_cases k3:1000 < n
        ·have k4:(1000:Int) < (n:Int):=by omega
         as_aux_lemma =>
          go_wp2_with fail
          go_meet
          exact ⟨_,rfl,rfl,fun h=>by cases h⟩
        have k4:¬ (1000:Int) < (n:Int):=by omega
        by_cases k5:131072 < tx.size
        ·have k6:(131072:Int) < (tx.size:Int):=by omega
         as_aux_lemma =>
          go_wp2_with fail
          go_meet
          exact ⟨_,rfl,rfl,fun h=>by cases h⟩
        have k6:¬ (131072:Int) < (tx.size:Int):=by omega
        have HF:=hid (aI (HX5.out (.inl rfl)) (aI (HX6.out (.inl rfl)) (HX7.out (.inr M0.out))))
        as_aux_lemma =>
         go_wp2_with fail
         go_meet
         exact ⟨_,rfl,rfl,fun _=>⟨by omega,by omega,by omega,HF.out.1,HF.out.2.1,HF.out.2.2,by omega,by omega,by omega⟩⟩
      ·rcases (show (c7=false/\¬ nm=0)\/c7=true\/(c7=false/\nm=0) by by_cases h:nm=0 <;> cases c7 <;> simp [h]) with ⟨rfl,m1⟩ | rfl | ⟨rfl,m1⟩
       ·have m2:(nm != 0)=true:=by rw [bne_iff_ne];exact m1
        clear m1
        as_aux_lemma =>
         go_wp2_with fail
         go_meet
         exact ⟨_,rfl,rfl,fun h=>by cases h⟩
       ·by_cases k1:1 < nd
        ·have k2:(1:Int) < (nd:Int):=by omega
         as_aux_lemma =>
          go_wp2_with fail
          go_meet
          exact ⟨_,rfl,rfl,fun h=>by cases h⟩
        have k2:¬ (1:Int) < (nd:Int):=by omega
        by_cases k3:1000 < n
        ·have k4:(1000:Int) < (n:Int):=by omega
         as_aux_lemma =>
          go_wp2_with fail
          go_meet
          exact ⟨_,rfl,rfl,fun h=>by cases h⟩
        have k4:¬ (1000:Int) < (n:Int):=by omega
        have k5:¬ 131072 < tx.size:=by have:=size_nil T0;omega
        have k6:¬ (131072:Int) < (tx.size:Int):=by omega
        have HF:=hid (aI (HX5.out (.inl rfl)) (aI (HX6.out (.inr (size_nil T0))) (HX7.out (.inl rfl))))
        as_aux_lemma =>
         go_wp2_with fail
         go_meet
         exact ⟨_,rfl,rfl,fun _=>⟨by omega,by omega,by omega,HF.out.1,HF.out.2.1,HF.out.2.2,by omega,by omega,by omega⟩⟩
       ·have m2:(nm != 0)=false:=by rw [bne_eq_false_iff_eq];exact m1
        have M0:=hid m1;clear m1
        by_cases k1:1 < nd
        ·have k2:(1:Int) < (nd:Int):=by omega
         as_aux_lemma =>
          go_wp2_with fail
          go_meet
          exact ⟨_,rfl,rfl,fun h=>by cases h⟩
        have k2:¬ (1:Int) < (nd:Int):=by omega
        by_cases k3:1000 < n
        ·have k4:(1000:Int) < (n:Int):=by omega
         as_aux_lemma =>
          go_wp2_with fail
          go_meet
          exact ⟨_,rfl,rfl,fun h=>by cases h⟩
        have k4:¬ (1000:Int) < (n:Int):=by omega
        have k5:¬ 131072 < tx.size:=by have:=size_nil T0;omega
        have k6:¬ (131072:Int) < (tx.size:Int):=by omega
        have HF:=hid (aI (HX5.out (.inl rfl)) (aI (HX6.out (.inr (size_nil T0))) (HX7.out (.inr M0.out))))
        as_aux_lemma =>
         go_wp2_with fail
         go_meet
         exact ⟨_,rfl,rfl,fun _=>⟨by omega,by omega,by omega,HF.out.1,HF.out.2.1,HF.out.2.2,by omega,by omega,by omega⟩⟩
     ·have N0:=hid h4;have h5:¬ 0 < n:=by omega
      have h6:¬ (0:Int) < (n:Int):=by omega
      clear h4
      rcases (show (c6=false/\¬ tx.toList=[])\/c6=true\/(c6=false/\tx.toList=[]) by by_cases h:tx.toList=[] <;> cases c6 <;> simp [h]) with ⟨rfl,T0⟩ | rfl | ⟨rfl,T0⟩
      ·as_aux_lemma =>
        go_wp2_with fail
        go_meet
        exact ⟨_,rfl,rfl,fun h=>by cases h⟩
      ·rcases (show (c7=false/\¬ nm=0)\/c7=true\/(c7=false/\nm=0) by by_cases h:nm=0 <;> cases c7 <;> simp [h]) with ⟨rfl,m1⟩ | rfl | ⟨rfl,m1⟩
       ·have m2:(nm != 0)=true:=by rw [bne_iff_ne];exact m1
        clear m1
        as_aux_lemma =>
         go_wp2_with fail
         go_meet
         exact ⟨_,rfl,rfl,fun h=>by cases h⟩
       ·by_cases k1:1 < nd
        ·have k2:(1:Int) < (nd:Int):=by omega
         as_aux_lemma =>
          go_wp2_with fail
          go_meet
          exact ⟨_,rfl,rfl,fun h=>by cases h⟩
        have k2:¬ (1:Int) < (nd:Int):=by omega
        have k3:¬ 1000 < n:=fun _=>absurd N0.out (by omega)
        have k4:¬ (1000:Int) < (n:Int):=by omega
        by_cases k5:131072 < tx.size
        ·have k6:(131072:Int) < (tx.size:Int):=by omega
         as_aux_lemma =>
          go_wp2_with fail
          go_meet
          exact ⟨_,rfl,rfl,fun h=>by cases h⟩
        have k6:¬ (131072:Int) < (tx.size:Int):=by omega
        have HF:=hid (aI (HX5.out (.inr N0.out)) (aI (HX6.out (.inl rfl)) (HX7.out (.inl rfl))))
        as_aux_lemma =>
         go_wp2_with fail
         go_meet
         exact ⟨_,rfl,rfl,fun _=>⟨by omega,by omega,by omega,HF.out.1,HF.out.2.1,HF.out.2.2,by omega,by omega,by omega⟩⟩
       ·have m2:(nm != 0)=false:=by rw [bne_eq_false_iff_eq];exact m1
        have M0:=hid m1;clear m1
        by_cases k1:1 < nd
        ·have k2:(1:Int) < (nd:Int):=by omega
         as_aux_lemma =>
          go_wp2_with fail
          go_meet
          exact ⟨_,rfl,rfl,fun h=>by cases h⟩
        have k2:¬ (1:Int) < (nd:Int):=by omega
        have k3:¬ 1000 < n:=fun _=>absurd N0.out (by omega)
        have k4:¬ (1000:Int) < (n:Int):=by omega
        by_cases k5:131072 < tx.size
        ·have k6:(131072:Int) < (tx.size:Int):=by omega
         as_aux_lemma =>
          go_wp2_with fail
          go_meet
          exact ⟨_,rfl,rfl,fun h=>by cases h⟩
        have k6:¬ (131072:Int) < (tx.size:Int):=by omega
        have HF:=hid (aI (HX5.out (.inr N0.out)) (aI (HX6.out (.inl rfl)) (HX7.out (.inr M0.out))))
        as_aux_lemma =>
         go_wp2_with fail
         go_meet
         exact ⟨_,rfl,rfl,fun _=>⟨by omega,by omega,by omega,HF.out.1,HF.out.2.1,HF.out.2.2,by omega,by omega,by omega⟩⟩
      ·rcases (show (c7=false/\¬ nm=0)\/c7=true\/(c7=false/\nm=0) by by_cases h:nm=0 <;> cases c7 <;> simp [h]) with ⟨rfl,m1⟩ | rfl | ⟨rfl,m1⟩
       ·have m2:(nm != 0)=true:=by rw [bne_iff_ne];exact m1
        clear m1
        as_aux_lemma =>
         go_wp2_with fail
         go_meet
         exact ⟨_,rfl,rfl,fun h=>by cases h⟩
       ·by_cases k1:1 < nd
        ·have k2:(1:Int) < (nd:Int):=by omega
         as_aux_lemma =>
          go_wp2_with fail
          go_meet
          exact ⟨_,rfl,rfl,fun h=>by cases h⟩
        have k2:¬ (1:Int) < (nd:Int):=by omega
        have k3:¬ 1000 < n:=fun _=>absurd N0.out (by omega)
        have k4:¬ (1000:Int) < (n:Int):=by omega
        have k5:¬ 131072 < tx.size:=by have:=size_nil T0;omega
        have k6:¬ (131072:Int) < (tx.size:Int):=by omega
        have HF:=hid (aI (HX5.out (.inr N0.out)) (aI (HX6.out (.inr (size_nil T0))) (HX7.out (.inl rfl))))
        as_aux_lemma =>
         go_wp2_with fail
         go_meet
         exact ⟨_,rfl,rfl,fun _=>⟨by omega,by omega,by omega,HF.out.1,HF.out.2.1,HF.out.2.2,by omega,by omega,by omega⟩⟩
       ·have m2:(nm != 0)=false:=by rw [bne_eq_false_iff_eq];exact m1
        have M0:=hid m1;clear m1
        by_cases k1:1 < nd
        ·have k2:(1:Int) < (nd:Int):=by omega
         as_aux_lemma =>
          go_wp2_with fail
          go_meet
          exact ⟨_,rfl,rfl,fun h=>by cases h⟩
        have k2:¬ (1:Int) < (nd:Int):=by omega
        have k3:¬ 1000 < n:=fun _=>absurd N0.out (by omega)
        have k4:¬ (1000:Int) < (n:Int):=by omega
        have k5:¬ 131072 < tx.size:=by have:=size_nil T0;omega
        have k6:¬ (131072:Int) < (tx.size:Int):=by omega
        have HF:=hid (aI (HX5.out (.inr N0.out)) (aI (HX6.out (.inr (size_nil T0))) (HX7.out (.inr M0.out))))
        as_aux_lemma =>
         go_wp2_with fail
         go_meet
         exact ⟨_,rfl,rfl,fun _=>⟨by omega,by omega,by omega,HF.out.1,HF.out.2.1,HF.out.2.2,by omega,by omega,by omega⟩⟩
    case rest =>
     obtain ⟨bq,rfl,rfl,hq⟩:=hcut;cases bq
     case true =>
      clear hq;go_wp2;go_ret;exact ⟨.inr rfl,HK1.out⟩
     case false =>
      have HQ:=hid (hq rfl);have hd0:0 < d:=(hq rfl).1;clear hq H5 H6 H7;have e1d:IntKind.i64.wrap (d - 1)=d - 1:=IntWalk.i64_in _ (by omega)
      go_upto_region 6 with fail
      go_cut [145] (fun s wx=>∃ b,s = .bool b/\Hid (Kept Nope W1 wx/\(b=false->∀ x ∈ v.desc,Fits x/\(x.kind=5\/x.kind=20)/\x.desc=[])))
      case first =>
       by_cases z:nd=0
       ·have z1:((nd:Int) == 1)=false:=by simp;omega
        have HZ:Hid (v.desc=[]):=hid (List.eq_nil_of_length_eq_zero (by rw [HL.out.2.1];exact z));clear z
        as_aux_lemma =>
         go_wp2_with fail
         go_meet
         exact ⟨_,rfl,hid ⟨kR _ _,fun _ x hx=>by rw [HZ.out] at hx;cases hx⟩⟩
       have z1:((nd:Int) == 1)=true:=by have:=HQ.out.2.2.2.2.2.2.1;simp;omega
       have z2:0 < nd:=by omega
       have z3:(0:Int) < (nd:Int):=by omega
       obtain ⟨x,hx⟩:∃ u,v.desc[0]? = some u:=⟨v.desc[0]'(by rw [HL.out.2.1];exact z2),ge _⟩
       obtain ⟨b2,off2,cap2,pk',ck',pd',cd',q2,hvx,y0,y1,y2,y3,y4,y5⟩:=(HKS.out.2.keep HK1.out (fun _ _ _ h=>h)).sixS hx;simp only [Nat.zero_mul,Nat.add_zero] at y0 y1 y2 y3 y4 y5;injection q2 with q2 q2m q2'
       clear q2m z;subst q2 q2';have HX:=hid (aI hx hvx);have HY:=hid (aI y0 y5);clear hx hvx;have hT1:Tabs W1:=HA.out.2.nope HK1.out;have HT1:=hid hT1;clear hT1;obtain ⟨kx,hkx⟩:∃ m,x.kind=m:=⟨_,rfl⟩
       obtain ⟨nx,hnx⟩:∃ m,x.desc.length=m:=⟨_,rfl⟩
       have HKX:=hid (aI hkx hnx);unfold vagg at HX;rw [hkx,hnx] at HX HY;rw [hkx] at y0;rw [hnx] at y5;clear hkx hnx
       rcases (show (kx=5/\nx=0)\/(kx=5/\nx≠0)\/(kx=20/\nx=0)\/(kx=20/\nx≠0)\/(kx≠5/\kx≠20) by omega) with ⟨rfl,rfl⟩ | ⟨rfl,h2⟩ | ⟨rfl,rfl⟩ | ⟨rfl,h2⟩ | ⟨h1,h2⟩
       ·as_aux_lemma =>
         go_wp2_with (go_at_call 92;go_must (refine (HI.out.2 hd0 x (gm HX.out.1) _ _ HT1.out HX.out.2).mono ?_;rintro e w1 ⟨⟨rfl,hf⟩ | rfl,hk1⟩;all_goals have H1:=hid hk1;all_goals have g5:=(HB.out.kept hk1 (fun h=>h)).cell 5;all_goals have t0:=hk1.cell HY.out.1 (fun h=>h);all_goals have t5:=hk1.cell HY.out.2 (fun h=>h);all_goals simp only [gt,gz,gs] at g5;all_goals clear hk1))
         ·go_meet
          exact ⟨_,rfl,hid ⟨H1.out,fun _ y hy=>by
           have e1:y=x:=by
            obtain ⟨i,hi⟩:=List.mem_iff_getElem?.1 hy;have h1:=(gi.1 hi).1;have h2:=HL.out.2.1;have h3:=HQ.out.2.2.2.2.2.2.1;obtain rfl:i=0:=by omega
            have h4:=HX.out.1;rw [hi] at h4;cases h4
            rfl
           subst e1
           exact ⟨hf,.inl HKX.out.1,List.eq_nil_of_length_eq_zero HKX.out.2⟩⟩⟩
         ·go_meet
          exact ⟨_,rfl,hid ⟨H1.out,fun h=>by cases h⟩⟩
       ·have n1:(0:Int) < (nx:Int):=by omega
        clear h2
        as_aux_lemma =>
         go_wp2_with (go_at_call 92;go_must (refine (HI.out.2 hd0 x (gm HX.out.1) _ _ HT1.out HX.out.2).mono ?_;rintro e w1 ⟨⟨rfl,hf⟩ | rfl,hk1⟩;all_goals have H1:=hid hk1;all_goals have g5:=(HB.out.kept hk1 (fun h=>h)).cell 5;all_goals have t0:=hk1.cell HY.out.1 (fun h=>h);all_goals have t5:=hk1.cell HY.out.2 (fun h=>h);all_goals simp only [gt,gz,gs] at g5;all_goals clear hk1))
         ·go_meet
          exact ⟨_,rfl,hid ⟨H1.out,fun h=>by first | (cases h;done) | exact absurd h (by simp;omega)⟩⟩
         ·go_meet
          exact ⟨_,rfl,hid ⟨H1.out,fun h=>by cases h⟩⟩
       ·as_aux_lemma =>
         go_wp2_with (go_at_call 92;go_must (refine (HI.out.2 hd0 x (gm HX.out.1) _ _ HT1.out HX.out.2).mono ?_;rintro e w1 ⟨⟨rfl,hf⟩ | rfl,hk1⟩;all_goals have H1:=hid hk1;all_goals have g5:=(HB.out.kept hk1 (fun h=>h)).cell 5;all_goals have t0:=hk1.cell HY.out.1 (fun h=>h);all_goals have t5:=hk1.cell HY.out.2 (fun h=>h);all_goals simp only [gt,gz,gs] at g5;all_goals clear hk1))
         ·go_meet
          exact ⟨_,rfl,hid ⟨H1.out,fun _ y hy=>by
           have e1:y=x:=by
            obtain ⟨i,hi⟩:=List.mem_iff_getElem?.1 hy;have h1:=(gi.1 hi).1;have h2:=HL.out.2.1;have h3:=HQ.out.2.2.2.2.2.2.1;obtain rfl:i=0:=by omega
            have h4:=HX.out.1;rw [hi] at h4;cases h4
            rfl
           subst e1
           exact ⟨hf,.inr HKX.out.1,List.eq_nil_of_length_eq_zero HKX.out.2⟩⟩⟩
         ·go_meet
          exact ⟨_,rfl,hid ⟨H1.out,fun h=>by cases h⟩⟩
       ·have n1:(0:Int) < (nx:Int):=by omega
        clear h2
        as_aux_lemma =>
         go_wp2_with (go_at_call 92;go_must (refine (HI.out.2 hd0 x (gm HX.out.1) _ _ HT1.out HX.out.2).mono ?_;rintro e w1 ⟨⟨rfl,hf⟩ | rfl,hk1⟩;all_goals have H1:=hid hk1;all_goals have g5:=(HB.out.kept hk1 (fun h=>h)).cell 5;all_goals have t0:=hk1.cell HY.out.1 (fun h=>h);all_goals have t5:=hk1.cell HY.out.2 (fun h=>h);all_goals simp only [gt,gz,gs] at g5;all_goals clear hk1))
         ·go_meet
          exact ⟨_,rfl,hid ⟨H1.out,fun h=>by first | (cases h;done) | exact absurd h (by simp;omega)⟩⟩
         ·go_meet
          exact ⟨_,rfl,hid ⟨H1.out,fun h=>by cases h⟩⟩
       ·have n1:(kx != 5)=true:=by rw [bne_iff_ne];exact h1
        have n2:(kx != 20)=true:=by rw [bne_iff_ne];exact h2
        clear h1 h2
        as_aux_lemma =>
         go_wp2_with (go_at_call 92;go_must (refine (HI.out.2 hd0 x (gm HX.out.1) _ _ HT1.out HX.out.2).mono ?_;rintro e w1 ⟨⟨rfl,hf⟩ | rfl,hk1⟩;all_goals have H1:=hid hk1;all_goals have g5:=(HB.out.kept hk1 (fun h=>h)).cell 5;all_goals have t0:=hk1.cell HY.out.1 (fun h=>h);all_goals have t5:=hk1.cell HY.out.2 (fun h=>h);all_goals simp only [gt,gz,gs] at g5;all_goals clear hk1))
         ·go_meet
          exact ⟨_,rfl,hid ⟨H1.out,fun h=>by first | (cases h;done) | exact absurd h (by simp;omega)⟩⟩
         ·go_meet
          exact ⟨_,rfl,hid ⟨H1.out,fun h=>by cases h⟩⟩
      case rest =>
       obtain ⟨bd,rfl,HD⟩:=hcut;cases bd
       case true =>
        go_wp2;go_ret;exact ⟨.inr rfl,HK1.out.trans' HD.out.1⟩
       case false =>
        have bW:=HB.out.kept HD.out.1 (fun h=>h);have a0:=bW.cell 0;have a1:=bW.cell 1;have a2:=bW.cell 2;have a3:=bW.cell 3;have a4:=bW.cell 4;have a5:=bW.cell 5;simp only [gt,gz,gs] at a0 a1 a2 a3 a4 a5;clear bW;have hkn9:n<=1000:=HQ.out.2.2.2.2.2.2.2.1;go_wp2_with fail;obtain ⟨wk,rfl⟩:∃ wk:World,wk=wc:=⟨_,rfl⟩
        clear a0 a1 a2 a3 a4 a5
        go_loopw [149] (fun q w'=>∃ k:Nat,k<=n/\q = .int .i64 k/\Hid (Kept Nope wk w'/\∀ (i:Nat) (x:V),i < k->v.kids[i]? = some x->Fits x)) (fun q _=>n - (RowKit.intOf q).toNat)
        case atStart=>exact ⟨0,by omega,rfl,hid ⟨kR _ _,fun i x hi=>by omega⟩⟩
        case round =>
         obtain ⟨k,hk,rfl,HR⟩:=hrel;have HKW:=hid (HK1.out.trans' (HD.out.1.trans' HR.out.1))
         by_cases hkn:k < n
         ·have hkn':(k:Int) < (n:Int):=by omega
          have hk0:(0:Int)<=(k:Int):=by omega
          have e1:IntKind.i64.wrap ((k:Int)+1)=(k:Int)+1:=IntWalk.i64_in _ (by omega);obtain ⟨x,hx⟩:∃ u,v.kids[k]? = some u:=⟨v.kids[k]'(by rw [HL.out.1];exact hkn),ge _⟩
          obtain ⟨b2,off2,cap2,pk',ck',pd',cd',q2,hvx,y0,y1,y2,y3,y4,y5⟩:=(HKS.out.1.keep HKW.out (fun _ _ _ h=>h)).sixS hx;injection q2 with q2 q2m q2'
          clear q2m;subst q2 q2';have HX:=hid (aI hx hvx);clear hx hvx;have HTW:=hid ((HA.out.2.nope HKW.out).alloc (.cells #[.int .i64 x.kind,.int .u64 x.num,.string x.text,.slice pk' x.kids.length ck',.int .i64 x.of_,.slice pd' x.desc.length cd'] 25));go_wp2_with (go_at_call 92;go_must (refine (HI.out.1 hd0 x (gm HX.out.1) _ _ HTW.out (HX.out.2.keep ((kR Nope _).alloc _) (fun _ _ _ h=>h))).mono ?_;rintro e w1 ⟨⟨rfl,hf⟩ | rfl,hk1⟩;all_goals have H1:=hid (((kR Nope _).alloc _).trans' hk1);all_goals clear hk1))
          ·go_roundw
           case rel =>
            refine ⟨k+1,by omega,by go_num,hid ⟨HR.out.1.trans' H1.out,fun i x' hi hx' => ?_⟩⟩
            rcases Nat.lt_or_ge i k with hlt | hge
            ·exact HR.out.2 i x' hlt hx'
            ·obtain rfl:i=k:=by omega
             have h1:=HX.out.1;rw [hx'] at h1;cases h1;exact hf
           case measure=>simp [RowKit.intOf];omega
          ·go_ret;exact ⟨.inr rfl,HKW.out.trans' H1.out⟩
         ·obtain rfl:k=n:=by omega
          have hlt:¬ (k:Int) < (k:Int):=by omega
          have bW:=(HB.out.kept HD.out.1 (fun h=>h)).kept HR.out.1 (fun h=>h);have a0:=bW.cell 0;have a1:=bW.cell 1;have a2:=bW.cell 2;have a3:=bW.cell 3;have a4:=bW.cell 4;have a5:=bW.cell 5;simp only [gt,gz,gs] at a0 a1 a2 a3 a4 a5;clear bW;have HVA:=hid (HA.out.1.keep HKW.out (fun _ _ _ h=>h));have HTW:=hid (HA.out.2.nope HKW.out);go_wp2_with (go_at_call 148;go_must (refine (xiB v _ _ HVA.out (by have:=HQ.out;rw [HL.out.2.2.1];omega) (by rw [HL.out.1];exact hkn9) (by rw [HL.out.2.2.2.2];exact HQ.out.2.2.2.2.2.2.2.2) HTW.out).mono ?_;rintro e w2 ⟨⟨rfl,hc⟩ | rfl,hk2⟩;all_goals have H2:=hid hk2;all_goals clear hk2))
          ·go_ret;refine ⟨.inl ⟨rfl,.mk ?_ hc (fun x hx => ?_) fun x hx=>(HD.out.2 (by first | exact rfl | exact trivial) x hx).1⟩,HKW.out.trans' H2.out⟩
           ·have hQ:=HQ.out;have hL:=HL.out;refine ⟨by omega,?_,by rw [hL.2.2.1,hL.2.2.2.2];exact hQ.2.2.2.2.1,by rw [hL.2.2.1,hL.2.2.2.1];exact hQ.2.2.2.2.2.1,by omega,by omega,by rw [hL.2.2.2.2];exact hQ.2.2.2.2.2.2.2.2,fun x hx=>(HD.out.2 (by first | exact rfl | exact trivial) x hx).2⟩
            rcases hQ.2.2.2.1 with h | h | h | h
            ·exact .inl (by omega)
            ·exact .inr (.inl (by omega))
            ·exact .inr (.inr (.inl (by omega)))
            ·exact .inr (.inr (.inr (List.eq_nil_of_length_eq_zero (by omega))))
           ·obtain ⟨i,hi⟩:=List.mem_iff_getElem?.1 hx;exact HR.out.2 i x (by have:=(gi.1 hi).1;have:=HL.out.1;omega) hi
          ·go_ret;exact ⟨.inr rfl,HKW.out.trans' H2.out⟩
end Go.Proofs.YtmdpodeegdjkeaaGreatDoor
