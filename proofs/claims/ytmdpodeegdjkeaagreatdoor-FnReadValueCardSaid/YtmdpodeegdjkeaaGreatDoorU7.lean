/- Part 7 of the proof of the readers and the guards. No conditions. -/
import Derived.Carry
import Derived.Test.YtmdpodeegdjkeaaGreatDoorU0
import Derived.Test.YtmdpodeegdjkeaaGreatDoorU5
import Derived.Test.YtmdpodeegdjkeaaGreatDoorU6
set_option maxRecDepth 100000
set_option maxHeartbeats 3200000
namespace Go.Proofs.YtmdpodeegdjkeaaGreatDoor
open Go Go.RowKit Go.Lib Tryz
def SymIH (v:V):Prop:=∀ k,k ∈ v.kids->∀ (W:World) (x:Value),VAgg Any_ W x k->Calls prog 13 #[x] W (AskF (xip k) W)
theorem SymbolArrays_step (v:V) (w:World) (xa:Value) (ha:VAgg Any_ w xa v) (ih:SymIH v) :
  Calls prog 13 #[xa] w (AskF (xip v) w):=by
 obtain ⟨ka,da,rfl,hna,hka,hda⟩:=ha;have HKA:=hid hka;have HI:=hid ih;obtain ⟨p1,c1,rfl,q1,m1⟩:=hka.form;have hlm:v.kids.length<=maxLen:=by omega
 clear hna hka hda ih q1 m1;unfold maxLen at hlm;unfold vagg;obtain ⟨n,hn⟩:∃ m,v.kids.length=m:=⟨_,rfl⟩
 rw [hn] at hlm ⊢;have HL:=hid hn;clear hn;obtain ⟨kd,hkd⟩:∃ m,v.kind=m:=⟨_,rfl⟩
 rw [hkd];have HD:=hid hkd;clear hkd
 by_cases h23:kd=23/\0 < n
 ·obtain ⟨rfl,h0⟩:=h23;obtain ⟨u,hu⟩:∃ u,v.kids[0]? = some u:=⟨v.kids[0]'(by rw [HL.out];exact h0),ge _⟩
  obtain ⟨b1,off1,cap1,ks1,ds1,q1,hc1,_,hvx,x0,x1,x2,x3,x4,x5⟩:=HKA.out.six hu;simp only [Nat.zero_mul,Nat.add_zero] at x0 x1 x2 x3 x4 x5;injection q1 with q1 _ q1'
  subst q1 q1';have h0':(0:Int) < (n:Int):=by omega
  have x0a:∀ o,(w.alloc o).cell? ⟨b1,off1,none⟩=some (.int .i64 u.kind):=fun o=>((kR Nope w).alloc o).cell x0 (fun h=>h)
  have HU:=hid hu;clear hu hvx hc1 x0 x1 x2 x3 x4 x5
  by_cases h20:u.kind=20
  ·rw [h20] at x0a;go_enter func13,ntmps13;go_wp2;go_ret;exact ⟨.inl rfl,(kR _ _).alloc _⟩
  ·have h20':(u.kind == 20)=false:=by simpa using h20
   have H20:=hid h20;clear h20;go_enter func13,ntmps13;go_wp2;have HT:=Blk.one w #[Value.int .i64 23,.int .u64 v.num,.string v.text,.slice (some ⟨b1,off1,none⟩) n c1,.int .i64 v.of_,da] 25;generalize w.alloc (.cells #[Value.int .i64 23,.int .u64 v.num,.string v.text,.slice (some ⟨b1,off1,none⟩) n c1,.int .i64 v.of_,da] 25)=W2 at HT ⊢;generalize w.heap.size=A at HT ⊢;have HW:=hid HT;clear HT
   go_loopw [25] (fun c w'=>∃ k:Nat,k<=n/\c = .int .i64 k/\Hid (Kept Nope W2 w'/\∀ (i:Nat) (x:V),i < k->v.kids[i]? = some x->xip x)) (fun c _=>n - (RowKit.intOf c).toNat)
   case atStart=>exact ⟨0,by omega,rfl,hid ⟨kR _ _,fun i x hi=>by omega⟩⟩
   case round =>
    obtain ⟨k,hk,rfl,HR⟩:=hrel;have HKW:=hid (HW.out.2.trans' HR.out.1)
    by_cases hkn:k < n
    ·have hkn':(k:Int) < (n:Int):=by omega
     have hk0:(0:Int)<=(k:Int):=by omega
     have e1:IntKind.i64.wrap ((k:Int)+1)=(k:Int)+1:=IntWalk.i64_in _ (by omega);obtain ⟨x,hx⟩:∃ u,v.kids[k]? = some u:=⟨v.kids[k]'(by rw [HL.out];exact hkn),ge _⟩
     obtain ⟨b2,off2,cap2,ks2,ds2,q2,_,_,hvx,y0,y1,y2,y3,y4,y5⟩:=(HKA.out.keep HKW.out (fun _ _ _ h=>h)).six hx;injection q2 with q2 _ q2'
     injection q2 with q2
     injection q2 with q4 q5
     subst q4 q5 q2';have hf2:=hvx;obtain ⟨ks3,ds3,q3,_,hs1,hs2⟩:=hf2;obtain ⟨pk,ck,hpk,_⟩:=hs1.form;obtain ⟨pd,cd,hpd,_⟩:=hs2.form
     have hq4:ks2=ks3/\ds2=ds3:=by
      unfold vagg at q3;injection q3 with q3
      injection q3 with q3
      injection q3 with _ q3;injection q3 with _ q3;injection q3 with _ q3;injection q3 with q5 q3;injection q3 with _ q3;injection q3 with q6 _
      exact ⟨q5,q6⟩
     rw [<- hq4.1] at hpk;rw [<- hq4.2] at hpd;subst hpk hpd;clear hq4 q3 hs1 hs2;have HX:=hid (aI hx hvx);clear hx hvx;go_wp2_with (go_at_call 13;go_must (refine (HI.out x (gm HX.out.1) _ _ (HX.out.2.keep ((kR Nope wr).alloc _) (fun _ _ _ h=>h))).mono ?_;rintro e w1 ⟨rfl | ⟨rfl,hb⟩,hk1⟩;all_goals have H1:=hid (((kR Nope wr).alloc _).trans' hk1);clear hk1))
     ·go_ret;exact ⟨.inl rfl,HKW.out.trans' H1.out⟩
     ·go_roundw
      case rel =>
       refine ⟨k+1,by omega,by go_num,hid ⟨HR.out.1.trans' H1.out,fun i x' hi hx' => ?_⟩⟩
       rcases Nat.lt_or_ge i k with hlt | hge
       ·exact HR.out.2 i x' hlt hx'
       ·obtain rfl:i=k:=by omega
        have h1:=HX.out.1;rw [hx'] at h1;cases h1;exact hb
      case measure=>simp [RowKit.intOf];omega
    ·obtain rfl:k=n:=by omega
     have hlt:¬ (k:Int) < (k:Int):=by omega
     go_wp2;go_ret;refine ⟨.inr ⟨rfl,.mk (fun k0 _ h=>by rw [HU.out] at h;cases h;exact H20.out) fun x hx => ?_⟩,HKW.out⟩;obtain ⟨i,hi⟩:=List.mem_iff_getElem?.1 hx;exact HR.out.2 i x (by have:=(gi.1 hi).1;have:=HL.out;omega) hi
 ·by_cases hk:kd=23
  ·have hn0:n=0:=by omega
   subst hn0;subst hk;go_enter func13,ntmps13;go_wp2;have HT:=Blk.one w #[Value.int .i64 23,.int .u64 v.num,.string v.text,.slice p1 0 c1,.int .i64 v.of_,da] 25;generalize w.alloc (.cells #[Value.int .i64 23,.int .u64 v.num,.string v.text,.slice p1 0 c1,.int .i64 v.of_,da] 25)=W2 at HT ⊢;generalize w.heap.size=A at HT ⊢;have HW:=hid HT;clear HT
   go_loopw [25] (fun c w'=>c = .int .i64 0/\w'=W2) (fun _ _=>0)
   case atStart=>exact ⟨rfl,rfl⟩
   case round =>
    obtain ⟨rfl,rfl⟩:=hrel;go_wp2;go_ret;refine ⟨.inr ⟨rfl,.mk (fun k0 _ h=>by have:=(gi.1 h).1;have:=HL.out;omega) fun x hx => ?_⟩,HW.out.2⟩;obtain ⟨i,hi⟩:=List.mem_iff_getElem?.1 hx;have:=(gi.1 hi).1;have:=HL.out;omega
  ·have hk':(kd == 23)=false:=by simpa using hk
   have HNK:=hid hk;clear hk;go_enter func13,ntmps13;go_wp2;have HT:=Blk.one w #[Value.int .i64 kd,.int .u64 v.num,.string v.text,.slice p1 n c1,.int .i64 v.of_,da] 25;generalize w.alloc (.cells #[Value.int .i64 kd,.int .u64 v.num,.string v.text,.slice p1 n c1,.int .i64 v.of_,da] 25)=W2 at HT ⊢;generalize w.heap.size=A at HT ⊢;have HW:=hid HT;clear HT
   go_loopw [25] (fun c w'=>∃ k:Nat,k<=n/\c = .int .i64 k/\Hid (Kept Nope W2 w'/\∀ (i:Nat) (x:V),i < k->v.kids[i]? = some x->xip x)) (fun c _=>n - (RowKit.intOf c).toNat)
   case atStart=>exact ⟨0,by omega,rfl,hid ⟨kR _ _,fun i x hi=>by omega⟩⟩
   case round =>
    obtain ⟨k,hk,rfl,HR⟩:=hrel;have HKW:=hid (HW.out.2.trans' HR.out.1)
    by_cases hkn:k < n
    ·have hkn':(k:Int) < (n:Int):=by omega
     have hk0:(0:Int)<=(k:Int):=by omega
     have e1:IntKind.i64.wrap ((k:Int)+1)=(k:Int)+1:=IntWalk.i64_in _ (by omega);obtain ⟨x,hx⟩:∃ u,v.kids[k]? = some u:=⟨v.kids[k]'(by rw [HL.out];exact hkn),ge _⟩
     obtain ⟨b2,off2,cap2,ks2,ds2,q2,_,_,hvx,y0,y1,y2,y3,y4,y5⟩:=(HKA.out.keep HKW.out (fun _ _ _ h=>h)).six hx;injection q2 with q2 _ q2'
     subst q2 q2';have hf2:=hvx;obtain ⟨ks3,ds3,q3,_,hs1,hs2⟩:=hf2;obtain ⟨pk,ck,hpk,_⟩:=hs1.form;obtain ⟨pd,cd,hpd,_⟩:=hs2.form
     have hq4:ks2=ks3/\ds2=ds3:=by
      unfold vagg at q3;injection q3 with q3
      injection q3 with q3
      injection q3 with _ q3;injection q3 with _ q3;injection q3 with _ q3;injection q3 with q5 q3;injection q3 with _ q3;injection q3 with q6 _
      exact ⟨q5,q6⟩
     rw [<- hq4.1] at hpk;rw [<- hq4.2] at hpd;subst hpk hpd;clear hq4 q3 hs1 hs2;have HX:=hid (aI hx hvx);clear hx hvx;go_wp2_with (go_at_call 13;go_must (refine (HI.out x (gm HX.out.1) _ _ (HX.out.2.keep ((kR Nope wr).alloc _) (fun _ _ _ h=>h))).mono ?_;rintro e w1 ⟨rfl | ⟨rfl,hb⟩,hk1⟩;all_goals have H1:=hid (((kR Nope wr).alloc _).trans' hk1);clear hk1))
     ·go_ret;exact ⟨.inl rfl,HKW.out.trans' H1.out⟩
     ·go_roundw
      case rel =>
       refine ⟨k+1,by omega,by go_num,hid ⟨HR.out.1.trans' H1.out,fun i x' hi hx' => ?_⟩⟩
       rcases Nat.lt_or_ge i k with hlt | hge
       ·exact HR.out.2 i x' hlt hx'
       ·obtain rfl:i=k:=by omega
        have h1:=HX.out.1;rw [hx'] at h1;cases h1;exact hb
      case measure=>simp [RowKit.intOf];omega
    ·obtain rfl:k=n:=by omega
     have hlt:¬ (k:Int) < (k:Int):=by omega
     go_wp2;go_ret;refine ⟨.inr ⟨rfl,.mk (fun k0 h _=>absurd (HD.out ▸ h) HNK.out) fun x hx => ?_⟩,HKW.out⟩;obtain ⟨i,hi⟩:=List.mem_iff_getElem?.1 hx;exact HR.out.2 i x (by have:=(gi.1 hi).1;have:=HL.out;omega) hi
theorem xhy:∀ (n:Nat) (v:V),SizeOf.sizeOf v<=n->∀ (w:World) (xa:Value),VAgg Any_ w xa v->Calls prog 13 #[xa] w (AskF (xip v) w):=by
 intro n
 induction n using Nat.strongRecOn with
 | _ n ih =>
  intro v hn w xa ha
  exact SymbolArrays_step v w xa ha fun k hk W x hx=>by
   have hs:=V.sizeOf_kid hk;exact ih (SizeOf.sizeOf k) (by omega) k (Nat.le_refl _) W x hx
theorem xbN (v:V) (w:World) (xa:Value) (ha:VAgg Any_ w xa v):Calls prog 13 #[xa] w (AskF (xip v) w):=xhy _ v (Nat.le_refl _) w xa ha
theorem VSl.sixS {S : Nat → Prop} {w : World} {s : Value} {l : List V} (h : VSl S w s l) {i : Nat} {v : V} (hv : l[i]? = some v) : ∃ b off cap pk ck pd cd, s = .slice (some ⟨b, off, none⟩) l.length cap ∧ VAgg S w (vagg v (.slice pk v.kids.length ck) (.slice pd v.desc.length cd)) v ∧
      w.cell? ⟨b, off + i * 6, none⟩ = some (.int .i64 v.kind) ∧ w.cell? ⟨b, off + i * 6 + 1, none⟩ = some (.int .u64 v.num) ∧
        w.cell? ⟨b, off + i * 6 + 2, none⟩ = some (.string v.text) ∧ w.cell? ⟨b, off + i * 6 + 3, none⟩ = some (.slice pk v.kids.length ck) ∧
        w.cell? ⟨b, off + i * 6 + 4, none⟩ = some (.int .i64 v.of_) ∧ w.cell? ⟨b, off + i * 6 + 5, none⟩ = some (.slice pd v.desc.length cd) := by
  obtain ⟨b, off, cap, ks, ds, e, _, h1, h2, h3, c0, c1, c2, c3, c4, c5, k0, k1⟩ := h.at_ hv;obtain ⟨pk, ck, rfl, _⟩ := k0.form;obtain ⟨pd, cd, rfl, _⟩ := k1.form;exact ⟨b, off, cap, pk, ck, pd, cd, e, ⟨_, _, rfl, h3, k0, k1⟩, c0, c1, c2, c3, c4, c5⟩
theorem VAgg.alloc {S:Nat->Prop} {w:World} {x:Value} {v:V} (h:VAgg S w x v) (o:Obj):VAgg S (w.alloc o) x v:=h.keep ((kR Nope w).alloc o) fun _ _ _ h=>h
theorem xoc {t:ByteArray} (h:¬ t=⟨#[]⟩):¬ t.toList=[]:=by
 intro e;rw [ByteArray.toList_eq] at e;obtain ⟨a⟩:=t;exact h (congrArg ByteArray.mk (Array.toList_inj.1 (show a.toList = #[].toList from e)))
def xjt (w:World):Ending->World->Prop:=fun e w'=>∃ b,e = .returned (.bool b)/\Kept Nope w w'
theorem xlz (k:Int) (w:World) (h:k=0\/k=1\/18<=k):Calls prog 192 #[.int .i64 k] w fun e w'=>e = .returned (.int .i64 1)/\w=w':=by
 rcases h with rfl | rfl | h
 ·go_enter func192,ntmps192;go_wp2;go_ret;exact ⟨rfl,rfl⟩
 ·go_enter func192,ntmps192;go_wp2;go_ret;exact ⟨rfl,rfl⟩
 ·have n0:(k == 0)=false:=by simp;omega
  have n1:(k == 1)=false:=by simp;omega
  go_enter func192,ntmps192;go_wp2;go_ret;exact ⟨rfl,rfl⟩
theorem xge (k:Int) (w:World) (h:1 < k/\k < 18):Calls prog 192 #[.int .i64 k] w fun e w'=>e = .returned (.int .i64 0)/\w=w':=by
 have n0:(k == 0)=false:=by simp;omega
 have n1:(k == 1)=false:=by simp;omega
 obtain ⟨h1,h2⟩:=h;go_enter func192,ntmps192;go_wp2;go_ret;exact ⟨rfl,rfl⟩
theorem xef {P:Program} {ops:Array Oper} {Q:Exit->Act->World->Prop} {K:Act->World->Prop} {i:Nat} {a:Act} {w:World} (h:∃ o,ops[i]? = some o/\o.guard=none/\∃ v w',(execOp a.eval o).run P w = .ok (.value v) w'/\K (a.put o.dst v) w'):wpOp P ops Q i K a w:=by
 obtain ⟨o,ho,hg,v,w',hr,hk⟩:=h;exact wpOp_run ho hg hr hk
theorem xbv {P:Program} {ops:Array Oper} {Q:Exit->Act->World->Prop} {K:Act->World->Prop} {i:Nat} {a:Act} {w:World} (h:∃ o,ops[i]? = some o/\o.guard=none/\∃ w',(execOp a.eval o).run P w = .ok .skip w'/\K (a.put o.dst undef) w'):wpOp P ops Q i K a w:=by
 obtain ⟨o,ho,hg,w',hrun,hK⟩:=h;unfold wpOp;rw [ho];simp only [Region.wanted,hg,if_true]
 left
 unfold Oper.wp;rw [hrun];exact hK
theorem wpOp_call {P:Program} {ops:Array Oper} {Q:Exit->Act->World->Prop} {K:Act->World->Prop} {i:Nat} {a:Act} {w:World} (h:∃ o,ops[i]? = some o/\o.guard=none/\Oper.wp P o a w K Q):wpOp P ops Q i K a w:=by
 obtain ⟨o,ho,hg,hK⟩:=h;unfold wpOp;rw [ho];simp only [Region.wanted,hg,if_true];exact .inl hK
theorem xpf {ops:Array Oper} {l:Array Bool} (hs:l.size=ops.size) (hr:Region.ready .any ops l=[]) (hc:(List.range ops.size).all (fun i=>match ops[i]? with | some o=>o.after.all (fun e=>decide (e.on < i)) | none=>true)=true):∀ i,i < ops.size->l.getD i false=true:=by
 intro i
 induction i using Nat.strongRecOn with
 | _ i ih =>
  intro hi
  cases hl:l.getD i false with
  | true=>rfl
  | false =>
   exfalso
   have h1:=List.all_eq_true.1 hc i (List.mem_range.2 hi);have ho:ops[i]? = some ops[i]:=Array.getElem?_eq_getElem hi;rw [ho] at h1;have hm:i ∈ Region.ready .any ops l:=mem_ready.2 ⟨?_,ops[i],ho,fun e he _ => ?_⟩
   ·rw [hr] at hm;cases hm
   ·rw [Array.getD_eq_getD_getElem?] at hl ⊢;rw [Array.getElem?_eq_getElem (by omega)] at hl ⊢;exact hl
   ·have h2:e.on < i:=by have:=Array.all_eq_true_iff_forall_mem.1 h1 e he;simpa using this
    exact ih e.on h2 (by omega)
theorem xca {ops:Array Oper} {l:Array Bool} {i:Nat} (j:Nat) (hi:i ∈ Region.ready .any ops l) (hc:(match ops[i]? with | some o=>o.after.any (fun e=>e.on == j && Region.binds .any e) | none=>false)=true):l.getD j false=true:=by
 obtain ⟨_,o,ho,hd⟩:=mem_ready.1 hi;rw [ho] at hc;obtain ⟨e,he,h⟩:=Array.any_eq_true'.1 hc;rw [Bool.and_eq_true] at h;have:=hd e he h.2;have hj:e.on=j:=by simpa using h.1
 rwa [hj] at this
def fixT:List (Int × Int):=[(2,1),(6,1),(3,2),(7,2),(4,4),(8,4),(10,4),(12,4),(15,4),(5,8),(9,8),(11,8),(13,8),(16,8),(14,16),(17,16)]
theorem xos (T:List (Int × Int)) (h:(T.map (·.1)).Nodup):xeP T:=fun i j p q hi hj e=>by
 have h1:(T.map (·.1))[i]? = some p.1:=by rw [gM,hi];rfl
 have h2:(T.map (·.1))[j]? = some q.1:=by rw [gM,hj];rfl
 exact (List.getElem?_inj (by simpa using (gi.1 hi).1) h).1 (h1.trans (e ▸ h2.symm))
theorem xaR (P:Program) (a:Act) (d:Option Tmp) (t ty:TypeId) (m x v:Operand) (ps:String) (af:Array Edge) (g:Option (Nat × Bool)) (w:World) :
  (execOp a.eval { dst:=d,op:=Op.insert t m x v,type:=ty,pos:=ps,after:=af,guard:=g }).run P w=((Instr.mapUpdate t (a.eval m) (a.eval x) (a.eval v)).run P w).andThen fun _ w' => .ok .skip w':=by
 simp [execOp]
theorem xnh (P:Program) (a:Act) (d:Option Tmp) (t ty:TypeId) (m x:Operand) (ps:String) (af:Array Edge) (g:Option (Nat × Bool)) (w:World) :
  (execOp a.eval { dst:=d,op:=Op.lookup t m x false,type:=ty,pos:=ps,after:=af,guard:=g }).run P w=((Instr.lookup t (a.eval m) (a.eval x) false).run P w).andThen fun v w' => .ok (.value v) w':=by
 simp [execOp]
structure FixI (k bs:Int) (w0:World) (b:Nat) (l:Array Bool) (a:Act) (w:World):Prop where
 lsz:l.size=24
 asz:a.tmps.size=10
 df:a.defers=[]
 s0:a.tmps.getD 0 undef = .int .i64 k
 lit:xgr fixT 3 b w0 l a w
 cl:l.getD 17 false=true->l.getD 0 false=true/\∀ j,j < 16->l.getD (j+1) false=true
 slot:xfI [(17,4,.map (some b)),(18,5,.int .i64 k),(19,6,.int .i64 (look fixT k)),(20,7,.int .i64 k),(21,8,.int .i64 bs),(22,9,.int .i64 (look fixT k - bs)),(23,2,.int .i64 (look fixT k - bs))] l a
theorem xpD {a:Act} {d j:Nat} {v:Value} (h:d≠j):(a.put (some d) v).tmps.getD j undef=a.tmps.getD j undef:=by
 simp only [Act.put,Array.getD_eq_getD_getElem?];rw [Array.getElem?_setIfInBounds,if_neg h]
theorem put_eq {a:Act} {d:Nat} {v:Value} (h:d < a.tmps.size):(a.put (some d) v).tmps.getD d undef=v:=by simp [Act.put,h]
theorem xoR {l:Array Bool} {i:Nat} (h:l.getD i true=false):l.getD i false=false:=by
 rw [Array.getD_eq_getD_getElem?] at h ⊢
 cases hx:l[i]? with
 | none=>rfl
 | some b=>rw [hx] at h;exact h
theorem xjT {l:Array Bool} {i j:Nat} (h:l.getD j false=true):(l.setIfInBounds i true).getD j false=true:=by
 by_cases e:i=j
 ·subst e
  rcases Nat.lt_or_ge i l.size with h1 | h1
  ·exact getD_set_eq h1
  ·rw [Array.getD_eq_getD_getElem?,Array.getElem?_eq_none h1] at h;cases h
 ·rw [xaN e];exact h
theorem FixI.other {k bs:Int} {w0 w:World} {b:Nat} {l:Array Bool} {a:Act} (i d:Nat) (v:Value) (h:FixI k bs w0 b l a w) (hi:16 < i) (hd:d < 10) (h0:d≠0) (h3:d≠3) (hcl:i=17->l.getD 0 false=true/\∀ j,j < 16->l.getD (j+1) false=true)
  (hF:∀ f ∈ [(17,4,Value.map (some b)),(18,5,.int .i64 k),(19,6,.int .i64 (look fixT k)),(20,7,.int .i64 k),(21,8,.int .i64 bs),(22,9,.int .i64 (look fixT k - bs)),(23,2,.int .i64 (look fixT k - bs))],(f.1=i->f.2.1=d/\f.2.2=v)/\(f.1≠i->f.2.1≠d)) :
  FixI k bs w0 b (l.setIfInBounds i true) (a.put (some d) v) w :=
 ⟨by simpa using h.lsz,by simpa [Act.put] using h.asz,h.df,by rw [xpD h0];exact h.s0,h.lit.other (by show 16 < i;exact hi) (xpD h3),fun hh=>(by
  have h7:l.getD 0 false=true/\∀ j,j < 16->l.getD (j+1) false=true:=by
   by_cases e:i=17
   ·exact hcl e
   ·rw [xaN e] at hh;exact h.cl hh
  exact ⟨xjT h7.1,fun j hj=>xjT (h7.2 j hj)⟩),h.slot.step hF (by rw [h.asz];exact hd)⟩
theorem look_fix (k:Int):-1<=look fixT k/\look fixT k<=16:=by
 unfold look
 cases h:fixT.find? (fun p=>k == p.1) with
 | none=>simp
 | some p =>
  have hm:=List.mem_of_find?_eq_some h;simp only [Option.map_some,Option.getD_some];simp only [fixT,List.mem_cons,List.mem_nil_iff,or_false] at hm
  rcases hm with rfl | rfl | rfl | rfl | rfl | rfl | rfl | rfl | rfl | rfl | rfl | rfl | rfl | rfl | rfl | rfl <;> simp
theorem xeD (k bs:Int) (w:World) (hb01:bs=0\/bs=1) (hbs:∀ W,Calls prog 192 #[.int .i64 k] W fun e w'=>e = .returned (.int .i64 bs)/\W=w'):Calls prog 151 #[.int .i64 k] w fun e w'=>e = .returned (.int .i64 (look fixT k - bs))/\Kept Nope w w':=by
 have HBS:=hid hbs;clear hbs;go_enter func151,ntmps151;go_wp2;refine wp_region_any (by kernel_rfl) ?_;refine xpr (FixI k bs w.drew w.heap.size) (fun l a w' hI i hi => ?_) (fun l a w' hI hr => ?_) _ _ _ _ (by decide) ?_
 ·have hl:=xoR (mem_ready.1 hi).1;have hlt:i < 24:=by obtain ⟨_,o,ho,_⟩:=mem_ready.1 hi;exact (Array.getElem?_eq_some_iff.1 ho).1
  have hsl:=hI.slot;have hz:=hI.lsz
  rcases (show i=0\/(0 < i/\i < 17)\/i=17\/i=18\/i=19\/i=20\/i=21\/i=22\/i=23 by omega) with rfl | ⟨h1,h2⟩ | rfl | rfl | rfl | rfl | rfl | rfl | rfl
  ·refine xef ?_;simp only [gt,gz,Option.some.injEq,exists_eq_left'];refine ⟨trivial,.map (some w'.heap.size),w'.alloc (.map #[] 0),?_,⟨by simpa using hz,by simpa [Act.put] using hI.asz,hI.df,by rw [xpD (by omega)];exact hI.s0,hI.lit.make hl (by omega) (put_eq (by rw [hI.asz];omega)),fun hh => ?_,hsl.step (fun f hf => ?_) (by rw [hI.asz];omega)⟩⟩
   ·rfl
   ·rw [xaN (by omega)] at hh;have:=(hI.cl hh).1;rw [hl] at this;cases this
   ·simp at hf;rcases hf with rfl | rfl | rfl | rfl | rfl | rfl | rfl <;> simp
  ·have d0:l.getD 0 false=true:=by
    rcases (show i=1\/i=2\/i=3\/i=4\/i=5\/i=6\/i=7\/i=8\/i=9\/i=10\/i=11\/i=12\/i=13\/i=14\/i=15\/i=16 by omega) with rfl | rfl | rfl | rfl | rfl | rfl | rfl | rfl | rfl | rfl | rfl | rfl | rfl | rfl | rfl | rfl
    all_goals exact xca 0 hi (by kernel_rfl)
   have e3:a.eval (.tmp 3) = .map (some w.heap.size):=(hI.lit.yes d0).1;have hT:xeP fixT:=xos _ (by decide)
   have hcl2:∀ w2,xgr fixT 3 w.heap.size w.drew (l.setIfInBounds i true) a w2->FixI k bs w.drew w.heap.size (l.setIfInBounds i true) (a.put none undef) w2:=fun w2 hL =>
    ⟨by simpa using hz,hI.asz,hI.df,hI.s0,hL,fun hh=>(by
     rw [xaN (by omega)] at hh
     exact ⟨xjT (hI.cl hh).1,fun j hj=>xjT ((hI.cl hh).2 j hj)⟩),hsl.none_ (fun f hf=>by simp at hf;rcases hf with rfl | rfl | rfl | rfl | rfl | rfl | rfl <;> simp <;> omega)⟩
   rcases (show i=1\/i=2\/i=3\/i=4\/i=5\/i=6\/i=7\/i=8\/i=9\/i=10\/i=11\/i=12\/i=13\/i=14\/i=15\/i=16 by omega) with rfl | rfl | rfl | rfl | rfl | rfl | rfl | rfl | rfl | rfl | rfl | rfl | rfl | rfl | rfl | rfl
   ·obtain ⟨w2,hrun,hL⟩:=hI.lit.ins (j:=0) (p:=(2,1)) hT d0 rfl hl (by omega);refine xbv ?_;simp only [gt,gs,gz,Option.some.injEq,exists_eq_left'];refine ⟨trivial,w2,?_,hcl2 w2 hL⟩;rw [xaR,e3];simp only [Act.eval];rw [hrun]
    rfl
   ·obtain ⟨w2,hrun,hL⟩:=hI.lit.ins (j:=1) (p:=(6,1)) hT d0 rfl hl (by omega);refine xbv ?_;simp only [gt,gs,gz,Option.some.injEq,exists_eq_left'];refine ⟨trivial,w2,?_,hcl2 w2 hL⟩;rw [xaR,e3];simp only [Act.eval];rw [hrun]
    rfl
   ·obtain ⟨w2,hrun,hL⟩:=hI.lit.ins (j:=2) (p:=(3,2)) hT d0 rfl hl (by omega);refine xbv ?_;simp only [gt,gs,gz,Option.some.injEq,exists_eq_left'];refine ⟨trivial,w2,?_,hcl2 w2 hL⟩;rw [xaR,e3];simp only [Act.eval];rw [hrun]
    rfl
   ·obtain ⟨w2,hrun,hL⟩:=hI.lit.ins (j:=3) (p:=(7,2)) hT d0 rfl hl (by omega);refine xbv ?_;simp only [gt,gs,gz,Option.some.injEq,exists_eq_left'];refine ⟨trivial,w2,?_,hcl2 w2 hL⟩;rw [xaR,e3];simp only [Act.eval];rw [hrun]
    rfl
   ·obtain ⟨w2,hrun,hL⟩:=hI.lit.ins (j:=4) (p:=(4,4)) hT d0 rfl hl (by omega);refine xbv ?_;simp only [gt,gs,gz,Option.some.injEq,exists_eq_left'];refine ⟨trivial,w2,?_,hcl2 w2 hL⟩;rw [xaR,e3];simp only [Act.eval];rw [hrun]
    rfl
   ·obtain ⟨w2,hrun,hL⟩:=hI.lit.ins (j:=5) (p:=(8,4)) hT d0 rfl hl (by omega);refine xbv ?_;simp only [gt,gs,gz,Option.some.injEq,exists_eq_left'];refine ⟨trivial,w2,?_,hcl2 w2 hL⟩;rw [xaR,e3];simp only [Act.eval];rw [hrun]
    rfl
   ·obtain ⟨w2,hrun,hL⟩:=hI.lit.ins (j:=6) (p:=(10,4)) hT d0 rfl hl (by omega);refine xbv ?_;simp only [gt,gs,gz,Option.some.injEq,exists_eq_left'];refine ⟨trivial,w2,?_,hcl2 w2 hL⟩;rw [xaR,e3];simp only [Act.eval];rw [hrun]
    rfl
   ·obtain ⟨w2,hrun,hL⟩:=hI.lit.ins (j:=7) (p:=(12,4)) hT d0 rfl hl (by omega);refine xbv ?_;simp only [gt,gs,gz,Option.some.injEq,exists_eq_left'];refine ⟨trivial,w2,?_,hcl2 w2 hL⟩;rw [xaR,e3];simp only [Act.eval];rw [hrun]
    rfl
   ·obtain ⟨w2,hrun,hL⟩:=hI.lit.ins (j:=8) (p:=(15,4)) hT d0 rfl hl (by omega);refine xbv ?_;simp only [gt,gs,gz,Option.some.injEq,exists_eq_left'];refine ⟨trivial,w2,?_,hcl2 w2 hL⟩;rw [xaR,e3];simp only [Act.eval];rw [hrun]
    rfl
   ·obtain ⟨w2,hrun,hL⟩:=hI.lit.ins (j:=9) (p:=(5,8)) hT d0 rfl hl (by omega);refine xbv ?_;simp only [gt,gs,gz,Option.some.injEq,exists_eq_left'];refine ⟨trivial,w2,?_,hcl2 w2 hL⟩;rw [xaR,e3];simp only [Act.eval];rw [hrun]
    rfl
   ·obtain ⟨w2,hrun,hL⟩:=hI.lit.ins (j:=10) (p:=(9,8)) hT d0 rfl hl (by omega);refine xbv ?_;simp only [gt,gs,gz,Option.some.injEq,exists_eq_left'];refine ⟨trivial,w2,?_,hcl2 w2 hL⟩;rw [xaR,e3];simp only [Act.eval];rw [hrun]
    rfl
   ·obtain ⟨w2,hrun,hL⟩:=hI.lit.ins (j:=11) (p:=(11,8)) hT d0 rfl hl (by omega);refine xbv ?_;simp only [gt,gs,gz,Option.some.injEq,exists_eq_left'];refine ⟨trivial,w2,?_,hcl2 w2 hL⟩;rw [xaR,e3];simp only [Act.eval];rw [hrun]
    rfl
   ·obtain ⟨w2,hrun,hL⟩:=hI.lit.ins (j:=12) (p:=(13,8)) hT d0 rfl hl (by omega);refine xbv ?_;simp only [gt,gs,gz,Option.some.injEq,exists_eq_left'];refine ⟨trivial,w2,?_,hcl2 w2 hL⟩;rw [xaR,e3];simp only [Act.eval];rw [hrun]
    rfl
   ·obtain ⟨w2,hrun,hL⟩:=hI.lit.ins (j:=13) (p:=(16,8)) hT d0 rfl hl (by omega);refine xbv ?_;simp only [gt,gs,gz,Option.some.injEq,exists_eq_left'];refine ⟨trivial,w2,?_,hcl2 w2 hL⟩;rw [xaR,e3];simp only [Act.eval];rw [hrun]
    rfl
   ·obtain ⟨w2,hrun,hL⟩:=hI.lit.ins (j:=14) (p:=(14,16)) hT d0 rfl hl (by omega);refine xbv ?_;simp only [gt,gs,gz,Option.some.injEq,exists_eq_left'];refine ⟨trivial,w2,?_,hcl2 w2 hL⟩;rw [xaR,e3];simp only [Act.eval];rw [hrun]
    rfl
   ·obtain ⟨w2,hrun,hL⟩:=hI.lit.ins (j:=15) (p:=(17,16)) hT d0 rfl hl (by omega);refine xbv ?_;simp only [gt,gs,gz,Option.some.injEq,exists_eq_left'];refine ⟨trivial,w2,?_,hcl2 w2 hL⟩;rw [xaR,e3];simp only [Act.eval];rw [hrun]
    rfl
  ·have d0:=xca 0 hi (by kernel_rfl)
   have hall:∀ j,j < 16->l.getD (j+1) false=true:=fun j hj=>by
    rcases (show j=0\/j=1\/j=2\/j=3\/j=4\/j=5\/j=6\/j=7\/j=8\/j=9\/j=10\/j=11\/j=12\/j=13\/j=14\/j=15 by omega) with rfl | rfl | rfl | rfl | rfl | rfl | rfl | rfl | rfl | rfl | rfl | rfl | rfl | rfl | rfl | rfl
    ·exact xca 1 hi (by kernel_rfl)
    ·exact xca 2 hi (by kernel_rfl)
    ·exact xca 3 hi (by kernel_rfl)
    ·exact xca 4 hi (by kernel_rfl)
    ·exact xca 5 hi (by kernel_rfl)
    ·exact xca 6 hi (by kernel_rfl)
    ·exact xca 7 hi (by kernel_rfl)
    ·exact xca 8 hi (by kernel_rfl)
    ·exact xca 9 hi (by kernel_rfl)
    ·exact xca 10 hi (by kernel_rfl)
    ·exact xca 11 hi (by kernel_rfl)
    ·exact xca 12 hi (by kernel_rfl)
    ·exact xca 13 hi (by kernel_rfl)
    ·exact xca 14 hi (by kernel_rfl)
    ·exact xca 15 hi (by kernel_rfl)
    ·exact xca 16 hi (by kernel_rfl)
   have e3:a.eval (.tmp 3) = .map (some w.heap.size):=(hI.lit.yes d0).1;refine xef ?_;simp only [gt,gs,gz,Option.some.injEq,exists_eq_left'];refine ⟨trivial,.map (some w.heap.size),w',?_,(hI.other 17 4 _ (by omega) (by omega) (by omega) (by omega) (fun _=>⟨d0,hall⟩) ?_)⟩
   ·simp [execOp,e3]
   ·intro f hf;simp at hf;rcases hf with rfl | rfl | rfl | rfl | rfl | rfl | rfl <;> simp
  ·have e0:a.eval (.tmp 0) = .int .i64 k:=hI.s0;refine xef ?_;simp only [gt,gs,gz,Option.some.injEq,exists_eq_left'];refine ⟨trivial,.int .i64 k,w',?_,(hI.other 18 5 _ (by omega) (by omega) (by omega) (by omega) (fun h=>by omega) ?_)⟩
   ·simp [execOp,e0]
   ·intro f hf;simp at hf;rcases hf with rfl | rfl | rfl | rfl | rfl | rfl | rfl <;> simp
  ·have d17:=xca 17 hi (by kernel_rfl);have d18:=xca 18 hi (by kernel_rfl);have e4:a.eval (.tmp 4) = .map (some w.heap.size):=hsl (17,4,_) (by simp) d17;have e5:a.eval (.tmp 5) = .int .i64 k:=hsl (18,5,_) (by simp) d18;have hlk:=hI.lit.full (xos _ (by decide)) (hI.cl d17).1 (hI.cl d17).2 k;refine xef ?_;simp only [gt,gs,gz,Option.some.injEq,exists_eq_left'];refine ⟨trivial,.int .i64 (look fixT k),w',?_,(hI.other 19 6 _ (by omega) (by omega) (by omega) (by omega) (fun h=>by omega) ?_)⟩
   ·rw [xnh,e4,e5,hlk];rfl
   ·intro f hf;simp at hf;rcases hf with rfl | rfl | rfl | rfl | rfl | rfl | rfl <;> simp
  ·have e0:a.eval (.tmp 0) = .int .i64 k:=hI.s0;refine xef ?_;simp only [gt,gs,gz,Option.some.injEq,exists_eq_left'];refine ⟨trivial,.int .i64 k,w',?_,(hI.other 20 7 _ (by omega) (by omega) (by omega) (by omega) (fun h=>by omega) ?_)⟩
   ·simp [execOp,e0]
   ·intro f hf;simp at hf;rcases hf with rfl | rfl | rfl | rfl | rfl | rfl | rfl <;> simp
  ·have d20:=xca 20 hi (by kernel_rfl);have e7:a.eval (.tmp 7) = .int .i64 k:=hsl (20,7,_) (by simp) d20;have hfin:=hI.other 21 8 (.int .i64 bs) (by omega) (by omega) (by omega) (by omega) (fun h=>by omega) (by intro f hf;simp at hf;rcases hf with rfl | rfl | rfl | rfl | rfl | rfl | rfl <;> simp);have HF:=hid hfin;clear hfin;refine wpOp_call ?_;simp only [gt,gs,gz,Option.some.injEq,exists_eq_left'];refine ⟨trivial,?_⟩;have e7':a.tmps.getD 7 undef = .int .i64 k:=e7;clear hi hl hsl hz e7 d20;generalize HID0:(fun a' w'=>FixI k bs w.drew w.heap.size (l.setIfInBounds 21 true) a' w')=K21;have hK21:K21 (a.put (some 8) (.int .i64 bs)) w':=by rw [<- HID0];exact HF.out
   have HK21:=hid hK21;clear hK21 HID0;go_simp;refine (HBS.out _).mono ?_;rintro e w2 ⟨rfl,rfl⟩;exact HK21.out
  ·have d19:=xca 19 hi (by kernel_rfl);have d21:=xca 21 hi (by kernel_rfl);have e6:a.eval (.tmp 6) = .int .i64 (look fixT k):=hsl (19,6,_) (by simp) d19;have e8:a.eval (.tmp 8) = .int .i64 bs:=hsl (21,8,_) (by simp) d21;have hw:IntKind.i64.wrap (look fixT k - bs)=look fixT k - bs:=IntWalk.i64_in _ (by have:=look_fix k;omega);refine xef ?_;simp only [gt,gs,gz,Option.some.injEq,exists_eq_left'];refine ⟨trivial,.int .i64 (look fixT k - bs),w',?_,(hI.other 22 9 _ (by omega) (by omega) (by omega) (by omega) (fun h=>by omega) ?_)⟩
   ·have e6':a.tmps.getD 6 undef = .int .i64 (look fixT k):=e6;have e8':a.tmps.getD 8 undef = .int .i64 bs:=e8;go_simp
   ·intro f hf;simp at hf;rcases hf with rfl | rfl | rfl | rfl | rfl | rfl | rfl <;> simp
  ·have d22:=xca 22 hi (by kernel_rfl);have e9:a.eval (.tmp 9) = .int .i64 (look fixT k - bs):=hsl (22,9,_) (by simp) d22;refine xef ?_;simp only [gt,gs,gz,Option.some.injEq,exists_eq_left'];refine ⟨trivial,.int .i64 (look fixT k - bs),w',?_,(hI.other 23 2 _ (by omega) (by omega) (by omega) (by omega) (fun h=>by omega) ?_)⟩
   ·simp [execOp,e9]
   ·intro f hf;simp at hf;rcases hf with rfl | rfl | rfl | rfl | rfl | rfl | rfl <;> simp
 ·have hall:=xpf (by rw [hI.lsz];rfl) hr (by kernel_rfl);have h2:=hI.slot (23,2,.int .i64 (look fixT k - bs)) (by simp) (hall 23 (by decide));have hk:=(hI.lit.yes (hall 0 (by decide))).2.1
  rename_i Qx Kx hKx
  have hdf:=hI.df;refine hKx a w' ?_;obtain ⟨tm,df⟩:=a;simp only at hdf h2;subst hdf;have H2:=hid (aI h2 (((kR Nope w).drew).trans' hk));clear hI hr hall h2 hk;go_wp2;refine bodyPost_ret (fn:=Tryz.f151) (v:=.int .i64 (look fixT k - bs)) ?_ rfl ⟨rfl,H2.out.2⟩;exact (results_tmp (fn:=Tryz.f151) rfl tm _ w').trans (by rw [H2.out.1])
 ·refine ⟨by simp,rfl,rfl,rfl,⟨rfl,fun _=>⟨rfl,fun j hj => ?_⟩,fun h => ?_⟩,fun h => ?_,fun f hf h => ?_⟩
  ·simp only [fixT,lC,List.length_nil] at hj;rw [Array.getD_eq_getD_getElem?,Array.getElem?_replicate]
   split <;> rfl
  ·simp at h
  ·simp at h
  ·simp only [Array.getD_eq_getD_getElem?,Array.getElem?_replicate] at h
   split at h <;> simp at h
theorem wpList_insert_int {ops:Array Oper} {rest:List Oper} {o:Oper} {a:Act} {Q:Exit->Act->World->Prop} {w:World} (hg:o.guard=none) (m x v:Operand) (hop:o.op=Op.insert 290 m x v)
  {b:Nat} {t:List (Int × Int)} {k n:Int} (hm:a.eval m = .map (some b)) (hx:a.eval x = .int .i64 k) (hv:a.eval v = .int .i64 n) (h:MapAt w b (t.map ip)) (hn:t.all (fun p=>decide (p.1≠k))=true)
  (hK:∀ w',MapAt w' b ((t ++ [(k,n)]).map ip)->Kept (Only b) w w'->wpList prog ops Q rest (a.put o.dst undef) w'):wpList prog ops Q (o :: rest) a w:=by
 refine wpList_plain hg fun K hK' => ?_
 obtain ⟨w',hrun,h1,h2⟩:=h.put (key:=.int .i64 k) (val:=.int .i64 n) underlying290 (fun W=>xgc false k W) (xeN.int fun p hp=>by have:=List.all_eq_true.1 hn p hp;simpa using this);unfold Oper.wp;simp [execOp,hop,hm,hx,hv,hrun,Result.andThen];exact hK' _ _ (hK w' (by simpa [ip] using h1) h2)
theorem xcH {ops:Array Oper} {rest:List Oper} {o:Oper} {a:Act} {Q:Exit->Act->World->Prop} {w:World} (hg:o.guard=none) (m x:Operand) (hop:o.op=Op.lookup 290 m x false)
  {b:Nat} {t:List (Int × Int)} {k:Int} (hm:a.eval m = .map (some b)) (hx:a.eval x = .int .i64 k) (h:MapAt w b (t.map ip))
  (hK:wpList prog ops Q rest (a.put o.dst (.int .i64 (look t k))) w):wpList prog ops Q (o :: rest) a w:=by
 refine wpList_plain hg fun K hK' => ?_
 have hrun:=lookup_int h k;unfold Oper.wp;simp [execOp,hop,hm,hx,hrun,Result.andThen];exact hK' _ _ hK
def codT:List (Int × Int):=[(0,64),(1,86),(2,80),(6,81),(3,96),(7,97),(4,112),(8,113),(10,114),(15,115),(12,116),(5,128),(9,129),(11,130),(16,131),(13,132),(14,148),(17,152),(18,176),(19,177),(20,179),(21,208),(22,209),(23,240)]
theorem coded_ok (k:Int) (w:World):Calls prog 96 #[.int .i64 k] w fun e w'=>e = .returned (.int .i64 (look codT k))/\Kept Nope w w':=by
 have HM:=hid (show MapAt (w.alloc (.map #[] 0)) w.heap.size (([]:List (Int × Int)).map ip) from MapAt.new w);have HK:=hid (kR (Only w.heap.size) (w.alloc (.map #[] 0)));have hmk:=fun W=>run_makeMap (P:=prog) 290 W
 go_enter func96,ntmps96;go_wp2_with (first | (refine wpList_insert_int rfl (.tmp 3) _ _ rfl rfl rfl rfl HM.out (by decide) ?_;intro w2 hm2 hk2;replace HM:=hid hm2;replace HK:=hid (HK.out.trans' hk2);clear hm2 hk2) | (refine xcH rfl (.tmp 4) (.tmp 5) rfl rfl rfl HM.out ?_));go_ret;exact ⟨rfl,((kR Nope w).alloc _).trans HK.out fun b hb e=>by have e':b=w.heap.size:=e;omega⟩
end Go.Proofs.YtmdpodeegdjkeaaGreatDoor
