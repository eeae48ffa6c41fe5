/- Part 34 of the proof of the readers and the guards. No conditions. -/
import Derived.Test.YtmdpodeegdjkeaaGreatDoorU0
import Derived.Test.YtmdpodeegdjkeaaGreatDoorU7
import Derived.Test.YtmdpodeegdjkeaaGreatDoorU9
set_option maxRecDepth 100000
set_option maxHeartbeats 3200000
namespace Go.Proofs.YtmdpodeegdjkeaaGreatDoor
open Go Go.RowKit Go.Lib Tryz
section
theorem ownsRow_form' {w:World} {base:Nat} {e:TypeId} {size n:Nat} {x:Value} {xs:List Value} (h:w.ownsRow base e size x n xs):∃ p c,x = .slice p n c:=by
 rcases h.2 with ⟨rfl,e⟩ | ⟨g,cap,cur,rfl,_⟩
 ·exact ⟨none,0,by rw [e]⟩
 ·exact ⟨_,_,rfl⟩
def xfC (v u:V):V:=if v.kind=23 then u else asRead u
theorem xlM (v:V):(asRead v).kids=v.kids.map (xfC v):=by
 rw [xbj];simp only [V.kids_mk];unfold xfC
 split <;> simp
structure RInv (S:Nat->Prop) (v:V) (kd:Int) (ds:Value) (W2:World) (c k:Nat) (la:List Lay) (x:Value) (w':World):Prop where
 lt:c < W2.heap.size
 kept:Kept (Only c) W2 w'
 cell:Blk w' c 25 #[.int .i64 kd,.int .u64 v.num,.string v.text,x,.int .i64 v.of_,ds]
 row:Row6 W2 (fun b=>¬ S b/\b < W2.heap.size) w' x la
 len:la.length=k
 val:∀ (i:Nat) (u:V) (a:Lay),v.kids[i]? = some u->la[i]? = some a->a.v=xfC v u
namespace RInv
variable {S:Nat->Prop} {v:V} {kd:Int} {ds:Value} {W2 w1 w2:World} {c k:Nat} {la:List Lay} {x x':Value}
theorem ne (h:RInv S v kd ds W2 c k la x w1):x.ownBlock≠some c:=fun e=>by have:=(h.row.own.lt c e).1;have:=h.lt;omega
theorem nope (h:RInv S v kd ds W2 c k la x w1) (hk:Kept Nope w1 w2):RInv S v kd ds W2 c k la x w2 :=
 ⟨h.lt,h.kept.trans hk fun _ _ h=>h.elim,h.cell.kept hk (fun h=>h),h.row.nope hk,h.len,h.val⟩
theorem step {a:Lay} {u:V} (hSc:¬ S c) (hS:∀ b,S b->b < W2.heap.size) (h:RInv S v kd ds W2 c k la x w1) (hu:v.kids[k]? = some u) (ha:a.Ok (fun b=>S b\/(W2.heap.size<=b/\x.ownBlock≠some b)) w1) (hav:a.v=xfC v u)
  (h2:w2.ownsRow W2.heap.size 25 6 x' (la.length+1) (la.flatMap Lay.cells ++ a.cells)) (hg:w1.grownBy w2 x.ownBlock) (h4:x'.ownBlock=x.ownBlock\/x'.ownBlock=some w1.heap.size) :
  RInv S v kd ds W2 c (k+1) (la ++ [a]) x' (w2.setCell ⟨c,3,none⟩ x'):=by
 have hkg:Kept (fun b=>x.ownBlock=some b) w1 w2:=⟨hg.os,hg.tape,hg.output,hg.size,fun k hk hn=>hg.block k hk (fun e=>hn e.symm)⟩;have hks:Kept (Only c) w2 (w2.setCell ⟨c,3,none⟩ x'):=(kR _ _).set1 3 x';have hne':∀ b,x'.ownBlock=some b->W2.heap.size<=b:=fun b hb=>(h2.lt b hb).1
 have hp:=h.row.push (ha.mono fun b _ hb=>by
  rcases hb with hb | hb
  ·exact ⟨fun e=>by have:=(h.row.own.lt b e).1;have:=hS b hb;omega,fun hh=>hh.1 hb⟩
  ·exact ⟨hb.2,fun hh=>by have:=hh.2;omega⟩) h2 hg h4
 refine ⟨h.lt,?_,?_,hp.keep hks ?_ ?_,by rw [lA,h.len];rfl,fun i y b hi hb => ?_⟩
 ·exact (h.kept.trans hkg fun b hb e=>by have:=(h.row.own.lt b e).1;omega).trans' hks
 ·have h6:=(h.cell.kept hkg (fun e=>h.ne e)).set_ 3 x'
  simpa using h6
 ·intro b hb;have hb':b=c:=hb;subst hb';exact ⟨hSc,h.lt⟩
 ·intro b hb e;have hb':b=c:=e;have:=hne' b hb;have:=h.lt;omega
 ·rw [List.getElem?_append] at hb
  split at hb
  ·exact h.val i y b hi hb
  ·next hge =>
   have hlt2:i - la.length < 1:=by have:=(gi.1 hb).1;simpa using this
   have he:i=k:=by have:=h.len;omega
   subst he;rw [hi] at hu;cases hu;have h2:i - la.length=0:=by omega
   rw [h2] at hb;simp at hb;subst hb;exact hav
end RInv
structure ARPost (S:Nat->Prop) (w:World) (v:V) (ks ds:Value) (la:List Lay) (w':World):Prop where
 kept:Kept Nope w w'
 own:w'.ownsRow w.heap.size 25 6 ks la.length (la.flatMap Lay.cells)
 kids:la.map Lay.v=(asRead v).kids
 ok:∀ a ∈ la,a.Ok (fun b=>(S b\/w.heap.size<=b)/\ks.ownBlock≠some b) w'
 desc:VSl S w' ds v.desc
def AR (S:Nat->Prop) (w:World) (v:V):Value->World->Prop:=fun y w'=>∃ ks ds la,y=vagg (asRead v) ks ds/\ARPost S w v ks ds la w'
theorem xhK {v:V} (h:VNum v):VNum (asRead v):=by
 rw [xbj];exact ⟨by simp only [V.kind_mk];have:=h.kind;split <;> omega,h.num,h.text,h.of_⟩
theorem ARPost.vagg_ {S:Nat->Prop} {w w':World} {v:V} {ks ds:Value} {la:List Lay} (h:ARPost S w v ks ds la w') (hn:VNum v):VAgg (fun b=>S b\/w.heap.size<=b) w' (vagg (asRead v) ks ds) (asRead v):=by
 have h1:=VSl.ofOwn (S:=fun b=>S b\/w.heap.size<=b) h.own (fun b hb => .inr (h.own.lt b hb).1) fun a ha=>(h.ok a ha).mono fun b _ hb=>hb.1
 rw [h.kids] at h1;refine ⟨_,_,rfl,xhK hn,h1,?_⟩;have h2:=h.desc.mono (S':=fun b=>S b\/w.heap.size<=b) fun b _ hb => .inl hb
 rw [xbj];exact h2
theorem AR.any {S:Nat->Prop} {w w':World} {v:V} {y:Value} (h:AR S w v y w') (hn:VNum v):VAgg (fun b=>S b\/w.heap.size<=b) w' y (asRead v)/\Kept Nope w w':=by
 obtain ⟨ks,ds,la,rfl,hp⟩:=h;exact ⟨hp.vagg_ hn,hp.kept⟩
theorem Blk.three (w:World) (A B C:Array Value) (t:TypeId):Blk (((w.alloc (.cells A t)).alloc (.cells B t)).alloc (.cells C t)) (w.heap.size+1) t B/\Blk (((w.alloc (.cells A t)).alloc (.cells B t)).alloc (.cells C t)) (w.heap.size+2) t C/\Blk (((w.alloc (.cells A t)).alloc (.cells B t)).alloc (.cells C t)) w.heap.size t A/\Kept Nope w (((w.alloc (.cells A t)).alloc (.cells B t)).alloc (.cells C t))/\(((w.alloc (.cells A t)).alloc (.cells B t)).alloc (.cells C t)).heap.size=w.heap.size+3:=by
 have h:=Blk.two w A B t;have h2:=Blk.new ((w.alloc (.cells A t)).alloc (.cells B t)) t C;rw [World.size_alloc,World.size_alloc] at h2;exact ⟨h.2.1.alloc _,h2,h.1.alloc _,h.2.2.alloc _,by simp⟩
structure RCtx (S:Nat->Prop) (w:World) (v:V) (da:Value) (W2:World):Prop where
 size:W2.heap.size=w.heap.size+3
 kept:Kept Nope w W2
 res:Blk W2 (w.heap.size+1) 25 #[.int .i64 0,.int .u64 0,.string ⟨#[]⟩,.slice none 0 0,.int .i64 0,.slice none 0 0]
 arg:∃ ks,Blk W2 w.heap.size 25 #[.int .i64 v.kind,.int .u64 v.num,.string v.text,ks,.int .i64 v.of_,da]
 desc:VSl S w da v.desc
 kin:∀ b,S b->b < w.heap.size
theorem xje {S:Nat->Prop} {wr w3 W:World} {u:V} {y:Value} {o:Obj} (hp:AR S (wr.alloc o) u y w3) (hn:VNum u) (hS:∀ b,S b->b < wr.heap.size) (hK:Kept (Only wr.heap.size) w3 W) :
  Kept Nope wr W/\VAgg (fun b=>S b\/wr.heap.size < b) W y (asRead u):=by
 obtain ⟨h1,h2⟩:=hp.any hn;refine ⟨((((kR Nope wr).alloc o).trans' h2).trans hK fun b hb e=>by have e':b=wr.heap.size:=e;omega),?_⟩
 have h3:VAgg (fun b=>S b\/wr.heap.size < b) w3 y (asRead u):=h1.mono fun b _ hb=>by
  rcases hb with hb | hb
  ·exact .inl hb
  ·right
   rw [World.size_alloc] at hb;exact hb
 exact h3.keep hK fun b _ hb e=>by
  have e':b=wr.heap.size:=e
  rcases hb with hb | hb
  ·have:=hS b hb;omega
  ·omega
theorem xpA (a b d:Int) (t:ByteArray) (p q:Option Addr) (n c m e:Nat):(#[.int .i64 a,.int .u64 b,.string t,.slice p n c,.int .i64 d,.slice q m e]:Array Value).all (·.oneCell')=true:=by simp [Value.oneCell']
theorem VAgg.vn {S:Nat->Prop} {w:World} {x:Value} {v:V} (h:VAgg S w x v):VNum v:=by obtain ⟨_,_,_,h,_⟩:=h;exact h
theorem Lay.ofV {S:Nat->Prop} {w:World} {v:V} {ks ds:Value} (h:VAgg S w (.agg #[.int .i64 v.kind,.int .u64 v.num,.string v.text,ks,.int .i64 v.of_,ds]) v):(Lay.mk v ks ds).Ok S w:=by
 obtain ⟨ks',ds',e,h1,h2,h3⟩:=h;unfold vagg at e;injection e with e
 injection e with e
 injection e with _ e;injection e with _ e;injection e with _ e;injection e with e1 e;injection e with _ e;injection e with e2 _
 subst e1 e2;exact ⟨h1,h2,h3⟩
theorem RInv.done {S:Nat->Prop} {w W2 w1 w2:World} {v:V} {kd:Int} {da:Value} {la:List Lay} {x:Value} (C:RCtx S w v da W2) (h:RInv S v kd da W2 (w.heap.size+2) v.kids.length la x w1) (hk:Kept (Only (w.heap.size+1)) w1 w2):ARPost S w v x da la w2:=by
 have hS:=C.kin;have hz:=C.size;have hown:∀ b,x.ownBlock=some b->W2.heap.size<=b:=fun b hb=>(h.row.own.lt b hb).1
 refine ⟨(C.kept.trans h.kept fun b hb e => ?_).trans hk fun b hb e => ?_,?_,?_,fun a ha => ?_,?_⟩
 ·have e':b=w.heap.size+2:=e;omega
 ·have e':b=w.heap.size+1:=e;omega
 ·have h1:=xaB h.row.own hk (fun b hb e=>by have e':b=w.heap.size+1:=e;have:=hown b hb;omega);refine ⟨h1.1,?_⟩
  rcases h1.2 with h2 | ⟨g,cap,cur,rfl,hb,rest⟩
  ·exact .inl h2
  ·exact .inr ⟨g,cap,cur,rfl,by omega,rest⟩
 ·rw [xlM];apply List.ext_getElem?;intro i;rw [gM,gM]
  cases hi:v.kids[i]? with
  | none =>
   have:la[i]? = none:=by rw [List.getElem?_eq_none_iff] at hi ⊢;have:=h.len;omega
   rw [this];rfl
  | some u =>
   have hlt:i < la.length:=by have:=(gi.1 hi).1;have:=h.len;omega
   have ha:la[i]? = some la[i]:=ge hlt;rw [ha];simp only [Option.map_some];rw [h.val i u _ hi ha]
 ·refine (((h.row.ok a ha).mono (S':=fun b=>(S b\/W2.heap.size<=b)/\x.ownBlock≠some b) fun b _ hb=>⟨?_,hb.1⟩).keep hk fun b _ hb e => ?_).mono fun b _ hb=>⟨?_,hb.2⟩
  ·by_cases hs:S b
   ·exact .inl hs
   ·right
    have h3:=hb.2
    rcases Nat.lt_or_ge b W2.heap.size with h4 | h4
    ·exact absurd ⟨hs,h4⟩ h3
    ·exact h4
  ·have e':b=w.heap.size+1:=e
   rcases hb.1 with h1 | h1
   ·have:=hS b h1;omega
   ·omega
  ·rcases hb.1 with h1 | h1
   ·exact .inl h1
   ·right;omega
 ·exact C.desc.keep (M:=fun b=>b=w.heap.size+2\/b=w.heap.size+1) (((C.kept.trans (h.kept.mono (M':=fun b=>b=w.heap.size+2\/b=w.heap.size+1) fun b _ hb => .inl hb) fun b hb e=>by omega).nope).trans (hk.mono (M':=fun b=>b=w.heap.size+2\/b=w.heap.size+1) fun b _ hb => .inr hb) fun b _ h=>h) fun b _ hb e=>by have:=hS b hb;omega
theorem RInv.start {S:Nat->Prop} {w W2:World} {v:V} {kd:Int} {da:Value} (C:RCtx S w v da W2) (hc:Blk W2 (w.heap.size+2) 25 #[.int .i64 kd,.int .u64 v.num,.string v.text,.slice none 0 0,.int .i64 v.of_,da]):RInv S v kd da W2 (w.heap.size+2) 0 [] (.slice none 0 0) W2 :=
 ⟨by have:=C.size;omega,kR _ _,hc,Row6.nil _ _ _,rfl,fun i u a _ h=>by simp at h⟩
theorem xpn (S:Nat->Prop) (v:V) (w:World) (xa:Value) (ha:VAgg S w xa v) (hS:∀ b,S b->b < w.heap.size) (hn:v.kids.length<=1000) (hk:v.kind=20)
  (ih:∀ k,k ∈ v.kids->∀ (W:World) (y:Value),VAgg S W y k->(∀ b,S b->b < W.heap.size)->Calls prog 16 #[y] W (Gives (AR S W k))) :
  Calls prog 16 #[xa] w (Gives (AR S w v)):=by
 obtain ⟨i1,hi,hz0,hz1,hz2⟩:=info_parts xbc;obtain ⟨ka,da,rfl,hna,hka,hda⟩:=ha;have HKA:=hid hka;have HDA:=hid hda;have HI:=hid ih;have HS:=hid hS;obtain ⟨p1,c1,rfl,q1,m1⟩:=hka.form;obtain ⟨p2,c2,rfl,q2,m2⟩:=hda.form;clear hna hka hda ih q1 m1 q2 m2 hS;unfold vagg;obtain ⟨n,hnn⟩:∃ m,v.kids.length=m:=⟨_,rfl⟩
 have HL:=hid hnn
 have HC0:RCtx S w v (.slice p2 v.desc.length c2) (((w.alloc (.cells #[.int .i64 v.kind,.int .u64 v.num,.string v.text,.slice p1 v.kids.length c1,.int .i64 v.of_,.slice p2 v.desc.length c2] 25)).alloc (.cells #[.int .i64 0,.int .u64 0,.string ⟨#[]⟩,.slice none 0 0,.int .i64 0,.slice none 0 0] 25)).alloc (.cells #[.int .i64 19,.int .u64 v.num,.string v.text,.slice none 0 0,.int .i64 v.of_,.slice p2 v.desc.length c2] 25)):=by
  have h3:=Blk.three w #[.int .i64 v.kind,.int .u64 v.num,.string v.text,.slice p1 v.kids.length c1,.int .i64 v.of_,.slice p2 v.desc.length c2] #[.int .i64 0,.int .u64 0,.string ⟨#[]⟩,.slice none 0 0,.int .i64 0,.slice none 0 0] #[.int .i64 19,.int .u64 v.num,.string v.text,.slice none 0 0,.int .i64 v.of_,.slice p2 v.desc.length c2] 25;exact ⟨h3.2.2.2.2,h3.2.2.2.1,h3.1,⟨_,h3.2.2.1⟩,HDA.out,HS.out⟩
 have HB0:=hid (aI (Blk.three w #[.int .i64 v.kind,.int .u64 v.num,.string v.text,.slice p1 v.kids.length c1,.int .i64 v.of_,.slice p2 v.desc.length c2] #[.int .i64 0,.int .u64 0,.string ⟨#[]⟩,.slice none 0 0,.int .i64 0,.slice none 0 0] #[.int .i64 19,.int .u64 v.num,.string v.text,.slice none 0 0,.int .i64 v.of_,.slice p2 v.desc.length c2] 25).2.1 (Blk.three w #[.int .i64 v.kind,.int .u64 v.num,.string v.text,.slice p1 v.kids.length c1,.int .i64 v.of_,.slice p2 v.desc.length c2] #[.int .i64 0,.int .u64 0,.string ⟨#[]⟩,.slice none 0 0,.int .i64 0,.slice none 0 0] #[.int .i64 19,.int .u64 v.num,.string v.text,.slice none 0 0,.int .i64 v.of_,.slice p2 v.desc.length c2] 25).2.2.1);have HC:=hid HC0;clear HC0;rw [hk] at HC HB0 ⊢;rw [hnn] at hn HC HB0 ⊢;have HKK:=hid hk;clear hk hnn;go_enter func16,ntmps16;go_wp2;generalize ((w.alloc (.cells #[.int .i64 20,.int .u64 v.num,.string v.text,.slice p1 n c1,.int .i64 v.of_,.slice p2 v.desc.length c2] 25)).alloc (.cells #[.int .i64 0,.int .u64 0,.string ⟨#[]⟩,.slice none 0 0,.int .i64 0,.slice none 0 0] 25)).alloc (.cells #[.int .i64 19,.int .u64 v.num,.string v.text,.slice none 0 0,.int .i64 v.of_,.slice p2 v.desc.length c2] 25)=W2 at HC HB0 ⊢;have hR:=RInv.start HC.out HB0.out.1;obtain ⟨C,hC⟩:∃ C,w.heap.size+2=C:=⟨_,rfl⟩
 have hC1:w.heap.size+1+1=C:=hC;obtain ⟨R,hRR⟩:∃ R,w.heap.size+1=R:=⟨_,rfl⟩
 obtain ⟨A,hA⟩:∃ A,w.heap.size=A:=⟨_,rfl⟩
 have hAB:=HB0.out.2;have hRB:=HC.out.res;rw [hC] at hR;rw [hRR] at hRB;rw [hA] at hAB;rw [hC1,hRR,hA];have HR0:=hid hR;have HAR:=hid (aI hAB hRB);have HQ:=hid (aI hC (aI hRR hA));clear hR hAB hRB hC hC1 hRR hA HB0
 go_loopw [15] (fun q w'=>∃ (k:Nat) (la:List Lay) (x:Value),k<=n/\q = .int .i64 k/\Hid (RInv S v 19 (.slice p2 v.desc.length c2) W2 C k la x w')) (fun q _=>n - (RowKit.intOf q).toNat)
 case atStart=>exact ⟨0,[],_,by omega,rfl,HR0⟩
 case round =>
  obtain ⟨k,la,x,hk,rfl,HN⟩:=hrel;obtain ⟨po,co,ho⟩:=HN.out.row.form;subst ho;have HZ:=hid HC.out.size;have hnA:¬ Only C A:=fun e=>by have e':A=C:=e;have:=HQ.out;omega
  have hnR:¬ Only C R:=fun e=>by have e':R=C:=e;have:=HQ.out;omega
  have HKW:=hid (show Kept Nope w wr from HC.out.kept.trans HN.out.kept fun b hb e=>by have e':b=C:=e;have:=HQ.out;omega)
  by_cases hkn:k < n
  ·have hkn':(k:Int) < (n:Int):=by omega
   have hk0:(0:Int)<=(k:Int):=by omega
   have e1:IntKind.i64.wrap ((k:Int)+1)=(k:Int)+1:=IntWalk.i64_in _ (by omega);have bA0:∀ o,(wr.alloc o).cell? ⟨A,0,none⟩=some (.int .i64 20):=fun o=>by have h:=((HAR.out.1.kept HN.out.kept hnA).alloc o).cell 0;exact h
   obtain ⟨u,hu⟩:∃ u,v.kids[k]? = some u:=⟨v.kids[k]'(by rw [HL.out];exact hkn),ge _⟩
   obtain ⟨b2,off2,cap2,pk,ck,pd,cd,q2,hvx,y0,y1,y2,y3,y4,y5⟩:=(HKA.out.keep HKW.out (fun _ _ _ h=>h)).sixS hu;injection q2 with q2 _ q2'
   subst q2 q2';have HU:=hid (aI hu hvx);clear hu hvx hnA hnR;go_wp2_with (first | (go_at_call 16;go_must (refine (HI.out u (gm HU.out.1) _ _ (HU.out.2.alloc _) (fun b hb=>Nat.lt_of_lt_of_le (HS.out b hb) (HKW.out.alloc _).size)).mono ?_;rintro e w3 ⟨y,rfl,hp⟩;have hv3:=(hp.any (VAgg.vn HU.out.2)).1;obtain ⟨ks3,ds3,hy,hv4⟩:=hv3;obtain ⟨p3,c3,rfl,_⟩:=hv4.2.1.form;obtain ⟨p4,c4,rfl,_⟩:=hv4.2.2.form;subst hy;have hp0:=(hp.any (VAgg.vn HU.out.2)).2;have hbx:=(Blk.new wr 25 #[.int .i64 u.kind,.int .u64 u.num,.string u.text,.slice pk u.kids.length ck,.int .i64 u.of_,.slice pd u.desc.length cd]).kept hp0 (fun h=>h);have HP:=hid (aI hp hbx);clear hp hp0 hbx hv4;unfold vagg)) | (have _t:=HP;(refine xbl rfl 25 (.tmp 5) (.tmp 23) rfl wr.heap.size #[.int .i64 (asRead u).kind,.int .u64 (asRead u).num,.string (asRead u).text,.slice p3 (asRead u).kids.length c3,.int .i64 (asRead u).of_,.slice p4 (asRead u).desc.length c4] rfl rfl 25 #[.int .i64 u.kind,.int .u64 u.num,.string u.text,.slice pk u.kids.length ck,.int .i64 u.of_,.slice pd u.desc.length cd] HP.out.2 (by kernel_rfl) rfl (xpA _ _ _ _ _ _ _ _ _ _) ?_;intro W hW hK;have hs:=xje HP.out.1 (VAgg.vn HU.out.2) (fun b hb=>Nat.lt_of_lt_of_le (HS.out b hb) HKW.out.size) hK;have hN3:=HN.out.nope hs.1;have hNN:=hid (aI hN3 hs);have c0:=hW.cell 0;have c1:=hW.cell 1;have c2:=hW.cell 2;have c3':=hW.cell 3;have c4':=hW.cell 4;have c5:=hW.cell 5;have cC:=hN3.cell.cell 3;have cCa:∀ o,(W.alloc o).cell? ⟨C,3,none⟩=some (.slice po la.length co):=(fun o=>by have h:=(hN3.cell.alloc o).cell 3;exact h);simp only [gt,gz,gs] at c0 c1 c2 c3' c4' c5 cC;clear hW hK hs hN3 _t HP)) | (at_builtin;go_must (refine xae _ rfl (.tmp 25) (.tmp 27) 23 rfl W2.heap.size 25 i1 _ 6 88 underlying23 hi hz0 hz1 hz2 rfl (by decide) _ _ _ rfl (hNN.out.1.nope ((kR Nope W).alloc (.cells (Lay.mk (asRead u) (.slice p3 (asRead u).kids.length c3) (.slice p4 (asRead u).desc.length c4)).cells.toArray 25))).row.own Any_ _ 1 (Lay.mk (asRead u) (.slice p3 (asRead u).kids.length c3) (.slice p4 (asRead u).desc.length c4)).cells rfl (CSl.one_six (W:=W) _ rfl) (Lay.Ok.one (Lay.ofV hNN.out.2.2)) (by have:=HN.out.len;unfold maxLen;omega) (by have:=HN.out.len;omega) (((hNN.out.1.nope ((kR Nope W).alloc (.cells (Lay.mk (asRead u) (.slice p3 (asRead u).kids.length c3) (.slice p4 (asRead u).desc.length c4)).cells.toArray 25))).kept).size) ?_;intro v5 w5 hown hgrow hblk;obtain ⟨p5,c5',rfl⟩:=ownsRow_form' hown;have hC5:=(hNN.out.1.cell.alloc (.cells (Lay.mk (asRead u) (.slice p3 (asRead u).kids.length c3) (.slice p4 (asRead u).desc.length c4)).cells.toArray 25)).grown hgrow (fun e=>HN.out.ne e.symm);have cC5:=hC5.cell 3;have fC5:=hC5.frozen 3;simp only [gt,gz,gs] at cC5;have HO:=hid (aI hown (aI hgrow hblk));clear hown hgrow hblk hC5)));go_roundw
   case rel =>
    have hka:=hNN.out.1.nope ((kR Nope W).alloc (.cells (Lay.mk (asRead u) (.slice p3 (asRead u).kids.length c3) (.slice p4 (asRead u).desc.length c4)).cells.toArray 25));refine ⟨k+1,_,_,by omega,by go_num,hid (hka.step (fun h=>by have:=HS.out C h;have:=HQ.out;omega) (fun b hb=>by have:=HS.out b hb;have:=HZ.out;omega) HU.out.1 ((Lay.ofV hNN.out.2.2).keep ((kR Nope W).alloc _) (fun _ _ _ h=>h) |>.mono fun b _ hb => ?_) (by unfold xfC;rw [if_neg (by rw [HKK.out];decide)]) HO.out.1 HO.out.2.1 HO.out.2.2)⟩
    rcases hb with hb | hb
    ·exact .inl hb
    ·have h1:=HN.out.kept.size;exact .inr ⟨by omega,fun e=>by have:=(HN.out.row.own.lt b e).2;omega⟩
   case measure=>simp [RowKit.intOf];omega
  ·obtain rfl:k=n:=by omega
   have hlt:¬ (k:Int) < (k:Int):=by omega
   have rr:=HAR.out.2.kept HN.out.kept hnR;have r0:=rr.cell 0;have r1:=rr.cell 1;have r2:=rr.cell 2;have r3:=rr.cell 3;have r4:=rr.cell 4;have r5:=rr.cell 5;have g0:=rr.frozen 0;have g1:=rr.frozen 1;have g2:=rr.frozen 2;have g3:=rr.frozen 3;have g4:=rr.frozen 4;have g5:=rr.frozen 5;have hcc:=HN.out.cell;have q0:=hcc.cell 0;have q1:=hcc.cell 1;have q2:=hcc.cell 2;have q3:=hcc.cell 3;have q4:=hcc.cell 4;have q5:=hcc.cell 5;simp only [gt,gz,gs] at r0 r1 r2 r3 r4 r5 q0 q1 q2 q3 q4 q5;have HRR:=hid rr;clear hcc rr hnA hnR;go_wp2;have hB2:=(((((HRR.out.set_ 0 (.int .i64 19)).set_ 1 (.int .u64 v.num)).set_ 2 (.string v.text)).set_ 3 (.slice po la.length co)).set_ 4 (.int .i64 v.of_)).set_ 5 (.slice p2 v.desc.length c2);have hks:Kept (Only R) wr ((((((wr.setCell ⟨R,0,none⟩ (.int .i64 19)).setCell ⟨R,1,none⟩ (.int .u64 v.num)).setCell ⟨R,2,none⟩ (.string v.text)).setCell ⟨R,3,none⟩ (.slice po la.length co)).setCell ⟨R,4,none⟩ (.int .i64 v.of_)).setCell ⟨R,5,none⟩ (.slice p2 v.desc.length c2)):=((((((kR _ _).set1 0 _).set1 1 _).set1 2 _).set1 3 _).set1 4 _).set1 5 _;refine bodyPost_ret (v:=.agg #[.int .i64 19,.int .u64 v.num,.string v.text,.slice po la.length co,.int .i64 v.of_,.slice p2 v.desc.length c2]) (results_cell_row (P:=prog) rfl _ _ R 25 _ _ _ rfl hB2 underlying25 rfl (by kernel_rfl)) rfl ⟨_,rfl,.slice po la.length co,.slice p2 v.desc.length c2,la,?_,?_⟩
   ·rw [xbj];simp only [vagg,V.kind_mk,V.num_mk,V.text_mk,V.of_mk];rw [if_pos HKK.out]
   ·obtain ⟨rfl,rfl,rfl⟩:=HQ.out;exact RInv.done HC.out (by rw [HL.out];exact HN.out) hks
theorem xmo (S:Nat->Prop) (v:V) (w:World) (xa:Value) (ha:VAgg S w xa v) (hS:∀ b,S b->b < w.heap.size) (hn:v.kids.length<=1000) (hk:¬ v.kind=20) (hk2:¬ v.kind=23)
  (ih:∀ k,k ∈ v.kids->∀ (W:World) (y:Value),VAgg S W y k->(∀ b,S b->b < W.heap.size)->Calls prog 16 #[y] W (Gives (AR S W k))) :
  Calls prog 16 #[xa] w (Gives (AR S w v)):=by
 obtain ⟨i1,hi,hz0,hz1,hz2⟩:=info_parts xbc;obtain ⟨ka,da,rfl,hna,hka,hda⟩:=ha;have HKA:=hid hka;have HDA:=hid hda;have HI:=hid ih;have HS:=hid hS;obtain ⟨p1,c1,rfl,q1,m1⟩:=hka.form;obtain ⟨p2,c2,rfl,q2,m2⟩:=hda.form;clear hna hka hda ih q1 m1 q2 m2 hS;unfold vagg;obtain ⟨n,hnn⟩:∃ m,v.kids.length=m:=⟨_,rfl⟩
 have HL:=hid hnn;obtain ⟨kd,hkd⟩:∃ m,v.kind=m:=⟨_,rfl⟩
 have HC0:RCtx S w v (.slice p2 v.desc.length c2) (((w.alloc (.cells #[.int .i64 v.kind,.int .u64 v.num,.string v.text,.slice p1 v.kids.length c1,.int .i64 v.of_,.slice p2 v.desc.length c2] 25)).alloc (.cells #[.int .i64 0,.int .u64 0,.string ⟨#[]⟩,.slice none 0 0,.int .i64 0,.slice none 0 0] 25)).alloc (.cells #[.int .i64 kd,.int .u64 v.num,.string v.text,.slice none 0 0,.int .i64 v.of_,.slice p2 v.desc.length c2] 25)):=by
  have h3:=Blk.three w #[.int .i64 v.kind,.int .u64 v.num,.string v.text,.slice p1 v.kids.length c1,.int .i64 v.of_,.slice p2 v.desc.length c2] #[.int .i64 0,.int .u64 0,.string ⟨#[]⟩,.slice none 0 0,.int .i64 0,.slice none 0 0] #[.int .i64 kd,.int .u64 v.num,.string v.text,.slice none 0 0,.int .i64 v.of_,.slice p2 v.desc.length c2] 25;exact ⟨h3.2.2.2.2,h3.2.2.2.1,h3.1,⟨_,h3.2.2.1⟩,HDA.out,HS.out⟩
 have HB0:=hid (aI (Blk.three w #[.int .i64 v.kind,.int .u64 v.num,.string v.text,.slice p1 v.kids.length c1,.int .i64 v.of_,.slice p2 v.desc.length c2] #[.int .i64 0,.int .u64 0,.string ⟨#[]⟩,.slice none 0 0,.int .i64 0,.slice none 0 0] #[.int .i64 kd,.int .u64 v.num,.string v.text,.slice none 0 0,.int .i64 v.of_,.slice p2 v.desc.length c2] 25).2.1 (Blk.three w #[.int .i64 v.kind,.int .u64 v.num,.string v.text,.slice p1 v.kids.length c1,.int .i64 v.of_,.slice p2 v.desc.length c2] #[.int .i64 0,.int .u64 0,.string ⟨#[]⟩,.slice none 0 0,.int .i64 0,.slice none 0 0] #[.int .i64 kd,.int .u64 v.num,.string v.text,.slice none 0 0,.int .i64 v.of_,.slice p2 v.desc.length c2] 25).2.2.1);have HC:=hid HC0;clear HC0;rw [hkd] at HC HB0 hk hk2 ⊢;rw [hnn] at hn HC HB0 ⊢;have n20:(kd == 20)=false:=by simpa using hk
 have n23:(kd != 23)=true:=by simpa using hk2
 have HKK:=hid (aI hkd (aI hk hk2));clear hk hk2 hnn hkd;go_enter func16,ntmps16;go_wp2;generalize ((w.alloc (.cells #[.int .i64 kd,.int .u64 v.num,.string v.text,.slice p1 n c1,.int .i64 v.of_,.slice p2 v.desc.length c2] 25)).alloc (.cells #[.int .i64 0,.int .u64 0,.string ⟨#[]⟩,.slice none 0 0,.int .i64 0,.slice none 0 0] 25)).alloc (.cells #[.int .i64 kd,.int .u64 v.num,.string v.text,.slice none 0 0,.int .i64 v.of_,.slice p2 v.desc.length c2] 25)=W2 at HC HB0 ⊢;have hR:=RInv.start HC.out HB0.out.1;obtain ⟨C,hC⟩:∃ C,w.heap.size+2=C:=⟨_,rfl⟩
 have hC1:w.heap.size+1+1=C:=hC;obtain ⟨R,hRR⟩:∃ R,w.heap.size+1=R:=⟨_,rfl⟩
 obtain ⟨A,hA⟩:∃ A,w.heap.size=A:=⟨_,rfl⟩
 have hAB:=HB0.out.2;have hRB:=HC.out.res;rw [hC] at hR;rw [hRR] at hRB;rw [hA] at hAB;rw [hC1,hRR,hA];have HR0:=hid hR;have HAR:=hid (aI hAB hRB);have HQ:=hid (aI hC (aI hRR hA));clear hR hAB hRB hC hC1 hRR hA HB0
 go_loopw [15] (fun q w'=>∃ (k:Nat) (la:List Lay) (x:Value),k<=n/\q = .int .i64 k/\Hid (RInv S v kd (.slice p2 v.desc.length c2) W2 C k la x w')) (fun q _=>n - (RowKit.intOf q).toNat)
 case atStart=>exact ⟨0,[],_,by omega,rfl,HR0⟩
 case round =>
  obtain ⟨k,la,x,hk,rfl,HN⟩:=hrel;obtain ⟨po,co,ho⟩:=HN.out.row.form;subst ho;have HZ:=hid HC.out.size;have hnA:¬ Only C A:=fun e=>by have e':A=C:=e;have:=HQ.out;omega
  have hnR:¬ Only C R:=fun e=>by have e':R=C:=e;have:=HQ.out;omega
  have HKW:=hid (show Kept Nope w wr from HC.out.kept.trans HN.out.kept fun b hb e=>by have e':b=C:=e;have:=HQ.out;omega)
  by_cases hkn:k < n
  ·have hkn':(k:Int) < (n:Int):=by omega
   have hk0:(0:Int)<=(k:Int):=by omega
   have e1:IntKind.i64.wrap ((k:Int)+1)=(k:Int)+1:=IntWalk.i64_in _ (by omega);have bA0:∀ o,(wr.alloc o).cell? ⟨A,0,none⟩=some (.int .i64 kd):=fun o=>by have h:=((HAR.out.1.kept HN.out.kept hnA).alloc o).cell 0;exact h
   obtain ⟨u,hu⟩:∃ u,v.kids[k]? = some u:=⟨v.kids[k]'(by rw [HL.out];exact hkn),ge _⟩
   obtain ⟨b2,off2,cap2,pk,ck,pd,cd,q2,hvx,y0,y1,y2,y3,y4,y5⟩:=(HKA.out.keep HKW.out (fun _ _ _ h=>h)).sixS hu;injection q2 with q2 _ q2'
   subst q2 q2';have HU:=hid (aI hu hvx);clear hu hvx hnA hnR;go_wp2_with (first | (go_at_call 16;go_must (refine (HI.out u (gm HU.out.1) _ _ (HU.out.2.alloc _) (fun b hb=>Nat.lt_of_lt_of_le (HS.out b hb) (HKW.out.alloc _).size)).mono ?_;rintro e w3 ⟨y,rfl,hp⟩;have hv3:=(hp.any (VAgg.vn HU.out.2)).1;obtain ⟨ks3,ds3,hy,hv4⟩:=hv3;obtain ⟨p3,c3,rfl,_⟩:=hv4.2.1.form;obtain ⟨p4,c4,rfl,_⟩:=hv4.2.2.form;subst hy;have hp0:=(hp.any (VAgg.vn HU.out.2)).2;have hbx:=(Blk.new wr 25 #[.int .i64 u.kind,.int .u64 u.num,.string u.text,.slice pk u.kids.length ck,.int .i64 u.of_,.slice pd u.desc.length cd]).kept hp0 (fun h=>h);have HP:=hid (aI hp hbx);clear hp hp0 hbx hv4;unfold vagg)) | (have _t:=HP;(refine xbl rfl 25 (.tmp 5) (.tmp 23) rfl wr.heap.size #[.int .i64 (asRead u).kind,.int .u64 (asRead u).num,.string (asRead u).text,.slice p3 (asRead u).kids.length c3,.int .i64 (asRead u).of_,.slice p4 (asRead u).desc.length c4] rfl rfl 25 #[.int .i64 u.kind,.int .u64 u.num,.string u.text,.slice pk u.kids.length ck,.int .i64 u.of_,.slice pd u.desc.length cd] HP.out.2 (by kernel_rfl) rfl (xpA _ _ _ _ _ _ _ _ _ _) ?_;intro W hW hK;have hs:=xje HP.out.1 (VAgg.vn HU.out.2) (fun b hb=>Nat.lt_of_lt_of_le (HS.out b hb) HKW.out.size) hK;have hN3:=HN.out.nope hs.1;have hNN:=hid (aI hN3 hs);have c0:=hW.cell 0;have c1:=hW.cell 1;have c2:=hW.cell 2;have c3':=hW.cell 3;have c4':=hW.cell 4;have c5:=hW.cell 5;have cC:=hN3.cell.cell 3;have cCa:∀ o,(W.alloc o).cell? ⟨C,3,none⟩=some (.slice po la.length co):=(fun o=>by have h:=(hN3.cell.alloc o).cell 3;exact h);simp only [gt,gz,gs] at c0 c1 c2 c3' c4' c5 cC;clear hW hK hs hN3 _t HP)) | (at_builtin;go_must (refine xae _ rfl (.tmp 25) (.tmp 27) 23 rfl W2.heap.size 25 i1 _ 6 88 underlying23 hi hz0 hz1 hz2 rfl (by decide) _ _ _ rfl (hNN.out.1.nope ((kR Nope W).alloc (.cells (Lay.mk (asRead u) (.slice p3 (asRead u).kids.length c3) (.slice p4 (asRead u).desc.length c4)).cells.toArray 25))).row.own Any_ _ 1 (Lay.mk (asRead u) (.slice p3 (asRead u).kids.length c3) (.slice p4 (asRead u).desc.length c4)).cells rfl (CSl.one_six (W:=W) _ rfl) (Lay.Ok.one (Lay.ofV hNN.out.2.2)) (by have:=HN.out.len;unfold maxLen;omega) (by have:=HN.out.len;omega) (((hNN.out.1.nope ((kR Nope W).alloc (.cells (Lay.mk (asRead u) (.slice p3 (asRead u).kids.length c3) (.slice p4 (asRead u).desc.length c4)).cells.toArray 25))).kept).size) ?_;intro v5 w5 hown hgrow hblk;obtain ⟨p5,c5',rfl⟩:=ownsRow_form' hown;have hC5:=(hNN.out.1.cell.alloc (.cells (Lay.mk (asRead u) (.slice p3 (asRead u).kids.length c3) (.slice p4 (asRead u).desc.length c4)).cells.toArray 25)).grown hgrow (fun e=>HN.out.ne e.symm);have cC5:=hC5.cell 3;have fC5:=hC5.frozen 3;simp only [gt,gz,gs] at cC5;have HO:=hid (aI hown (aI hgrow hblk));clear hown hgrow hblk hC5)));go_roundw
   case rel =>
    have hka:=hNN.out.1.nope ((kR Nope W).alloc (.cells (Lay.mk (asRead u) (.slice p3 (asRead u).kids.length c3) (.slice p4 (asRead u).desc.length c4)).cells.toArray 25));refine ⟨k+1,_,_,by omega,by go_num,hid (hka.step (fun h=>by have:=HS.out C h;have:=HQ.out;omega) (fun b hb=>by have:=HS.out b hb;have:=HZ.out;omega) HU.out.1 ((Lay.ofV hNN.out.2.2).keep ((kR Nope W).alloc _) (fun _ _ _ h=>h) |>.mono fun b _ hb => ?_) (by unfold xfC;rw [if_neg (by rw [HKK.out.1];exact HKK.out.2.2)]) HO.out.1 HO.out.2.1 HO.out.2.2)⟩
    rcases hb with hb | hb
    ·exact .inl hb
    ·have h1:=HN.out.kept.size;exact .inr ⟨by omega,fun e=>by have:=(HN.out.row.own.lt b e).2;omega⟩
   case measure=>simp [RowKit.intOf];omega
  ·obtain rfl:k=n:=by omega
   have hlt:¬ (k:Int) < (k:Int):=by omega
   have rr:=HAR.out.2.kept HN.out.kept hnR;have r0:=rr.cell 0;have r1:=rr.cell 1;have r2:=rr.cell 2;have r3:=rr.cell 3;have r4:=rr.cell 4;have r5:=rr.cell 5;have g0:=rr.frozen 0;have g1:=rr.frozen 1;have g2:=rr.frozen 2;have g3:=rr.frozen 3;have g4:=rr.frozen 4;have g5:=rr.frozen 5;have hcc:=HN.out.cell;have q0:=hcc.cell 0;have q1:=hcc.cell 1;have q2:=hcc.cell 2;have q3:=hcc.cell 3;have q4:=hcc.cell 4;have q5:=hcc.cell 5;simp only [gt,gz,gs] at r0 r1 r2 r3 r4 r5 q0 q1 q2 q3 q4 q5;have HRR:=hid rr;clear hcc rr hnA hnR;go_wp2;have hB2:=(((((HRR.out.set_ 0 (.int .i64 kd)).set_ 1 (.int .u64 v.num)).set_ 2 (.string v.text)).set_ 3 (.slice po la.length co)).set_ 4 (.int .i64 v.of_)).set_ 5 (.slice p2 v.desc.length c2);have hks:Kept (Only R) wr ((((((wr.setCell ⟨R,0,none⟩ (.int .i64 kd)).setCell ⟨R,1,none⟩ (.int .u64 v.num)).setCell ⟨R,2,none⟩ (.string v.text)).setCell ⟨R,3,none⟩ (.slice po la.length co)).setCell ⟨R,4,none⟩ (.int .i64 v.of_)).setCell ⟨R,5,none⟩ (.slice p2 v.desc.length c2)):=((((((kR _ _).set1 0 _).set1 1 _).set1 2 _).set1 3 _).set1 4 _).set1 5 _;refine bodyPost_ret (v:=.agg #[.int .i64 kd,.int .u64 v.num,.string v.text,.slice po la.length co,.int .i64 v.of_,.slice p2 v.desc.length c2]) (results_cell_row (P:=prog) rfl _ _ R 25 _ _ _ rfl hB2 underlying25 rfl (by kernel_rfl)) rfl ⟨_,rfl,.slice po la.length co,.slice p2 v.desc.length c2,la,?_,?_⟩
   ·rw [xbj];simp only [vagg,V.kind_mk,V.num_mk,V.text_mk,V.of_mk];rw [if_neg (by rw [HKK.out.1];exact HKK.out.2.1),HKK.out.1]
   ·obtain ⟨rfl,rfl,rfl⟩:=HQ.out;exact RInv.done HC.out (by rw [HL.out];exact HN.out) hks
theorem xpo (S:Nat->Prop) (v:V) (w:World) (xa:Value) (ha:VAgg S w xa v) (hS:∀ b,S b->b < w.heap.size) (hn:v.kids.length<=1000) (hk:v.kind=23)
  (ih:∀ k,k ∈ v.kids->∀ (W:World) (y:Value),VAgg S W y k->(∀ b,S b->b < W.heap.size)->Calls prog 16 #[y] W (Gives (AR S W k))) :
  Calls prog 16 #[xa] w (Gives (AR S w v)):=by
 obtain ⟨i1,hi,hz0,hz1,hz2⟩:=info_parts xbc;obtain ⟨ka,da,rfl,hna,hka,hda⟩:=ha;have HKA:=hid hka;have HDA:=hid hda;have HI:=hid ih;have HS:=hid hS;obtain ⟨p1,c1,rfl,q1,m1⟩:=hka.form;obtain ⟨p2,c2,rfl,q2,m2⟩:=hda.form;clear hna hka hda ih q1 m1 q2 m2 hS;unfold vagg;obtain ⟨n,hnn⟩:∃ m,v.kids.length=m:=⟨_,rfl⟩
 have HL:=hid hnn
 have HC0:RCtx S w v (.slice p2 v.desc.length c2) (((w.alloc (.cells #[.int .i64 v.kind,.int .u64 v.num,.string v.text,.slice p1 v.kids.length c1,.int .i64 v.of_,.slice p2 v.desc.length c2] 25)).alloc (.cells #[.int .i64 0,.int .u64 0,.string ⟨#[]⟩,.slice none 0 0,.int .i64 0,.slice none 0 0] 25)).alloc (.cells #[.int .i64 23,.int .u64 v.num,.string v.text,.slice none 0 0,.int .i64 v.of_,.slice p2 v.desc.length c2] 25)):=by
  have h3:=Blk.three w #[.int .i64 v.kind,.int .u64 v.num,.string v.text,.slice p1 v.kids.length c1,.int .i64 v.of_,.slice p2 v.desc.length c2] #[.int .i64 0,.int .u64 0,.string ⟨#[]⟩,.slice none 0 0,.int .i64 0,.slice none 0 0] #[.int .i64 23,.int .u64 v.num,.string v.text,.slice none 0 0,.int .i64 v.of_,.slice p2 v.desc.length c2] 25;exact ⟨h3.2.2.2.2,h3.2.2.2.1,h3.1,⟨_,h3.2.2.1⟩,HDA.out,HS.out⟩
 have HB0:=hid (aI (Blk.three w #[.int .i64 v.kind,.int .u64 v.num,.string v.text,.slice p1 v.kids.length c1,.int .i64 v.of_,.slice p2 v.desc.length c2] #[.int .i64 0,.int .u64 0,.string ⟨#[]⟩,.slice none 0 0,.int .i64 0,.slice none 0 0] #[.int .i64 23,.int .u64 v.num,.string v.text,.slice none 0 0,.int .i64 v.of_,.slice p2 v.desc.length c2] 25).2.1 (Blk.three w #[.int .i64 v.kind,.int .u64 v.num,.string v.text,.slice p1 v.kids.length c1,.int .i64 v.of_,.slice p2 v.desc.length c2] #[.int .i64 0,.int .u64 0,.string ⟨#[]⟩,.slice none 0 0,.int .i64 0,.slice none 0 0] #[.int .i64 23,.int .u64 v.num,.string v.text,.slice none 0 0,.int .i64 v.of_,.slice p2 v.desc.length c2] 25).2.2.1);have HC:=hid HC0;clear HC0;rw [hk] at HC HB0 ⊢;rw [hnn] at hn HC HB0 ⊢;have HKK:=hid hk;clear hk hnn;go_enter func16,ntmps16;go_wp2;generalize ((w.alloc (.cells #[.int .i64 23,.int .u64 v.num,.string v.text,.slice p1 n c1,.int .i64 v.of_,.slice p2 v.desc.length c2] 25)).alloc (.cells #[.int .i64 0,.int .u64 0,.string ⟨#[]⟩,.slice none 0 0,.int .i64 0,.slice none 0 0] 25)).alloc (.cells #[.int .i64 23,.int .u64 v.num,.string v.text,.slice none 0 0,.int .i64 v.of_,.slice p2 v.desc.length c2] 25)=W2 at HC HB0 ⊢;have hR:=RInv.start HC.out HB0.out.1;obtain ⟨C,hC⟩:∃ C,w.heap.size+2=C:=⟨_,rfl⟩
 have hC1:w.heap.size+1+1=C:=hC;obtain ⟨R,hRR⟩:∃ R,w.heap.size+1=R:=⟨_,rfl⟩
 obtain ⟨A,hA⟩:∃ A,w.heap.size=A:=⟨_,rfl⟩
 have hAB:=HB0.out.2;have hRB:=HC.out.res;rw [hC] at hR;rw [hRR] at hRB;rw [hA] at hAB;rw [hC1,hRR,hA];have HR0:=hid hR;have HAR:=hid (aI hAB hRB);have HQ:=hid (aI hC (aI hRR hA));clear hR hAB hRB hC hC1 hRR hA HB0
 go_loopw [15] (fun q w'=>∃ (k:Nat) (la:List Lay) (x:Value),k<=n/\q = .int .i64 k/\Hid (RInv S v 23 (.slice p2 v.desc.length c2) W2 C k la x w')) (fun q _=>n - (RowKit.intOf q).toNat)
 case atStart=>exact ⟨0,[],_,by omega,rfl,HR0⟩
 case round =>
  obtain ⟨k,la,x,hk,rfl,HN⟩:=hrel;obtain ⟨po,co,ho⟩:=HN.out.row.form;subst ho;have HZ:=hid HC.out.size;have hnA:¬ Only C A:=fun e=>by have e':A=C:=e;have:=HQ.out;omega
  have hnR:¬ Only C R:=fun e=>by have e':R=C:=e;have:=HQ.out;omega
  have HKW:=hid (show Kept Nope w wr from HC.out.kept.trans HN.out.kept fun b hb e=>by have e':b=C:=e;have:=HQ.out;omega)
  by_cases hkn:k < n
  ·have hkn':(k:Int) < (n:Int):=by omega
   have hk0:(0:Int)<=(k:Int):=by omega
   have e1:IntKind.i64.wrap ((k:Int)+1)=(k:Int)+1:=IntWalk.i64_in _ (by omega);have bA0:∀ o,(wr.alloc o).cell? ⟨A,0,none⟩=some (.int .i64 23):=fun o=>by have h:=((HAR.out.1.kept HN.out.kept hnA).alloc o).cell 0;exact h
   obtain ⟨u,hu⟩:∃ u,v.kids[k]? = some u:=⟨v.kids[k]'(by rw [HL.out];exact hkn),ge _⟩
   obtain ⟨b2,off2,cap2,pk,ck,pd,cd,q2,hvx,y0,y1,y2,y3,y4,y5⟩:=(HKA.out.keep HKW.out (fun _ _ _ h=>h)).sixS hu;injection q2 with q2 _ q2'
   subst q2 q2';have HU:=hid (aI hu hvx);clear hu hvx hnA hnR;have cCa:∀ o,(wr.alloc o).cell? ⟨C,3,none⟩=some (.slice po la.length co):=fun o=>by have h:=(HN.out.cell.alloc o).cell 3;exact h
   go_wp2_with (first | (at_builtin;go_must (refine xae _ rfl (.tmp 25) (.tmp 27) 23 rfl W2.heap.size 25 i1 _ 6 88 underlying23 hi hz0 hz1 hz2 rfl (by decide) _ _ _ rfl (HN.out.nope (((kR Nope wr).alloc (.cells (Lay.mk u (.slice pk u.kids.length ck) (.slice pd u.desc.length cd)).cells.toArray 25)).alloc (.cells (Lay.mk u (.slice pk u.kids.length ck) (.slice pd u.desc.length cd)).cells.toArray 25))).row.own Any_ _ 1 (Lay.mk u (.slice pk u.kids.length ck) (.slice pd u.desc.length cd)).cells rfl (CSl.one_six (W:=wr.alloc (.cells (Lay.mk u (.slice pk u.kids.length ck) (.slice pd u.desc.length cd)).cells.toArray 25)) _ (by simp)) (Lay.Ok.one (Lay.ofV HU.out.2)) (by have:=HN.out.len;unfold maxLen;omega) (by have:=HN.out.len;omega) ((HN.out.nope (((kR Nope wr).alloc (.cells (Lay.mk u (.slice pk u.kids.length ck) (.slice pd u.desc.length cd)).cells.toArray 25)).alloc (.cells (Lay.mk u (.slice pk u.kids.length ck) (.slice pd u.desc.length cd)).cells.toArray 25))).kept.size) ?_;intro v5 w5 hown hgrow hblk;obtain ⟨p5,c5',rfl⟩:=ownsRow_form' hown;have hC5:=((HN.out.cell.alloc (.cells (Lay.mk u (.slice pk u.kids.length ck) (.slice pd u.desc.length cd)).cells.toArray 25)).alloc (.cells (Lay.mk u (.slice pk u.kids.length ck) (.slice pd u.desc.length cd)).cells.toArray 25)).grown hgrow (fun e=>HN.out.ne e.symm);have cC5:=hC5.cell 3;have fC5:=hC5.frozen 3;simp only [gt,gz,gs] at cC5;have HO:=hid (aI hown (aI hgrow hblk));clear hown hgrow hblk hC5)));go_roundw
   case rel =>
    have hka:=HN.out.nope (((kR Nope wr).alloc (.cells (Lay.mk u (.slice pk u.kids.length ck) (.slice pd u.desc.length cd)).cells.toArray 25)).alloc (.cells (Lay.mk u (.slice pk u.kids.length ck) (.slice pd u.desc.length cd)).cells.toArray 25));refine ⟨k+1,_,_,by omega,by go_num,hid (hka.step (fun h=>by have:=HS.out C h;have:=HQ.out;omega) (fun b hb=>by have:=HS.out b hb;have:=HZ.out;omega) HU.out.1 ((Lay.ofV HU.out.2).keep (((kR Nope wr).alloc _).alloc _) (fun _ _ _ h=>h) |>.mono fun _ _ hb => .inl hb) (by unfold xfC;rw [if_pos HKK.out]) HO.out.1 HO.out.2.1 HO.out.2.2)⟩
   case measure=>simp [RowKit.intOf];omega
  ·obtain rfl:k=n:=by omega
   have hlt:¬ (k:Int) < (k:Int):=by omega
   have rr:=HAR.out.2.kept HN.out.kept hnR;have r0:=rr.cell 0;have r1:=rr.cell 1;have r2:=rr.cell 2;have r3:=rr.cell 3;have r4:=rr.cell 4;have r5:=rr.cell 5;have g0:=rr.frozen 0;have g1:=rr.frozen 1;have g2:=rr.frozen 2;have g3:=rr.frozen 3;have g4:=rr.frozen 4;have g5:=rr.frozen 5;have hcc:=HN.out.cell;have q0:=hcc.cell 0;have q1:=hcc.cell 1;have q2:=hcc.cell 2;have q3:=hcc.cell 3;have q4:=hcc.cell 4;have q5:=hcc.cell 5;simp only [gt,gz,gs] at r0 r1 r2 r3 r4 r5 q0 q1 q2 q3 q4 q5;have HRR:=hid rr;clear hcc rr hnA hnR;go_wp2;have hB2:=(((((HRR.out.set_ 0 (.int .i64 23)).set_ 1 (.int .u64 v.num)).set_ 2 (.string v.text)).set_ 3 (.slice po la.length co)).set_ 4 (.int .i64 v.of_)).set_ 5 (.slice p2 v.desc.length c2);have hks:Kept (Only R) wr ((((((wr.setCell ⟨R,0,none⟩ (.int .i64 23)).setCell ⟨R,1,none⟩ (.int .u64 v.num)).setCell ⟨R,2,none⟩ (.string v.text)).setCell ⟨R,3,none⟩ (.slice po la.length co)).setCell ⟨R,4,none⟩ (.int .i64 v.of_)).setCell ⟨R,5,none⟩ (.slice p2 v.desc.length c2)):=((((((kR _ _).set1 0 _).set1 1 _).set1 2 _).set1 3 _).set1 4 _).set1 5 _;refine bodyPost_ret (v:=.agg #[.int .i64 23,.int .u64 v.num,.string v.text,.slice po la.length co,.int .i64 v.of_,.slice p2 v.desc.length c2]) (results_cell_row (P:=prog) rfl _ _ R 25 _ _ _ rfl hB2 underlying25 rfl (by kernel_rfl)) rfl ⟨_,rfl,.slice po la.length co,.slice p2 v.desc.length c2,la,?_,?_⟩
   ·rw [xbj];simp only [vagg,V.kind_mk,V.num_mk,V.text_mk,V.of_mk];rw [if_neg (by rw [HKK.out];decide),HKK.out]
   ·obtain ⟨rfl,rfl,rfl⟩:=HQ.out;exact RInv.done HC.out (by rw [HL.out];exact HN.out) hks
inductive Few:V->Prop
 | mk {v:V}:v.kids.length<=1000->(∀ k ∈ v.kids,Few k)->Few v
theorem xju (S:Nat->Prop):∀ (n:Nat) (v:V),SizeOf.sizeOf v<=n->Few v->∀ (w:World) (xa:Value),VAgg S w xa v->(∀ b,S b->b < w.heap.size)->Calls prog 16 #[xa] w (Gives (AR S w v)):=by
 intro n
 induction n using Nat.strongRecOn with
 | _ n ih =>
  intro v hn hf w xa ha hS;have hfew:v.kids.length<=1000:=by cases hf;assumption
  have hI:∀ k,k ∈ v.kids->∀ (W:World) (y:Value),VAgg S W y k->(∀ b,S b->b < W.heap.size)->Calls prog 16 #[y] W (Gives (AR S W k)):=fun k hk W y hy hS'=>by
   have hs:=V.sizeOf_kid hk;exact ih (SizeOf.sizeOf k) (by omega) k (Nat.le_refl _) (by cases hf with | mk _ h=>exact h k hk) W y hy hS'
  by_cases h1:v.kind=20
  ·exact xpn S v w xa ha hS hfew h1 hI
  ·by_cases h2:v.kind=23
   ·exact xpo S v w xa ha hS hfew h2 hI
   ·exact xmo S v w xa ha hS hfew h1 h2 hI
theorem xeR (v:V) (hf:Few v) (w:World) (xa:Value) (ha:VAgg Any_ w xa v):Calls prog 16 #[xa] w (Gives (AR (fun b=>b < w.heap.size) w v)) :=
 xju (fun b=>b < w.heap.size) _ v (Nat.le_refl _) hf w xa (ha.mono fun _ hb _=>hb) fun _ h=>h
end
def AskW (P:Prop) (w:World):Ending->World->Prop:=fun e w'=>((e = .returned (.bool true)/\P)\/(e = .returned (.bool false)/\¬ P))/\w=w'
theorem xjf (k:Int) (w:World):Calls prog 95 #[.int .i64 k] w (AskW (xce k) w):=by
 have hc:(1<=k/\k<=9)\/k=16\/k=17\/k=19\/k=20\/k < 1\/(9 < k/\k≠16/\k≠17/\k≠19/\k≠20):=by omega
 rcases hc with ⟨h1,h2⟩ | rfl | rfl | rfl | rfl | h | ⟨h1,h2,h3,h4,h5⟩
 ·have HP:=hid (show xce k from .inl ⟨h1,h2⟩);go_enter func95,ntmps95;go_wp2;go_ret;exact ⟨.inl ⟨rfl,HP.out⟩,rfl⟩
 ·go_enter func95,ntmps95;go_wp2;go_ret;exact ⟨.inl ⟨rfl,by unfold xce;omega⟩,rfl⟩
 ·go_enter func95,ntmps95;go_wp2;go_ret;exact ⟨.inl ⟨rfl,by unfold xce;omega⟩,rfl⟩
 ·go_enter func95,ntmps95;go_wp2;go_ret;exact ⟨.inl ⟨rfl,by unfold xce;omega⟩,rfl⟩
 ·go_enter func95,ntmps95;go_wp2;go_ret;exact ⟨.inl ⟨rfl,by unfold xce;omega⟩,rfl⟩
 ·have n1:(k == 16)=false:=by simp;omega
  have n2:(k == 17)=false:=by simp;omega
  have n3:(k == 19)=false:=by simp;omega
  have n4:(k == 20)=false:=by simp;omega
  have HP:=hid (show ¬ xce k from by unfold xce;omega);go_enter func95,ntmps95;go_wp2;go_ret;exact ⟨.inr ⟨rfl,HP.out⟩,rfl⟩
 ·have n1:(k == 16)=false:=by simpa using h2
  have n2:(k == 17)=false:=by simpa using h3
  have n3:(k == 19)=false:=by simpa using h4
  have n4:(k == 20)=false:=by simpa using h5
  have HP:=hid (show ¬ xce k from by unfold xce;omega);have d9:decide (k<=9)=false:=by simp;omega
  clear h2 h3 h4 h5;go_enter func95,ntmps95;go_wp2;go_ret;exact ⟨.inr ⟨rfl,HP.out⟩,rfl⟩
theorem xeG (k:Int) (w:World):Calls prog 93 #[.int .i64 k] w (AskW (xaK k) w):=by
 have hc:(1<=k/\k<=11)\/(16<=k/\k<=20)\/k < 1\/(11 < k/\k < 16)\/20 < k:=by omega
 rcases hc with ⟨h1,h2⟩ | ⟨h1,h2⟩ | h | ⟨h1,h2⟩ | h
 ·have HP:=hid (show xaK k from .inl ⟨h1,h2⟩);go_enter func93,ntmps93;go_wp2;go_ret;exact ⟨.inl ⟨rfl,HP.out⟩,rfl⟩
 ·have HP:=hid (show xaK k from .inr ⟨h1,h2⟩);go_enter func93,ntmps93;go_wp2;go_ret;exact ⟨.inl ⟨rfl,HP.out⟩,rfl⟩
 ·have HP:=hid (show ¬ xaK k from by unfold xaK;omega);go_enter func93,ntmps93;go_wp2;go_ret;exact ⟨.inr ⟨rfl,HP.out⟩,rfl⟩
 ·have HP:=hid (show ¬ xaK k from by unfold xaK;omega);have d1:decide (k<=11)=false:=by simp;omega
  have d2:decide (16<=k)=false:=by simp;omega
  go_enter func93,ntmps93;go_wp2;go_ret;exact ⟨.inr ⟨rfl,HP.out⟩,rfl⟩
 ·have HP:=hid (show ¬ xaK k from by unfold xaK;omega);have d1:decide (k<=11)=false:=by simp;omega
  have d2:decide (k<=20)=false:=by simp;omega
  go_enter func93,ntmps93;go_wp2;go_ret;exact ⟨.inr ⟨rfl,HP.out⟩,rfl⟩
end Go.Proofs.YtmdpodeegdjkeaaGreatDoor
