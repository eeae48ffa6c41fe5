/- FnReadMap, part 1 (texts OpH UnA LsA Wk LsM KeysOf LwM RkMap LsMap LwMap). No conditions. -/
import Derived.StillTailTactics
import Derived.Test.YtmdpodeegdjkeaaGreatDoorU25
import Derived.Test.YtmdpodeegdjkeaaGreatDoorU34
import Derived.Test.YtmdpodeegdjkeaaGreatDoorU33
import Derived.Test.YtmdpodeegdjkeaaGreatDoorU23
import Derived.Test.YtmdpodeegdjkeaaGreatDoorU3
import Derived.Test.YtmdpodeegdjkeaaGreatDoorU27
import Derived.Test.YtmdpodeegdjkeaaGreatDoorEM0
set_option maxRecDepth 100000
set_option maxHeartbeats 3200000
namespace Go.Proofs.YtmdpodeegdjkeaaGreatDoor
open Go Go.RowKit Go.Lib Tryz
theorem xly:prog.cellsOf 39=9:=by kernel_rfl
theorem xig:prog.cellsOf 26=1:=by kernel_rfl
section
variable {H:Type} {enc:TypeId × Value->H} {W:World} {sp:Nat->Bool}
theorem xkc {fuel:Nat} {s:Value} {x:DataW H × List MemPlace} (h:DataW.trod enc prog W 0 sp true fuel 26 [s]=some x):∃ bs:List UInt8,BSl Any_ W s bs:=by
 rcases DataW.trod_slice underlying26 h with ⟨hcs,_⟩ | ⟨a,len,cap,elems,rest,m,rfl,hcs,_,_,hl,hm,hlen,hel,_,_⟩
 ·obtain rfl:=(List.cons.inj hcs).1;exact ⟨[],.nil none 0 (Nat.zero_le _)⟩
 ·obtain rfl:=(List.cons.inj hcs).1
  have hall:∀ i,i < len->∃ z:UInt8,W.cell? (a.add i)=some (u8 z):=fun i hi=>by
   have h1:=hel i hi;rw [ge (by omega),xoq,Nat.mul_one] at h1;obtain ⟨cs,h2,h3⟩:=Option.bind_eq_some_iff.1 h1;obtain ⟨n,rfl,_,hw⟩:=DataW.trod_int underlying5 h3;have h4:=(World.cells?_some h2).2.2 0 (by decide);have h5:=wf_u8_le hw;refine ⟨UInt8.ofNat n.toNat,?_⟩;rw [show (a.add i).add 0=a.add i by simp [Addr.add]] at h4;rw [h4];simp only [gz,u8]
   congr 2
   simp only [UInt8.toNat_ofNat'];omega
  obtain ⟨f,hf⟩:=Go.Deep.choose_lt hall
  rcases Nat.eq_zero_or_pos len with rfl | hpos
  ·exact ⟨[],.nil _ _ hm⟩
  ·obtain ⟨b,off,spot⟩:=a;have hspot:spot=none:=by simpa [Addr.add] using World.cell?_spot (hf 0 hpos)
   subst hspot;have hlen':((List.range len).map f).length=len:=by simp
   refine ⟨(List.range len).map f,some ⟨b,off,none⟩,cap,by rw [hlen'],by rw [hlen'];exact hl,hm,.inr ⟨b,off,rfl,trivial,fun j x hj => ?_⟩⟩
   have hj':j < len:=by
    have:=(gi.1 hj).1;rwa [hlen'] at this
   rw [gM,List.getElem?_range hj'] at hj;obtain rfl:=Option.some.inj hj;have:=hf j hj';rwa [Addr.add_lit] at this
theorem open_Handed {base:Nat} {v:Value} {d:DataW H} {p:List MemPlace} (hval:Value.okWide prog W .any base 39 v) (h:DataW.Trod enc prog W 0 sp true 39 v d p):∃ t st cut xb bs,xiq W v t st cut xb bs:=by
 unfold Value.okWide at hval;rw [underlying39] at hval;obtain ⟨cs,rfl,_⟩:=hval;obtain ⟨fuel,hf⟩:=h;obtain ⟨xs,n,rfl,_,hl,hlen,hf⟩:=DataW.trod_struct underlying39 hf;rw [xly] at hl;obtain ⟨cs⟩:=cs;simp only [Value.cells] at hl hf
 match cs,hl with
 | [c0,c1,c2,c3,c4,c5,c6,c7,c8],_ =>
  match xs,hlen with
  | [y0,y1,y2,y3],_ =>
   have f0:DataW.trod enc prog W 0 sp true n 25 [c0,c1,c2,c3,c4,c5]=some y0:=by
    have h:=hf 0 _ rfl
    simpa [xdW] using h
   have f1:DataW.trod enc prog W 0 sp true n 22 [c6]=some y1:=by
    have h:=hf 1 _ rfl
    simpa [xgd,xdW] using h
   have f2:DataW.trod enc prog W 0 sp true n 26 [c7]=some y2:=by
    have h:=hf 2 _ rfl
    simpa [xgd,xdW,xig] using h
   have f3:DataW.trod enc prog W 0 sp true n 3 [c8]=some y3:=by
    have h:=hf 3 _ rfl
    simpa [xgd,xdW,xig,xif] using h
   obtain ⟨q,e0,q1,q2,q3⟩:=xhM _ _ _ f0;obtain ⟨st,e1,_,w1⟩:=DataW.trod_int underlying22 f1;obtain ⟨bs,hb⟩:=xkc f2;obtain ⟨cut,e3,_,w3⟩:=DataW.trod_int underlying3 f3;obtain rfl:=(List.cons.inj e1).1;obtain rfl:=(List.cons.inj e3).1;simp only [List.cons.injEq,and_true] at e0;obtain ⟨rfl,rfl,rfl,rfl,rfl,rfl⟩:=e0;exact ⟨q.1,st,cut,c7,bs,⟨_,_,_,_,_,_,rfl,_,_,rfl,q1,q2,q3⟩,wf_u64_le w1,xhI w3,hb⟩
end
section
variable (r:Nat) (s:Value) (D:List UInt8)
structure xqJ (r:Nat) (s:Value) (D:List UInt8) (v:V) (bs:List UInt8) (j0:Nat) (ps:List (List UInt8)):Prop where
 head:∀ W,Buf W r s D 0->Calls prog 100 #[.pointer (some ⟨r,0,none⟩)] W fun e W'=>e = .returned (.tuple #[.int .u32 (2*((v.kids.length / 2:Nat):Int)),.nilIface])/\At_ W W' r s D (place j0 ps 0)
 even:v.kids.length=2*(v.kids.length / 2)
 few:v.kids.length / 2<=32768
 num:ps.length=v.kids.length
 enc:∀ (k:Nat) (u:V) (p:List UInt8),v.kids[k]? = some u->ps[k]? = some p->Enc u p
 lies:Lies D j0 ps.flatten
 end_:place j0 ps (2*(v.kids.length / 2))=bs.length
theorem xhG {v:V} {bs:List UInt8} (hg:Good v) (h22:v.kind=22) (hD:D.length < 4294967296) (hE:Enc v bs) (hL:Lies D 0 bs):∃ (j0:Nat) (ps:List (List UInt8)),xqJ r s D v bs j0 ps:=by
 have hfew:=hg.tidy.few;have hlen:=hL.len (Nat.zero_le _);have hev:v.kids.length % 2=0:=by cases hg with | mk _ _ _ hm _=>exact (hm h22).1
 have hm:((v.kids.length:Nat):Int)=2*((v.kids.length / 2:Nat):Int):=by omega
 cases hE with
 | desc h1 _ _=>rw [hg.desc] at h1;cases h1
 | @plain _ c q _ hF =>
  simp only [lC] at hlen ⊢
  rcases hF.code with ⟨h21,_⟩ | ⟨_,⟨rfl,d,hE,hd,rfl⟩ | ⟨rfl,d,hE,rfl⟩⟩ | ⟨_,h,_⟩
  ·omega
  ·have hl3:Lies D 3 d:=by have:=hL.tail.right;simpa using this
   have hq:(be 1 (d.length+1) ++ be 1 v.kids.length ++ d).length+1=3+d.length:=by simp;omega
   have hcnt:=hE.count_le;obtain ⟨ps,h1,h2,h3⟩:=hE.pieces;refine ⟨3,ps,fun W hW => ?_,by omega,by omega,h1,h3,h2 ▸ hl3,?_⟩
   ·rw [xcI,<- hm];exact mapHead1 W r s D 0 _ d hcnt hd hW hL
   ·rw [show 2*(v.kids.length / 2)=ps.length by omega,xdV,<- h2];simp only [lC];omega
  ·have hl9:Lies D 9 d:=by have:=hL.tail.right;simpa using this
   have hq:(be 4 (d.length+4) ++ be 4 v.kids.length ++ d).length+1=9+d.length:=by simp;omega
   have hcnt:=hE.count_le;obtain ⟨ps,h1,h2,h3⟩:=hE.pieces;refine ⟨9,ps,fun W hW => ?_,by omega,by omega,h1,h3,h2 ▸ hl9,?_⟩
   ·rw [xcI,<- hm];exact mapHead4 W r s D 0 _ d hcnt (by omega) (by omega) hW hL
   ·rw [show 2*(v.kids.length / 2)=ps.length by omega,xdV,<- h2];simp only [lC];omega
  ·exact absurd h22 h
theorem xlj (w0 W:World) (p i0:Nat) (t:TypeId) (v:V) (bs:List UInt8) (hg:Good v) (h22:v.kind=22) (hD:D.length < 4294967296) (hE:Enc v bs) (hL:Lies D 0 bs) (h0:Buf w0 r s D i0) (hA:At_ w0 W r s D 0) (hp:w0.heap.size<=p) (hc:Blk W p t #[.map none]) :
  Calls prog 47 #[.pointer (some ⟨p,0,none⟩),.pointer (some ⟨r,0,none⟩)] W (Gives fun e w'=>e = .nilIface/\xeO w0 r s D bs.length p t (v.kids.map asRead) (v.kids.length / 2) w'):=by
 have hI:∀ k ∈ v.kids,IH r s D k:=fun k hk=>xfO r s D hD _ k (Nat.le_refl _) (hg.kid hk)
 obtain ⟨j0,ps,H⟩:=xhG r s D hg h22 hD hE hL;have:=xhV w0 W r s D i0 0 p t (v.kids.map asRead) (v.kids.length / 2) (place j0 ps) h0 hA hp hc H.head (by rw [lM];exact H.even) H.few (xfN r s D hI H.num H.enc H.lies) (hg.keysOk h22);rwa [H.end_] at this
end
theorem xoM (bs bh:List UInt8):Lies (bs ++ bh) 0 bs:=fun k x hk=>by
 rw [Nat.zero_add,List.getElem?_append_left (gi.1 hk).1];exact hk
theorem xjR {v:V} (hg:Good v) (hu:Utf (asRead v)) (h23:v.kind≠23):∀ k ∈ v.kids.map asRead,xkk k:=fun k hk=>by
 obtain ⟨x,hx,rfl⟩:=List.mem_map.1 hk;refine xiQ _ x (Nat.le_refl _) (hg.kid hx) ?_
 cases hu with
 | mk _ h=>exact h _ (by rw [xbi,if_neg h23];exact hk)
def mix (l:List V) (k:Nat):List V:=l.mapIdx fun i x=>if i % 2=0/\i < 2*k then x else asRead x
theorem mix_zero (l:List V):mix l 0=l.map asRead:=by
 apply List.ext_getElem?;intro i;unfold mix;rw [List.getElem?_mapIdx,gM];simp
theorem xgM (l:List V) (k:Nat):(mix l k).length=l.length:=by simp [mix]
theorem mix_succ {l:List V} {k:Nat} {x:V} (hx:l[2*k]? = some x):mix l (k+1)=(mix l k).set (2*k) x:=by
 have hlt:=(gi.1 hx).1;apply List.ext_getElem?;intro i;rw [List.getElem?_set];unfold mix;rw [List.getElem?_mapIdx,List.getElem?_mapIdx,List.length_mapIdx]
 by_cases hi:2*k=i
 ·subst hi;rw [if_pos rfl,if_pos hlt,hx,Option.map_some,if_pos (by omega)]
 ·rw [if_neg hi]
  cases h:l[i]? with
  | none=>rfl
  | some y =>
   simp only [Option.map_some]
   by_cases h1:i % 2=0/\i < 2*k
   ·rw [if_pos h1,if_pos (by omega)]
   ·rw [if_neg h1,if_neg (by omega)]
def xcJ (v:V):V:=.mk (asRead v).kind v.num v.text (mix v.kids v.kids.length) v.of_ v.desc
theorem own_set6 {w:World} {base:Nat} {e:TypeId} {g cap n:Nat} {la:List Lay} {i:Nat} {a:Lay} {c0 c1 c2 c3 c4 c5:Value} (hn:n=la.length) (h:w.ownsRow base e 6 (.slice (some ⟨g,0,none⟩) n cap) la.length (la.flatMap Lay.cells)) (hi:i < la.length) (ha:a.cells=[c0,c1,c2,c3,c4,c5]) :
    ((((((w.setCell ⟨g,i*6,none⟩ c0).setCell ⟨g,i*6+1,none⟩ c1).setCell ⟨g,i*6+2,none⟩ c2).setCell ⟨g,i*6+3,none⟩ c3).setCell ⟨g,i*6+4,none⟩ c4).setCell ⟨g,i*6+5,none⟩ c5).ownsRow base e 6 (.slice (some ⟨g,0,none⟩) n cap) (la.set i a).length ((la.set i a).flatMap Lay.cells):=by
  subst hn;obtain ⟨_,h⟩:=h
  rcases h with ⟨h0,_⟩ | ⟨g',cap',cur,h0,hb,hg,hnc,hm,hsz,hcur⟩
  . cases h0
  . injection h0 with h1 _ h2
    injection h1 with h1
    injection h1 with h1
    subst h1 h2;have hB:Blk w g e cur:=hg;have hB':=(((((hB.set_ (i*6) c0).set_ (i*6+1) c1).set_ (i*6+2) c2).set_ (i*6+3) c3).set_ (i*6+4) c4).set_ (i*6+5) c5;refine ⟨by rw [xcg],.inr ⟨g,cap,_,by rw [List.length_set],hb,hB',by rw [List.length_set];exact hnc,hm,by simpa using hsz,?_⟩⟩;rw [List.length_set];apply List.ext_getElem?;intro j;have hlen:(la.flatMap Lay.cells).length=la.length*6:=xcg la
    rcases Nat.lt_or_ge j (la.length*6) with hj | hj
    . obtain ⟨q,m,rfl,hm6⟩:∃ q m,j=q*6+m/\m < 6:=⟨j / 6,j % 6,by omega,by omega⟩
      have hq:q < la.length:=by omega
      have h1:(la.flatMap Lay.cells)[q*6+m]? = cur[q*6+m]? := by
        rw [<- hcur,List.getElem?_take,if_pos (by omega),Array.getElem?_toList]
      rw [List.getElem?_take,if_pos hj,Array.getElem?_toList]
      by_cases hqi:q=i
      . subst hqi
        have h2:(la.set q a)[q]? = some a:=by rw [List.getElem?_set,if_pos rfl,if_pos hq]
        rw [xdt h2 m hm6,ha];have hs:la.length*6<=cur.size:=by rw [hsz];exact Nat.mul_le_mul_right 6 hnc
        rcases (show m=0\/m=1\/m=2\/m=3\/m=4\/m=5 by omega) with rfl | rfl | rfl | rfl | rfl | rfl <;> simp [Array.getElem?_setIfInBounds] <;> omega
      . have h2:(la.set i a)[q]? = some la[q]:=by rw [List.getElem?_set,if_neg (fun e=>hqi e.symm),ge hq]
        rw [xdt h2 m hm6,<- xdt (ge hq) m hm6,h1];simp only [Array.getElem?_setIfInBounds,Array.size_setIfInBounds];rw [if_neg (by omega),if_neg (by omega),if_neg (by omega),if_neg (by omega),if_neg (by omega),if_neg (by omega)]
    . rw [List.getElem?_take,if_neg (by omega),List.getElem?_eq_none]
      rw [xcg,List.length_set];exact hj
structure WRow (R:Nat) (w:World) (base:Nat) (v:V) (ks:Value) (k:Nat) (la:List Lay) (w':World):Prop where
 kept:Kept (fun b=>ks.ownBlock=some b) w w'
 own:w'.ownsRow base 25 6 ks la.length (la.flatMap Lay.cells)
 kids:la.map Lay.v=mix v.kids k
 ok:∀ a ∈ la,a.Ok (fun b=>ks.ownBlock≠some b/\b≠R) w'
theorem WRow.len {R:Nat} {w:World} {base:Nat} {v:V} {ks:Value} {k:Nat} {la:List Lay} {w':World} (h:WRow R w base v ks k la w'):la.length=v.kids.length:=by
 have:=congrArg List.length h.kids;rwa [lM,xgM] at this
theorem WRow.row {R:Nat} {w:World} {base:Nat} {v:V} {p:Option Addr} {n c:Nat} {k:Nat} {la:List Lay} {w':World} (h:WRow R w base v (.slice p n c) k la w') (hn:0 < v.kids.length):∃ g cur,p=some ⟨g,0,none⟩/\base<=g/\Blk w' g 25 cur/\v.kids.length*6<=cur.size:=by
 have hl:=h.len
 rcases h.own.2 with ⟨_,h0⟩ | ⟨g,cap,cur,h0,hb,hg,hnc,_,hsz,_⟩
 ·omega
 ·injection h0 with h1
  exact ⟨g,cur,h1,hb,hg,by rw [hsz];exact Nat.mul_le_mul_right 6 (hl ▸ hnc)⟩
theorem Blk.some_ {w:World} {g:Nat} {t:TypeId} {cs:Array Value} (h:Blk w g t cs) {j:Nat} (hj:j < cs.size):∃ u,w.cell? ⟨g,j,none⟩=some u:=⟨_,(h.cell j).trans (Array.getElem?_eq_getElem hj)⟩
theorem WRow.drew {R:Nat} {w:World} {base:Nat} {v:V} {ks:Value} {k:Nat} {la:List Lay} {w':World} (h:WRow R w base v ks k la w'):WRow R w base v ks k la w'.drew :=
 ⟨h.kept.drew,xaB h.own ((kR Nope w').drew) (fun _ _ h=>h),h.kids,fun a ha=>(h.ok a ha).keep ((kR Nope w').drew) (fun _ _ _ h=>h)⟩
theorem six_sets (w:World) (g m:Nat) (c0 c1 c2 c3 c4 c5:Value):Kept (Only g) w ((((((w.setCell ⟨g,m,none⟩ c0).setCell ⟨g,m+1,none⟩ c1).setCell ⟨g,m+2,none⟩ c2).setCell ⟨g,m+3,none⟩ c3).setCell ⟨g,m+4,none⟩ c4).setCell ⟨g,m+5,none⟩ c5) :=
 ((((((kR (Only g) w).set1 m c0).set1 (m+1) c1).set1 (m+2) c2).set1 (m+3) c3).set1 (m+4) c4).set1 (m+5) c5
theorem WRow.step {R:Nat} {w:World} {base:Nat} {v:V} {g n c:Nat} {k:Nat} {la:List Lay} {w':World} {x:V} {kx dx:Value} (h:WRow R w base v (.slice (some ⟨g,0,none⟩) n c) k la w') (hn:n=la.length) (hx:v.kids[2*k]? = some x) (hok:(Lay.mk x kx dx).Ok (fun b=>b≠g/\b≠R) w') :
  WRow R w base v (.slice (some ⟨g,0,none⟩) n c) (k+1) (la.set (2*k) (Lay.mk x kx dx)) ((((((w'.setCell ⟨g,2*k*6,none⟩ (.int .i64 x.kind)).setCell ⟨g,2*k*6+1,none⟩ (.int .u64 x.num)).setCell ⟨g,2*k*6+2,none⟩ (.string x.text)).setCell ⟨g,2*k*6+3,none⟩ kx).setCell ⟨g,2*k*6+4,none⟩ (.int .i64 x.of_)).setCell ⟨g,2*k*6+5,none⟩ dx):=by
 have hlt:=(gi.1 hx).1;have hk:=six_sets w' g (2*k*6) (.int .i64 x.kind) (.int .u64 x.num) (.string x.text) kx (.int .i64 x.of_) dx;have hM:∀ b,(Value.slice (some ⟨g,0,none⟩) n c).ownBlock≠some b->b≠g:=fun b hb e=>hb (by rw [e];rfl)
 refine ⟨h.kept.trans hk fun b _ e => ?_,own_set6 hn h.own (by rw [h.len];exact hlt) rfl,?_,fun a ha => ?_⟩
 ·have e':b=g:=e;rw [e'];rfl
 ·rw [List.map_set,h.kids,mix_succ hx]
 ·have hok':a.Ok (fun b=>(Value.slice (some ⟨g,0,none⟩) n c).ownBlock≠some b/\b≠R) w':=by
   rcases List.mem_or_eq_of_mem_set ha with ha | rfl
   ·exact h.ok a ha
   ·exact hok.mono fun b _ hb=>⟨fun e=>hb.1 (Option.some.inj (show some g=some b from e)).symm,hb.2⟩
  exact hok'.keep hk fun b _ hb e=>hM b hb.1 e
theorem mix_all {l:List V} {k:Nat} (h:l.length<=2*k):mix l k=mix l l.length:=by
 apply List.ext_getElem?;intro i;unfold mix;rw [List.getElem?_mapIdx,List.getElem?_mapIdx]
 cases hi:l[i]? with
 | none=>rfl
 | some y =>
  have hlt:=(gi.1 hi).1;simp only [Option.map_some]
  by_cases h1:i % 2=0
  ·rw [if_pos ⟨h1,by omega⟩,if_pos ⟨h1,by omega⟩]
  ·rw [if_neg (by omega),if_neg (by omega)]
theorem xft (v:V) (h22:v.kind=22) (hf:Few v) (w:World) (xa:Value) (ha:VAgg Any_ w xa v) (hn:v.kids.length<=1000):Calls prog 25 #[xa] w (Gives fun y w'=>VAgg Any_ w' y (xcJ v)/\Kept Nope w w'):=by
  have HA:=hid ha;obtain ⟨ka,da,rfl,hna,hka,hda⟩:=ha;obtain ⟨p1,c1,rfl,q1,m1⟩:=hka.form;obtain ⟨p2,c2,rfl,q2,m2⟩:=hda.form;have HV:=hid (aI hka (aI hda (aI hna hf)));clear hna hka hda q1 m1 q2 m2 hf;unfold vagg at HA ⊢;obtain ⟨n,hnl⟩:∃ m,v.kids.length=m:=⟨_,rfl⟩
  rw [hnl] at hn HA HV ⊢;have HL:=hid hnl;have H22:=hid h22;clear hnl h22;go_enter func25,ntmps25;go_wp2_with fail;obtain ⟨A,hA⟩:∃ A,w.heap.size=A:=⟨_,rfl⟩
  obtain ⟨W2,hW2⟩:∃ W2,(w.alloc (.cells #[.int .i64 v.kind,.int .u64 v.num,.string v.text,.slice p1 n c1,.int .i64 v.of_,.slice p2 v.desc.length c2] 25)).alloc (.cells zVal 25)=W2:=⟨_,rfl⟩
  have hB:=Blk.two w #[.int .i64 v.kind,.int .u64 v.num,.string v.text,.slice p1 n c1,.int .i64 v.of_,.slice p2 v.desc.length c2] zVal 25;have hsz:W2.heap.size=A+2:=by rw [<- hW2,World.size_alloc,World.size_alloc,hA]
  rw [hW2,hA] at hB;unfold zVal at hW2;rw [hW2]
  (try rw [hA])
  have HB:=hid (aI hB.1 (aI hB.2.1 (aI hB.2.2 (aI hsz hA))));clear hB hsz hW2 hA;have hu2:(prog.info? 25).map (fun i=>i.size)=some 6:=by kernel_rfl
  have HU:=hid hu2;clear hu2;refine (xju (fun b=>b < A) _ v (Nat.le_refl _) HV.out.2.2.2 W2 _ ((HA.out.mono (S':=fun b=>b < A) fun b hb _=>by have:=HB.out.2.2.2.2;omega).keep HB.out.2.2.1 (fun _ _ _ h=>h)) (fun b hb=>by have h1:b < A:=hb;have:=HB.out.2.2.2.1;omega)).mono ?_;rintro e w1 ⟨y,rfl,ks,ds,la,rfl,hp⟩;obtain ⟨dsp,dsc,rfl,_⟩:=hp.desc.form;obtain ⟨ksp,ksc,rfl⟩:=xab hp.own;have HP:=hid hp
  have hla:la.length=n:=by
    have h1:=congrArg List.length HP.out.kids;have h2:v.kind≠23:=by rw [H22.out];decide
    rwa [lM,xbi,if_neg h2,lM,HL.out] at h1
  rw [hla] at HP ⊢;have HLA:=hid hla;clear hp hla;unfold vagg
  go_wp2_with (first
    | (refine xbl rfl 25 (.tmp 3) (.tmp 6) rfl w1.heap.size #[.int .i64 (asRead v).kind,.int .u64 (asRead v).num,.string (asRead v).text,.slice ksp n ksc,.int .i64 (asRead v).of_,.slice dsp v.desc.length dsc] rfl rfl 25 zVal (Blk.new w1 25 zVal) (by rw [HU.out];rfl) rfl (by simp [Value.oneCell']) ?_
       intro W3 hW3 hK3;have H3:=hid (aI hW3 hK3)
       clear hW3 hK3))
  have h3:WRow (A+1) W3 W2.heap.size v (.slice ksp n ksc) 0 la W3:=by
    have hka:=(kR Nope w1).alloc (.cells #[.int .i64 0,.int .u64 0,.string ⟨#[]⟩,.slice none 0 0,.int .i64 0,.slice none 0 0] 25)
    have hne:∀ b,(Value.slice ksp n ksc).ownBlock=some b->¬ Only w1.heap.size b:=fun b hb e=>by
      have h1:=(HP.out.own.lt b hb).2;have e':b=w1.heap.size:=e;omega
    refine ⟨kR _ _,xaB (xaB HP.out.own hka (fun _ _ h=>h)) H3.out.2 hne,by rw [mix_zero,HP.out.kids,xbi,if_neg (by rw [H22.out];decide)],fun a ha => ?_⟩;have h4:=HP.out.ok a ha;have h5:a.Ok (fun b=>((Value.slice ksp n ksc).ownBlock≠some b/\b≠A+1)/\b < w1.heap.size) w1:=h4.mono fun b hb hS=>⟨⟨hS.2,by have h6:b < A\/W2.heap.size<=b:=hS.1;have:=HB.out.2.2.2.1;omega⟩,hb⟩
    exact ((h5.keep hka (fun _ _ _ h=>h)).keep H3.out.2 fun b _ hb e=>by have e':b=w1.heap.size:=e;have:=hb.2;omega).mono fun b _ hb=>hb.1
  have HI:=hid h3;clear h3
  have hC:Blk W3 A 25 #[.int .i64 v.kind,.int .u64 v.num,.string v.text,.slice p1 n c1,.int .i64 v.of_,.slice p2 v.desc.length c2]/\Blk W3 (A+1) 25 zVal:=by
    have hka:=(kR Nope w1).alloc (.cells #[.int .i64 0,.int .u64 0,.string ⟨#[]⟩,.slice none 0 0,.int .i64 0,.slice none 0 0] 25);have hsz:=HP.out.kept.size;have hs2:=HB.out.2.2.2.1;exact ⟨((HB.out.1.kept HP.out.kept (fun h=>h)).kept hka (fun h=>h)).kept H3.out.2 (fun e=>by have e':A=w1.heap.size:=e;omega),((HB.out.2.1.kept HP.out.kept (fun h=>h)).kept hka (fun h=>h)).kept H3.out.2 (fun e=>by have e':A+1=w1.heap.size:=e;omega)⟩
  have HC:=hid hC;clear hC;have hkW:Kept Nope w W3:=(HB.out.2.2.1.trans' HP.out.kept).trans' ((((kR Nope w1).alloc _).trans H3.out.2 (fun k hk e=>by have e':k=w1.heap.size:=e;omega)));have HKW:=hid hkW;clear hkW;obtain ⟨Q,hQ⟩:∃ Q,w1.heap.size=Q:=⟨_,rfl⟩
  have HQ:=hid (aI (hQ ▸ H3.out.1) (show ∀ b,(Value.slice ksp n ksc).ownBlock=some b->A+2<=b/\b < Q from fun b hb=>⟨by have h1:=(HP.out.own.lt b hb).1;have h2:=HB.out.2.2.2.1;omega,by have h1:=(HP.out.own.lt b hb).2;omega⟩));rw [hQ];have HDS:=hid (aI HP.out.desc H3.out.2);clear hQ H3 HU
  go_loopw [4] (fun c w'=>∃ (k:Nat) (la':List Lay),2*k<=n+1/\c = .int .i64 (2*(k:Int))/\Hid (WRow (A+1) W3 W2.heap.size v (.slice ksp n ksc) k la' w')) (fun c _=>n+1 - (RowKit.intOf c).toNat)
  case atStart=>exact ⟨0,la,by omega,rfl,HI⟩
  case round =>
    obtain ⟨k,la',hk,rfl,HR⟩:=hrel;clear HI;have bb:=HC.out.1.kept HR.out.kept (fun e=>by have:=(HQ.out.2 A e).1;omega);have cc:=HQ.out.1.kept HR.out.kept (fun e=>by have:=(HQ.out.2 Q e).2;omega);have rr:=HC.out.2.kept HR.out.kept (fun e=>by have:=(HQ.out.2 (A+1) e).1;omega);have HBB:=hid (aI bb (aI cc rr));have b3:=bb.cell 3;have d3:=cc.cell 3;simp only [gt,gz,gs] at b3 d3;clear bb cc rr
    by_cases hkn:2*k < n
    . have hkn':2*(k:Int) < (n:Int):=by omega
      have hk0:(0:Int)<=2*(k:Int):=by omega
      have e1:IntKind.i64.wrap (2*(k:Int)+2)=2*(k:Int)+2:=IntWalk.i64_in _ (by omega);have t1:(2*(k:Int)).toNat=2*k:=by omega
      obtain ⟨x,hx⟩:∃ u,v.kids[2*k]? = some u:=⟨v.kids[2*k]'(by rw [HL.out];exact hkn),ge _⟩
      have hkr:Kept (fun b=>(Value.slice ksp n ksc).ownBlock=some b) w wr:=HKW.out.nope.trans' HR.out.kept;obtain ⟨b2,off2,cap2,pk,ck,pd,cd,q2,hvx,y0,y1,y2,y3,y4,y5⟩:=(((HV.out.1.mono (S':=fun b=>b < w.heap.size) fun b hb _=>hb).keep hkr (fun b _ hb e=>by have h1:=(HQ.out.2 b e).1;have h2:=HB.out.2.2.2.2;omega))).sixS hx;injection q2 with q2 qq q2'
      clear qq;subst q2 q2';obtain ⟨g,cur,hg,hbg,hB,hcs⟩:=HR.out.row (by rw [HL.out];omega);rw [HL.out] at hcs;obtain ⟨o0,x0⟩:=hB.some_ (j:=2*k*6) (by omega);obtain ⟨o1,x1⟩:=hB.some_ (j:=2*k*6+1) (by omega);obtain ⟨o2,x2⟩:=hB.some_ (j:=2*k*6+2) (by omega);obtain ⟨o3,x3⟩:=hB.some_ (j:=2*k*6+3) (by omega);obtain ⟨o4,x4⟩:=hB.some_ (j:=2*k*6+4) (by omega);obtain ⟨o5,x5⟩:=hB.some_ (j:=2*k*6+5) (by omega);subst hg;have z0:=hB.frozen (2*k*6);have z1:=hB.frozen (2*k*6+1);have z2:=hB.frozen (2*k*6+2);have z3:=hB.frozen (2*k*6+3);have z4:=hB.frozen (2*k*6+4);have z5:=hB.frozen (2*k*6+5);have HX:=hid (aI hx (aI hvx hbg));clear hx hvx hkr hB hcs;go_wp2_with fail;refine wp_region_tail 9 (by kernel_rfl) (by kernel_rfl) (fun K hK => ?_);simp only [List.take_succ_cons,List.take_zero,List.drop_succ_cons,List.drop_zero] at hK ⊢
      repeat still_step
      refine wpStill_nil (hK _ ?_);clear hK K;go_wp2_with fail
      have hok:(Lay.mk x (.slice pk x.kids.length ck) (.slice pd x.desc.length cd)).Ok (fun b=>b≠g/\b≠A+1) wr:=(Lay.ofV HX.out.2.1).mono fun b _ hb=>by
        have h1:b < w.heap.size:=hb;have h2:=HX.out.2.2;have h3:=HB.out.2.2.2;exact ⟨by omega,by omega⟩
      have hst:=(HR.out.step (by rw [HR.out.len,HL.out]) HX.out.1 hok).drew;exact ⟨⟨k+1,_,by omega,by go_num,hid hst⟩,by simp [RowKit.intOf];omega⟩
    . have hlt:¬ 2*(k:Int) < (n:Int):=by omega
      have cc:=HBB.out.2.1;have rr:=HBB.out.2.2;unfold zVal at rr;have d0:=cc.cell 0;have d1:=cc.cell 1;have d2:=cc.cell 2;have d4:=cc.cell 4;have d5:=cc.cell 5;have r0:=rr.cell 0;have r1:=rr.cell 1;have r2:=rr.cell 2;have r3:=rr.cell 3;have r4:=rr.cell 4;have r5:=rr.cell 5;have g0:=rr.frozen 0;have g1:=rr.frozen 1;have g2:=rr.frozen 2;have g3:=rr.frozen 3;have g4:=rr.frozen 4;have g5:=rr.frozen 5;simp only [gt,gz,gs] at d0 d1 d2 d4 d5 r0 r1 r2 r3 r4 r5;have HRR:=hid rr;clear cc rr;go_wp2;have hB2:=(((((HRR.out.set_ 0 (.int .i64 (asRead v).kind)).set_ 1 (.int .u64 (asRead v).num)).set_ 2 (.string (asRead v).text)).set_ 3 (.slice ksp n ksc)).set_ 4 (.int .i64 (asRead v).of_)).set_ 5 (.slice dsp v.desc.length dsc);have hks:Kept (Only (A+1)) wr ((((((wr.setCell ⟨A+1,0,none⟩ (.int .i64 (asRead v).kind)).setCell ⟨A+1,1,none⟩ (.int .u64 (asRead v).num)).setCell ⟨A+1,2,none⟩ (.string (asRead v).text)).setCell ⟨A+1,3,none⟩ (.slice ksp n ksc)).setCell ⟨A+1,4,none⟩ (.int .i64 (asRead v).of_)).setCell ⟨A+1,5,none⟩ (.slice dsp v.desc.length dsc)):=((((((kR _ _).set1 0 _).set1 1 _).set1 2 _).set1 3 _).set1 4 _).set1 5 _
      have hvs:VSl (fun b=>b≠A+1) wr (.slice ksp n ksc) (mix v.kids v.kids.length):=by
        have h1:=VSl.ofOwn (S:=fun b=>b≠A+1) HR.out.own (fun b hb=>by have:=(HQ.out.2 b hb).1;omega) fun a ha=>(HR.out.ok a ha).mono fun b _ hb=>hb.2
        rwa [HR.out.kids,mix_all (by rw [HL.out];omega)] at h1
      have hds:VSl (fun b=>b≠A+1) wr (.slice dsp v.desc.length dsc) v.desc:=by
        have hka:=(kR Nope w1).alloc (.cells #[.int .i64 0,.int .u64 0,.string ⟨#[]⟩,.slice none 0 0,.int .i64 0,.slice none 0 0] 25);have h1:=((HDS.out.1.keep hka (fun _ _ _ h=>h)).keep HDS.out.2 (fun b _ hb e=>by have h1:b < A:=hb;have e':b=w1.heap.size:=e;have:=HP.out.kept.size;have:=HB.out.2.2.2.1;omega)).keep HR.out.kept (fun b _ hb e=>by have h1:b < A:=hb;have:=(HQ.out.2 b e).1;omega);exact h1.mono fun b _ hb=>by have h1:b < A:=hb;show b≠A+1;omega
      refine bodyPost_ret (v:=.agg #[.int .i64 (asRead v).kind,.int .u64 (asRead v).num,.string (asRead v).text,.slice ksp n ksc,.int .i64 (asRead v).of_,.slice dsp v.desc.length dsc]) (results_cell_row (P:=prog) rfl _ _ (A+1) 25 _ _ _ rfl hB2 underlying25 rfl (by kernel_rfl)) rfl ⟨_,rfl,⟨.slice ksp n ksc,.slice dsp v.desc.length dsc,?_,?_,(hvs.keep hks fun b _ hb e=>hb e).mono fun _ _ _=>trivial,(hds.keep hks fun b _ hb e=>hb e).mono fun _ _ _=>trivial⟩,?_⟩
      . unfold vagg xcJ
        rw [xbj]
        rfl
      . have h1:=xhK HV.out.2.2.1
        exact ⟨h1.kind,HV.out.2.2.1.num,HV.out.2.2.1.text,HV.out.2.2.1.of_⟩
      . exact (HKW.out.trans HR.out.kept fun b hb e=>by have:=(HQ.out.2 b e).1;have:=HB.out.2.2.2.2;omega).trans hks fun b hb e=>by have e':b=A+1:=e;have:=HB.out.2.2.2.2;omega
theorem xgX {v:V} (h22:v.kind=22):(asRead v).kind=22:=by rw [xaw,if_neg (by omega)];exact h22
theorem xjd {v:V} (h22:v.kind=22):(asRead v).kids=v.kids.map asRead:=by rw [xbi,if_neg (by omega)]
theorem xqa {v:V} (hg:Good v) (h22:v.kind=22):v.kids.length % 2=0:=by cases hg with | mk _ _ _ hm _=>exact (hm h22).1
theorem xiW {v:V} (hg:Good v) (hu:Utf (asRead v)) (h22:v.kind=22) {w:World} {b:Nat} {es:List (Value × Value)} (hm:MapAt w b es) (hl:es.length=v.kids.length / 2)
  (hk:∀ (i:Nat) (e:Value × Value) (u:V),es[i]? = some e->(v.kids.map asRead)[2*i]? = some u->AnyV Any_ w e.1 u) (hx:∀ (i:Nat) (e:Value × Value) (u:V),es[i]? = some e->(v.kids.map asRead)[2*i+1]? = some u->AnyV Any_ w e.2 u) (hT:Tabs w) :
  Calls prog 42 #[.map (some b)] w (xac (xmn w 22 (asRead v))):=by
 have hkids:=xjd h22;have hK:=hg.keysOk h22;have hev:=xqa hg h22;have hko:∀ (i:Nat) (k:V),(asRead v).kids[2*i]? = some k->xbn k.kind:=fun i k h=>(hK.ok i k (by rw [<- hkids];exact h)).1
 have hn:(asRead v).kids.length=v.kids.length:=by rw [hkids,lM]
 refine xof (asRead v) w b es (fun i=>i) (fun i=>i) (xgX h22) (by rw [xbu];exact hg.desc) hm (by rw [hn];omega) (fun _ h=>h) (fun _ h=>⟨h,rfl⟩) (fun i e k h1 h2=>hk i e k h1 (by rw [<- hkids];exact h2)) (fun i e k h1 h2=>hx i e k h1 (by rw [<- hkids];exact h2)) (fun i e h1 => ?_) hko (by rw [hn];exact hg.tidy.few) hT (by rw [hkids];exact xjR hg hu (by omega));have hil:=(gi.1 h1).1;have h2:(asRead v).kids[2*i]? = some ((asRead v).kids[2*i]'(by omega)):=ge _;obtain ⟨u,h3,h4⟩:=xbW (by omega) h2;rw [(hk i e _ h1 (by rw [<- hkids];exact h2)).key (hko _ _ h2),h4];have hgu:=hg.kid (gm h3);refine xpP (by rw [<- h4];exact hko _ _ h2) hgu.tidy.asRead fun h19 => ?_
 have hu2:Utf (asRead u):=by cases hu with | mk _ h=>exact h _ (by rw [<- h4];exact gm h2)
 cases hu2 with
 | mk h5 _=>exact h5 h19
def xeo (K:Int) (v:V):Prop:=∀ (i:Nat) (k:V),v.kids[2*i]? = some k->k.kind=K
theorem xhv {k:V} (hg:Good k) (h19:k.kind=19):asRead k=k:=by
 have h:=k.eta;have hl:=hg.tidy.leaf (by omega);rw [xbj,if_neg (by omega),if_neg (by omega),hl,List.map_nil];rw [hl] at h;exact h.symm
theorem own_eq {v:V} (hg:Good v) (h22:v.kind=22) (hK:xeo 19 v):xcJ v=asRead v:=by
 have h:mix v.kids v.kids.length=v.kids.map asRead:=by
  apply List.ext_getElem?;intro i;unfold mix;rw [List.getElem?_mapIdx,gM]
  cases hi:v.kids[i]? with
  | none=>rfl
  | some y =>
   simp only [Option.map_some]
   split
   ·next h1 =>
    have h2:v.kids[2*(i / 2)]? = some y:=by rw [show 2*(i / 2)=i by omega];exact hi
    rw [xhv (hg.kid (gm hi)) (hK _ y h2)]
   ·rfl
 unfold xcJ;rw [h,xbj v,if_neg (show ¬ v.kind=23 by omega)]
 rfl
theorem xgt (v:V) (w:World) (xa s:Value) (ks:List Int) (ha:VAgg Any_ w xa v) (hf:v.kids.length<=1000) (hs:CSl Any_ w 1 s ks.length (ks.map fun k => .int .i64 k)) :
  Calls prog 22 #[xa,s] w (AskT (v.kind=22/\∀ (i:Nat) (x:V),v.kids[2*i]? = some x->x.kind ∈ ks) w):=by
 obtain ⟨ka,da,rfl,hna,hka,hda⟩:=ha;have HKA:=hid hka;have HS:=hid hs;obtain ⟨p1,c1,rfl,q1,m1⟩:=hka.form;clear hna hka hda q1 m1 hs;unfold vagg;obtain ⟨n,hn⟩:∃ m,v.kids.length=m:=⟨_,rfl⟩
 rw [hn] at hf ⊢;have HL:=hid hn;clear hn;obtain ⟨kd,hkd⟩:∃ m,v.kind=m:=⟨_,rfl⟩
 rw [hkd];have HD:=hid hkd;clear hkd;go_enter func22,ntmps22;go_wp2;have HT:=Blk.one w #[Value.int .i64 kd,.int .u64 v.num,.string v.text,.slice p1 n c1,.int .i64 v.of_,da] 25;generalize w.alloc (.cells #[Value.int .i64 kd,.int .u64 v.num,.string v.text,.slice p1 n c1,.int .i64 v.of_,da] 25)=W2 at HT ⊢;generalize w.heap.size=A at HT ⊢;have HW:=hid HT;clear HT
 go_loopw [5] (fun c w'=>∃ k:Nat,2*k<=n+1/\c = .int .i64 (2*(k:Int))/\Hid (Kept Nope W2 w'/\∀ (i:Nat) (x:V),i < k->v.kids[2*i]? = some x->x.kind ∈ ks)) (fun c _=>n+1 - (RowKit.intOf c).toNat)
 case atStart=>exact ⟨0,by omega,rfl,hid ⟨kR _ _,fun i x hi=>by omega⟩⟩
 case round =>
  obtain ⟨k,hk,rfl,HR⟩:=hrel;have bb:=HW.out.1.kept HR.out.1 (fun h=>h);have b0:=bb.cell 0;have b3:=bb.cell 3;simp only [gt,gz,gs] at b0 b3;clear bb;have HKW:=hid (HW.out.2.trans' HR.out.1)
  by_cases hkn:2*k < n
  ·have hkn':2*(k:Int) < (n:Int):=by omega
   have hk0:(0:Int)<=2*(k:Int):=by omega
   have e1:IntKind.i64.wrap (2*(k:Int)+2)=2*(k:Int)+2:=IntWalk.i64_in _ (by omega);have t1:(2*(k:Int)).toNat=2*k:=by omega
   obtain ⟨x,hx⟩:∃ u,v.kids[2*k]? = some u:=⟨v.kids[2*k]'(by rw [HL.out];exact hkn),ge _⟩
   obtain ⟨b2,off2,cap2,pk,ck,pd,cd,q2,hvx,y0,y1,y2,y3,y4,y5⟩:=(HKA.out.keep HKW.out (fun _ _ _ h=>h)).sixS hx;injection q2 with q2 _ q2'
   subst q2 q2';have HX:=hid hx;clear hx hvx;go_wp2_with (go_at_call 44;go_must (refine (in_ok _ _ ks _ (HS.out.keep HKW.out (fun _ _ _ h=>h))).mono ?_;rintro e w1 ⟨⟨rfl,hb⟩ | rfl,hk1⟩;all_goals have H1:=hid hk1;all_goals clear hk1))
   ·have HBB:=hid hb;clear hb;go_roundw
    case rel =>
     refine ⟨k+1,by omega,by go_num,hid ⟨HR.out.1.trans' H1.out,fun i x' hi hx' => ?_⟩⟩
     rcases Nat.lt_or_ge i k with hlt | hge
     ·exact HR.out.2 i x' hlt hx'
     ·obtain rfl:i=k:=by omega
      have h1:=HX.out;rw [hx'] at h1;cases h1;exact HBB.out
    case measure=>simp [RowKit.intOf];omega
   ·go_ret;exact ⟨.inr rfl,HKW.out.trans' H1.out⟩
  ·have hlt:¬ 2*(k:Int) < (n:Int):=by omega
   by_cases h22:kd=22
   ·subst h22;go_wp2;go_ret;exact ⟨.inl ⟨rfl,fun i x hx=>HR.out.2 i x (by have:=(gi.1 hx).1;have:=HL.out;omega) hx⟩,HKW.out⟩
   ·have h22':(kd == 22)=false:=by simpa using h22
    go_wp2;go_ret;exact ⟨.inr rfl,HKW.out⟩
theorem xaL {W W':World} {P:Nat} {a0 a1 a2 a3 a4 a5:Value} (h0:Blk W P 25 #[a0,a1,a2,a3,a4,a5]) (hk:Kept Nope W W') :
  W'.cell? ⟨P,0,none⟩=some a0/\W'.cell? ⟨P,1,none⟩=some a1/\W'.cell? ⟨P,2,none⟩=some a2/\W'.cell? ⟨P,3,none⟩=some a3/\W'.cell? ⟨P,4,none⟩=some a4/\W'.cell? ⟨P,5,none⟩=some a5:=by
 have g0:=h0.kept hk (fun h=>h);exact ⟨g0.cell 0,g0.cell 1,g0.cell 2,g0.cell 3,g0.cell 4,g0.cell 5⟩
theorem xfV (w:World) (T:TypeId) (ks:List Int) (hl:ks.length<=1000):CSl Any_ (w.alloc (.cells (ks.map fun k=>Value.int .i64 k).toArray T)) 1 (.slice (some ⟨w.heap.size,0,none⟩) ks.length ks.length) ks.length (ks.map fun k=>Value.int .i64 k) :=
 ⟨by simp,_,ks.length,rfl,Nat.le_refl _,by unfold maxLen;omega,.inr ⟨w.heap.size,0,rfl,trivial,fun j u hu=>by
  rw [(Blk.new w T _).cell,Nat.zero_add,gt];exact hu⟩⟩
def kA (K:Int):V:=.mk K 0 ⟨#[97]⟩ [] 0 []
def xdO (K:Int):V:=.mk 22 0 ⟨#[]⟩ [kA K,xdf] 0 []
theorem good_kA {K:Int} (hK:K=19\/K=20):Good (kA K):=by
 refine .mk ⟨by simp only [kA,V.num_mk];omega,fun h => ?_,?_,?_,?_,?_,?_,?_,fun _=>rfl,fun h => ?_,fun h => ?_,by show ByteArray.size ⟨#[97]⟩<=131072;decide,Nat.zero_le _,fun _=>rfl,?_⟩ rfl (fun _ h=>by cases h) (fun h => ?_) (fun h => ?_)
 all_goals simp only [kA,V.kind_mk] at *
 all_goals (first | omega | (intro h;omega))
theorem xga {K:Int} (hK:K=19\/K=20):Good (xdO K):=by
 have h0:∀ (i:Nat) (k:V),[kA K,xdf][2*i]? = some k->i=0/\k=kA K:=fun i k h=>by
  match i,h with
  | 0,h=>exact ⟨rfl,(Option.some.inj h).symm⟩
  | i+1,h =>
   have:=(gi.1 h).1;simp only [lC,List.length_nil] at this;omega
 refine .mk ⟨by simp only [xdO,V.num_mk];omega,fun h => ?_,?_,?_,?_,?_,?_,?_,fun _=>rfl,fun _=>rfl,?_,by show ByteArray.size ⟨#[]⟩<=131072;decide,by show 2<=1000;decide,fun h => ?_,.inr (by show (16:Int)<=22/\(22:Int)<=23;decide)⟩ rfl (fun k h => ?_) (fun _=>⟨(rfl:2 % 2=0),fun i k h => ?_,fun i j k k' hij _ h => ?_⟩) (fun h => ?_)
 all_goals (try simp only [xdO,V.kind_mk] at *)
 ·omega
 ·intro h;omega
 ·intro h;omega
 ·intro h;omega
 ·intro h;omega
 ·intro h;omega
 ·intro h;omega
 ·intro h;omega
 ·omega
 ·rcases List.mem_cons.1 h with rfl | h
  ·exact good_kA hK
  ·rw [List.mem_singleton.1 h];exact xhY
 ·rw [(h0 i k h).2];unfold xce;simp only [kA,V.kind_mk];omega
 ·have:=(h0 j k' h).1;omega
 ·omega
theorem xpT (K:Int):(xdO K).kids.map asRead=[asRead (kA K),asRead xdf]:=rfl
theorem xhF (K:Int):Utf (asRead (xdO K)):=by
 refine .mk (fun h => ?_) (fun k h => ?_)
 ·rw [xgX (v:=xdO K) rfl] at h;exact absurd h (by decide)
 ·rw [xjd (v:=xdO K) rfl,xpT] at h
  rcases List.mem_cons.1 h with rfl | h
  ·rw [xbj];refine .mk (fun _ => ?_) (fun k h => ?_)
   ·simp only [V.text_mk,kA];exact xfu _ (by decide)
   ·simp only [V.kids_mk,kA,V.kind_mk,List.map_nil,ite_self] at h;cases h
  ·rw [List.mem_singleton.1 h];exact utf_true
theorem xoo:EncL [xdf] [65]:=EncL.cons (v:=xdf) (p:=[65]) (q:=[]) (.plain (c:=65) (p:=[]) rfl (Form.flag (v:=xdf) rfl)) .nil
theorem xid:Enc (xdO 20) [193,5,2,163,1,97,65] :=
 .plain (c:=193) (p:=[5,2,163,1,97,65]) rfl (Form.kids1 (v:=xdO 20) (d:=[163,1,97,65]) (.inr rfl) (EncL.cons (v:=kA 20) (p:=[163,1,97]) (q:=[65]) (.plain (c:=163) (p:=[1,97]) rfl (Form.text1 (v:=kA 20) (.inr (.inr rfl)) (by decide))) xoo) (by decide) (by decide))
theorem first_text {u a b:V} {l':List V} (h:xao u (.mk 22 0 ByteArray.empty l' 0 [])) (h22:u.kind=22) (hk:u.kids=[a,b]):∃ x y,l'=[x,y]/\x.text=a.text:=by
 cases h with
 | leaf _ h=>exact absurd h22 h
 | list h=>omega
 | map j k x _ _ hn _ _ h1 _ =>
  rw [hk] at hn;simp only [V.kids_mk,lC,List.length_nil] at hn
  match l',hn,h1 with
  | [x0,y0],_,h1 =>
   obtain ⟨h2,_,h3⟩:=h1 0 a (by rw [hk];rfl) (by rw [hk];simp);simp only [V.kids_mk] at h2;have hlt:=(gi.1 h2).1;simp only [lC,List.length_nil] at hlt;rw [show 2*j 0=0 by omega] at h2;have h4:x0=k 0:=Option.some.inj h2;refine ⟨x0,y0,rfl,?_⟩;rw [h4]
   cases h3 with | mk _ _ ht _ _ _ _=>exact ht.symm
theorem xfU {w w':World} {e:Ending} {u a b:V} (h:xdA w 22 u [] e w') (h22:u.kind=22) (hk:u.kids=[a,b]) (ha:a.text=⟨#[97]⟩) :
  ∃ b off c rx,e = .returned (.tuple #[.slice (some ⟨b,off,none⟩) 2 c,rx,.bool true])/\2<=c/\w'.cell? ⟨b,off+2,none⟩=some (.string ⟨#[97]⟩)/\Kept Nope w w':=by
 obtain ⟨lx,rx,rfl,hkk,⟨l',hl,hlo⟩,_⟩:=h;obtain ⟨x,y,rfl,ht⟩:=first_text hlo h22 hk
 cases hl with
 | mk b off cap _ ks ds _ _ hc _ hcell _ _ =>
  have h2:=(hcell 0 x rfl).2.2.2.1;rw [ht,ha,Nat.zero_mul,Nat.add_zero] at h2;exact ⟨b,off,cap,rx,rfl,hc,h2,hkk⟩
theorem xpi (w:World) (s:Value) (D bh:List UInt8) (n:Nat) (K:Int) (u:V) (hs:BSl Any_ w s D) (hlen:D.length < 4294967296) (hdrop:D.drop n=bh) (hT:Tabs w) (he:Eof w)
  (hU:∀ (W0 W:World) (r p:Nat) (y:Value),Buf W0 r y D 0->At_ W0 W r y D 0->W0.heap.size<=p->Blk W p 79 #[.map none]->Calls prog 47 #[.pointer (some ⟨p,0,none⟩),.pointer (some ⟨r,0,none⟩)] W (Gives fun e w'=>e = .nilIface/\At_ W0 w' r y D n/\∃ b,Blk w' p 79 #[.map (some b)]/\(Tabs w'->Calls prog 42 #[.map (some b)] w' (xac (xmn w' K u))))) :
  Calls prog 24 #[s] w (xdA w K u bh):=by
 have HW:=hid (aI hs (aI hT he));have HR:=hid (aI hlen hdrop);have HU:=hid hU;clear hlen hdrop hT he hU;obtain ⟨sa,sc,rfl,_⟩:=hs
 go_enter_defers func24,ntmps24
 go_wp2_with fail;obtain ⟨P,hP⟩:∃ P,w.heap.size=P:=⟨_,rfl⟩
 obtain ⟨W3,hW3⟩:∃ W3,((w.alloc (.cells #[.slice none 0 0] 23)).alloc (.cells #[.slice none 0 0] 26)).alloc (.cells #[.bool false] 4)=W3:=⟨_,rfl⟩
 have hB:=xco w P hP W3 hW3;rw [hW3,hP];have HB:=hid hB;clear hB hW3 hP
 go_wp2_with (first
  | (go_at_call 42;go_must (refine (H3.out.2.2.2 (HW.out.2.1.nope H3.out.2.1)).mono ?_;rintro e w4 ⟨y4,b4,rfl,rfl,hk4,l',hv4,hlo4⟩;obtain ⟨py,cy,rfl,_⟩:=hv4.form;have hq4:=H3.out.2.2.1.keep hk4;have H4:=hid (aI hk4 (aI hv4 (aI hlo4 hq4)));have c40:=hq4.b0.cell 0;have c41:=hq4.b1.cell 0;have c42:=hq4.b2.cell 0;have f40:=hq4.b0.frozen 0;have f41:=hq4.b1.frozen 0;have f42:=hq4.b2.frozen 0;simp only [gt,gz] at c40 c41 c42;clear hk4 hlo4 hq4 hv4))
  | (go_at_call 47;go_must (refine (HU.out w2 _ w1.heap.size w2.heap.size _ H2.out.1 ((At_.refl H2.out.1).nope ((kR Nope w2).alloc _)) (Nat.le_refl _) (Blk.new w2 _ _)).mono ?_;rintro e w3 ⟨_,rfl,rfl,hA3,b,hb3,hv3⟩;have c30:=hb3.cell 0;simp only [gt,gz] at c30;have hq3:=(HB.out.2.2.1.keep (H1.out.2.trans' H2.out.2)).keepO hA3.kept (by have h1:=H1.out.2.size;have h2:=HB.out.2.1;omega);have hkw3:Kept Nope w w3:=(HB.out.1.trans' (H1.out.2.trans' H2.out.2)).trans hA3.kept (fun k hk e=>by have e':k=w1.heap.size:=e;have h2:=(HB.out.1.trans' H1.out.2).size;omega);have H3:=hid (aI hA3 (aI hkw3 (aI hq3 hv3)));clear hA3 hb3 hv3 hq3 hkw3))
  | (go_at_call 30;go_must (refine (xes _ _ _ _).mono ?_;rintro e w2 ⟨rfl,hw2⟩;have H2:=hid (aI (hw2.symm ▸ Buf.fresh (w:=W3) (HW.out.2.2.nope HB.out.1) H1.out.2 H1.out.1 (by have:=HR.out.1;omega)) (hw2.symm ▸ (kR Nope w1).alloc (.cells #[.slice ya D.length yc,.int .i64 0] 92):Kept Nope w1 w2));clear hw2))
  | (go_at_call 31;go_must (refine (xbh Any_ _ _ D (HW.out.1.keep HB.out.1 (fun _ _ _ h=>h)) (by have:=HR.out.1;omega)).mono ?_;rintro e w1 ⟨y1,rfl,hy1,hk1⟩;have hf1:=hy1;obtain ⟨ya,yc,rfl,_⟩:=hf1;have H1:=hid (aI hy1 hk1);clear hy1 hk1)))
 clear c40 c41 c42 f40 f41 f42;obtain ⟨W5,hW5⟩:∃ W5,(w4.setCell ⟨P,0,none⟩ (.slice py l'.length cy)).setCell ⟨P+1+1,0,none⟩ (.bool true)=W5:=⟨_,rfl⟩
 have hq5:Three W5 P (.slice py l'.length cy) (.slice none 0 0) (.bool true):=hW5 ▸ H4.out.2.2.2.store02 _ _;have hk5:Kept (xcw P) w4 W5:=hW5 ▸ xcR w4 P _ _
 (try rw [hW5])
 have hs1:=H1.out.2.size;have hs2:=H2.out.2.size;have hs3:=H3.out.1.kept.size;have hPs:=HB.out.2.1;have hBu:Buf W5 w1.heap.size (.slice ya D.length yc) D n:=(H3.out.1.buf.nope H4.out.1).keepQ hk5 (fun e=>by have e':P<=w1.heap.size/\w1.heap.size < P+3:=e;omega) (((((H1.out.1.mono (S':=fun b=>W3.heap.size<=b/\b < w1.heap.size) fun b hb hS=>⟨hS,hb⟩).keep H2.out.2 (fun _ _ _ h=>h)).keep H3.out.1.kept (fun b _ hb e=>by have e':b=w1.heap.size:=e;omega)).keep H4.out.1 (fun _ _ _ h=>h)).mono fun b _ hb=>⟨by omega,fun e=>by have e':P<=b/\b < P+3:=e;omega⟩) (fun e=>by have e':P<=0/\0 < P+3:=e;have:=HW.out.2.2.lt;have:=HB.out.2.2.2;omega);have hkw5:Kept Nope w W5:=(H3.out.2.1.trans' H4.out.1).trans hk5 (fun k hk e=>by have e':P<=k/\k < P+3:=e;have:=HB.out.2.2.2;omega);have hv5:=H4.out.2.1.keep hk5 (fun b _ hb e=>by have e':P<=b/\b < P+3:=e;have hb':w3.heap.size<=b:=hb;omega);have hz5:P+3<=W5.heap.size:=by have:=hk5.size;have:=H4.out.1.size;omega
 have H5:=hid (aI hq5 (aI hBu (aI hkw5 (aI hv5 hz5))));have HS:=hid (aI hs1 (aI hs2 (aI hs3 hPs)));clear hq5 hk5 hs1 hs2 hs3 hPs hBu hkw5 hv5 hW5 hz5
 go_region_held3 (fun w'=>w'.cell? ⟨P,0,none⟩=some (.slice py l'.length cy)) (first | with_reducible exact H5.out.1.drew.cell0 | with_reducible exact (H5.out.1.drew.drewN k8).cell0 | with_reducible exact (H5.out.1.drewN (1+k8)).cell0 | with_reducible exact H9.out.2.2.1.cell0 | with_reducible exact HA.out.1.cell0 | with_reducible exact (HA.out.2.1 _).cell0 | with_reducible exact (HA.out.2.2.1 _).cell0 | fail) (first
  | (go_at_call 31;go_must (refine (xbh Any_ _ _ bh H8.out.2 H8.out.1).mono ?_;rintro e w9 ⟨y9,rfl,hy9,hk9⟩;have hf9:=hy9;obtain ⟨y9p,y9c,rfl,_⟩:=hf9;have hKK:Kept Nope W5 w9:=((kR Nope W5).drewN (1+k8)).trans' hk9;have g:=H5.out.1.keep hKK;have c90:=g.b0.cell 0;have f90:=g.b0.frozen 0;have c91:=g.b1.cell 0;have f91:=g.b1.frozen 0;have c92:=g.b2.cell 0;have f92:=g.b2.frozen 0;simp only [gt,gz] at c90 c91 c92;have HA:=hid (aI (g.set0 (.slice py l'.length cy)) (aI (fun y=>(g.set0 (.slice py l'.length cy)).set1 y) (aI (fun y=>((g.set0 (.slice py l'.length cy)).set1 y).set2 (.bool true)) True.intro)));have H9:=hid (aI hy9 (aI hKK (aI g True.intro)));clear hy9 hk9 hKK g))
  | (go_at_call 34;(refine (xbJ w1.heap.size _ D n _ (H5.out.2.1.nope ((kR Nope W5).drew))).mono ?_;rintro e w8 ⟨x8,rfl,hb8,k8,rfl⟩;rw [HR.out.2] at hb8;have hf8:=hb8;obtain ⟨x8p,x8c,rfl,_⟩:=hf8;have H8:=hid (aI (show bh.length<=1099511627776 by have h1:=HR.out.2;have h2:=HR.out.1;rw [<- h1,List.length_drop];omega) ((hb8.mono (S':=Any_) fun _ _ _=>trivial).keep (show Kept Nope W5.drew (W5.drewN (1+k8)) from ⟨rfl,rfl,rfl,Nat.le_refl _,fun _ _ _=>rfl⟩) (fun _ _ _ h=>h)));clear hb8)))
 have hqz:=HA.out.2.2.1 (.slice y9p bh.length y9c);have hkz:=xbr w9 P (.slice py l'.length cy) (.slice y9p bh.length y9c) (.bool true);have hsw:=HB.out.2.2.2;have hsP:=HB.out.2.1;have h31:=HS.out.1;have h32:=HS.out.2.1;have h33:=HS.out.2.2.1;have h34:=H4.out.1.size;have h35:=H5.out.2.2.1.size;have kz:=(H5.out.2.2.1.trans' H9.out.2.1).trans hkz (fun k hk e=>by have e':P<=k/\k < P+3:=e;omega);have vz:=((H5.out.2.2.2.1.keep H9.out.2.1 (fun _ _ _ h=>h)).keep hkz (fun b _ hb e=>by have e':P<=b/\b < P+3:=e;have hb':w3.heap.size<=b:=hb;omega)).mono (S':=xaf w) fun b _ hb=>by have hb':w3.heap.size<=b:=hb;show w.heap.size<=b;omega
 have yz:=(H9.out.1.keep hkz (fun b _ hb e=>by have e':P<=b/\b < P+3:=e;have hb':(W5.drewN (1+k8)).heap.size<=b:=hb;have h36:W5.heap.size<=b:=hb';have:=H5.out.2.2.2.2;omega)).mono (S':=xaf w) fun b _ hb=>by have h36:W5.heap.size<=b:=hb;have:=H5.out.2.2.2.2;show w.heap.size<=b;omega
 go_wp2;refine leaves_cons (f:=40) (args:=#[.pointer (some ⟨P,0,none⟩),.pointer (some ⟨P+1,0,none⟩),.pointer (some ⟨P+1+1,0,none⟩)]) (by simp) (by simp [go_sem]) ?_;refine (xbq _ _ _ _).mono ?_;rintro e u' w'' ⟨rfl,rfl,rfl⟩;exact ret3 _ rfl _ _ _ P _ _ _ rfl rfl rfl hqz ⟨_,_,rfl,kz,⟨l',vz,H4.out.2.2.1⟩,yz⟩
theorem xpj (w:World) (s:Value) (D:List UInt8) (hs:BSl Any_ w s D) (hlen:D.length < 4294967296) (he:Eof w)
  (hU:∀ (W0 W:World) (r p:Nat) (y:Value),Buf W0 r y D 0->At_ W0 W r y D 0->Calls prog 47 #[.pointer (some ⟨p,0,none⟩),.pointer (some ⟨r,0,none⟩)] W (Gives fun e w'=>xbC e/\Kept (Only r) W w')) :
  Calls prog 24 #[s] w (xiN w):=by
 have HW:=hid (aI hs he);have HR:=hid hlen;have HU:=hid hU;clear hlen he hU;obtain ⟨sa,sc,rfl,_⟩:=hs
 go_enter_defers func24,ntmps24
 go_wp2_with fail;obtain ⟨P,hP⟩:∃ P,w.heap.size=P:=⟨_,rfl⟩
 obtain ⟨W3,hW3⟩:∃ W3,((w.alloc (.cells #[.slice none 0 0] 23)).alloc (.cells #[.slice none 0 0] 26)).alloc (.cells #[.bool false] 4)=W3:=⟨_,rfl⟩
 have hB:=xco w P hP W3 hW3;rw [hW3,hP];have HB:=hid hB;clear hB hW3 hP
 go_wp2_with (first
  | (go_at_call 47;go_must (refine (HU.out w2 _ w1.heap.size w2.heap.size _ H2.out.1 ((At_.refl H2.out.1).nope ((kR Nope w2).alloc _))).mono ?_;rintro e w3 ⟨_,rfl,⟨T3,z3,rfl⟩,hk3⟩;have hkA:=((kR Nope w2).alloc (.cells #[.map none] 79));have hq3:=(HB.out.2.2.1.keep ((H1.out.2.trans' H2.out.2).trans' hkA)).keepO hk3 (by have h1:=H1.out.2.size;have h2:=HB.out.2.1;omega);have hkw3:Kept Nope w w3:=(HB.out.1.trans' ((H1.out.2.trans' H2.out.2).trans' hkA)).trans hk3 (fun k hk e=>by have e':k=w1.heap.size:=e;have h2:=(HB.out.1.trans' H1.out.2).size;omega);have H3:=hid (aI hkw3 hq3);have c40:=hq3.b0.cell 0;have c41:=hq3.b1.cell 0;have c42:=hq3.b2.cell 0;have f40:=hq3.b0.frozen 0;have f41:=hq3.b1.frozen 0;have f42:=hq3.b2.frozen 0;simp only [gt,gz] at c40 c41 c42;clear hk3 hkA hq3 hkw3))
  | (go_at_call 30;go_must (refine (xes _ _ _ _).mono ?_;rintro e w2 ⟨rfl,hw2⟩;have H2:=hid (aI (hw2.symm ▸ Buf.fresh (w:=W3) (HW.out.2.nope HB.out.1) H1.out.2 H1.out.1 (by have:=HR.out;omega)) (hw2.symm ▸ (kR Nope w1).alloc (.cells #[.slice ya D.length yc,.int .i64 0] 92):Kept Nope w1 w2));clear hw2))
  | (go_at_call 31;go_must (refine (xbh Any_ _ _ D (HW.out.1.keep HB.out.1 (fun _ _ _ h=>h)) (by have:=HR.out;omega)).mono ?_;rintro e w1 ⟨y1,rfl,hy1,hk1⟩;have hf1:=hy1;obtain ⟨ya,yc,rfl,_⟩:=hf1;have H1:=hid (aI hy1 hk1);clear hy1 hk1)))
 have hk5:=xbr w3 P (.slice none 0 0) (.slice none 0 0) (.bool false);have hq5:=((H3.out.2.set0 (.slice none 0 0)).set1 (.slice none 0 0)).set2 (.bool false);have kz:Kept Nope w (((w3.setCell ⟨P,0,none⟩ (.slice none 0 0)).setCell ⟨P+1,0,none⟩ (.slice none 0 0)).setCell ⟨P+1+1,0,none⟩ (.bool false)):=H3.out.1.trans hk5 (fun k hk e=>by have e':P<=k/\k < P+3:=e;have:=HB.out.2.2.2;omega);go_wp2;refine leaves_cons (f:=40) (args:=#[.pointer (some ⟨P,0,none⟩),.pointer (some ⟨P+1,0,none⟩),.pointer (some ⟨P+1+1,0,none⟩)]) (by simp) (by simp [go_sem]) ?_;refine (xbq _ _ _ _).mono ?_;rintro e u' w'' ⟨rfl,rfl,rfl⟩;exact ret3 _ rfl _ _ _ P _ _ _ rfl rfl rfl hq5 ⟨rfl,kz⟩
theorem xgo {v:V} {bs bh D:List UInt8} (w:World) (s:Value) (hD:D=bs ++ bh) (hs:BSl Any_ w s D) (hg:Good v) (hu:Utf (asRead v)) (h22:v.kind=22) (hE:Enc v bs) (hlen:D.length < 4294967296) (hT:Tabs w) (he:Eof w) :
  Calls prog 24 #[s] w (xdA w 22 (asRead v) bh):=by
 subst hD;refine xpi w s (bs ++ bh) bh bs.length 22 (asRead v) hs hlen (by simp) hT he fun W0 W r p y hB hA hp hb => ?_
 refine (xlj r y (bs ++ bh) W0 W p 0 _ v bs hg h22 hlen hE (xoM bs bh) hB hA hp hb).mono ?_;rintro e w' ⟨_,rfl,rfl,hA',b,es,hx,_,hm,hl,hk,hv⟩;exact ⟨_,rfl,rfl,hA',b,hx,fun hT'=>xiW hg hu h22 hm hl (fun i e u h1 h2=>(hk i e u h1 h2).mono fun _ _=>trivial) (fun i e u h1 h2=>(hv i e u h1 h2).mono fun _ _=>trivial) hT'⟩
theorem xeL {v:V} {D:List UInt8} (w:World) (s:Value) (hs:BSl Any_ w s D) (hR:xbY 22 v D) (hlen:D.length < 4294967296) (he:Eof w):Calls prog 24 #[s] w (xiN w) :=
 xpj w s D hs hlen he fun W0 W r p y _ hA=>xgZ W0 W r y D 0 p hA fun W2 h2=>xdl r y D W2 hR h2
theorem xpg (w:World) (s:Value) (hs:BSl Any_ w s [193,5,2,163,1,97,65]) (hT:Tabs w) (he:Eof w):Calls prog 24 #[s] w fun e w'=>∃ b off c rx,e = .returned (.tuple #[.slice (some ⟨b,off,none⟩) 2 c,rx,.bool true])/\2<=c/\w'.cell? ⟨b,off+2,none⟩=some (.string ⟨#[97]⟩)/\Kept Nope w w' :=
 (xgo (v:=xdO 20) (bs:=[193,5,2,163,1,97,65]) (bh:=[]) w s rfl hs (xga (by decide)) (xhF _) rfl xid (by decide) hT he).mono fun _ _ h=>xfU (a:=asRead (kA 20)) (b:=asRead xdf) h (xgX rfl) (xjd (v:=xdO 20) rfl) (by rw [xaS];rfl)
theorem FnReadMap_ok (w:World) (x:Value) (v:V) (st cut:Int) (xb:Value) (bh:List UInt8) (h:xiq w x v st cut xb bh) (hT:Tabs w) (he:Eof w):Calls prog 6 #[x] w fun e w'=>e = .returned (.bool true)/\Kept Nope w w':=by
  obtain ⟨⟨a0,a1,a2,a3,a4,a5,rfl,hv⟩,hst,hcut,hb⟩:=h;have hv':=hv;obtain ⟨kv,dv,e,hnv,hkv,hdv⟩:=hv';obtain ⟨pkv,ckv,rfl,_⟩:=hkv.form;obtain ⟨pdv,cdv,rfl,_⟩:=hdv.form;unfold vagg at e;simp only [Value.agg.injEq,Array.mk.injEq,List.cons.injEq,and_true] at e;obtain ⟨rfl,rfl,rfl,rfl,rfl,rfl⟩:=e;have HD:=hid (aI hv (aI hb (aI hT (aI he (aI hst (aI hcut hnv))))));obtain ⟨bp,bc,rfl,_⟩:=hb;clear hv hkv hdv hnv hT he hst hcut;obtain ⟨nl,hnl⟩:∃ n,v.kids.length=n:=⟨_,rfl⟩
  obtain ⟨nd,hnd⟩:∃ n,v.desc.length=n:=⟨_,rfl⟩
  obtain ⟨nb,hnb⟩:∃ n,bh.length=n:=⟨_,rfl⟩
  rw [hnl,hnd,hnb] at HD ⊢;have HNN:=hid (aI hnl (aI hnd hnb));clear hnl hnd hnb;obtain ⟨kd,hkd⟩:∃ k,v.kind=k:=⟨_,rfl⟩
  rw [hkd] at HD ⊢;have HKD:=hid hkd;clear hkd;go_enter func6,ntmps6;go_wp2_with fail;obtain ⟨P,hP⟩:∃ P,w.heap.size=P:=⟨_,rfl⟩
  obtain ⟨W1,hW1⟩:∃ W1,w.alloc (.cells #[.int .i64 kd,.int .u64 v.num,.string v.text,.slice pkv nl ckv,.int .i64 v.of_,.slice pdv nd cdv,.int .u64 st,.slice bp nb bc,.int .i64 cut] 39)=W1:=⟨_,rfl⟩
  have hB0:Blk W1 P 39 #[.int .i64 kd,.int .u64 v.num,.string v.text,.slice pkv nl ckv,.int .i64 v.of_,.slice pdv nd cdv,.int .u64 st,.slice bp nb bc,.int .i64 cut]:=by rw [<- hW1,<- hP];exact Blk.new w 39 _
  have hK1:Kept Nope w W1:=by rw [<- hW1];exact (kR Nope w).alloc _
  rw [hW1]
  (try rw [hP])
  have HB:=hid (aI hB0 (aI hK1 hP));clear hB0 hK1 hW1 hP;refine (xdj _ _ _ _ _ _ _ _ _ _ _ _).mono ?_;rintro e w1 ⟨b1,rfl,hk1⟩;have K1:=hid (HB.out.2.1.trans' hk1);have J1:=hid hk1;clear hk1;obtain ⟨c0,c1,c2,c3,c4,c5,c6,c7,c8⟩:=nine HB.out.1 J1.out;cases b1
  case false =>
    go_wp2;go_ret;exact ⟨rfl,K1.out⟩
  go_wp2_with fail;refine (xpg _ _ (xeZ w1 _ [193,5,2,163,1,97,65] (by decide)) (HD.out.2.2.1.nope (K1.out.alloc _)) (HD.out.2.2.2.1.nope (K1.out.alloc _))).mono ?_;rintro e w2 ⟨tb,toff,tc,rx2,rfl,htc,t0,hk2⟩;have K2:=hid ((K1.out.alloc _).trans' hk2);have J2:=hid ((J1.out.alloc _).trans' hk2);clear hk2 c0 c1 c2 c3 c4 c5 c6 c7 c8;obtain ⟨c0,c1,c2,c3,c4,c5,c6,c7,c8⟩:=nine HB.out.1 J2.out;go_wp2_with fail;clear t0;refine (xgP _ v _ _ _ _ _ _ _ st cut bh (HD.out.1.keep K2.out (fun _ _ _ h=>h)) (by have:=HD.out.2.2.2.2.1;omega) HD.out.2.2.2.2.2.1 (HD.out.2.1.keep K2.out (fun _ _ _ h=>h)) (HD.out.2.2.1.nope K2.out)).mono ?_;intro e w3 h3;obtain ⟨hk3,⟨x3,y3,cc,rfl⟩ | ⟨x3,y3,cc,rfl,hg3⟩⟩:=h3.one
  . have K3:=hid (K2.out.trans' hk3)
    have J3:=hid (J2.out.trans' hk3);clear hk3 h3 c0 c1 c2 c3 c4 c5 c6 c7 c8;obtain ⟨c0,c1,c2,c3,c4,c5,c6,c7,c8⟩:=nine HB.out.1 J3.out;go_wp2;go_ret;exact ⟨rfl,K3.out.alloc _⟩
  have HG:=hid hg3;have K3:=hid (K2.out.trans' hk3);have J3:=hid (J2.out.trans' hk3);clear hk3 h3 hg3 c0 c1 c2 c3 c4 c5 c6 c7 c8;obtain ⟨c0,c1,c2,c3,c4,c5,c6,c7,c8⟩:=nine HB.out.1 J3.out;go_wp2_with fail;obtain ⟨Q,hQ⟩:∃ Q,w3.heap.size=Q:=⟨_,rfl⟩
  obtain ⟨W4,hW4⟩:∃ W4,w3.alloc (.cells #[.int .i64 kd,.int .u64 v.num,.string v.text,.slice pkv nl ckv,.int .i64 v.of_,.slice pdv nd cdv] 25)=W4:=⟨_,rfl⟩
  have KV:Hid (Kept Nope w W4):=hid (hW4 ▸ K3.out.alloc _);have LV:Hid (Kept Nope w3 W4):=hid (hW4 ▸ (kR Nope w3).alloc _);have HV:Hid (Blk W4 Q 25 #[.int .i64 kd,.int .u64 v.num,.string v.text,.slice pkv nl ckv,.int .i64 v.of_,.slice pdv nd cdv]):=hid (hW4 ▸ hQ ▸ Blk.new w3 25 _);rw [hW4]
  (try rw [hQ])
  clear hW4 hQ c0 c1 c2 c3 c4 c5 c6 c7 c8;obtain ⟨d0,d1,d2,d3,d4,d5⟩:=xaL HV.out (kR _ _);refine (xdk v _ _ (HD.out.1.keep KV.out (fun _ _ _ h=>h)) (HD.out.2.2.1.nope KV.out)).mono ?_;rintro e w4 ⟨⟨rfl,hsv⟩ | rfl,hk4⟩
  case inr =>
    have K4:=hid (KV.out.trans' hk4);clear hk4;go_wp2;go_ret;exact ⟨rfl,K4.out⟩
  have HSV:=hid hsv;have K4:=hid (KV.out.trans' hk4);have J4:=hid hk4;clear hk4 hsv d0 d1 d2 d3 d4 d5;obtain ⟨d0,d1,d2,d3,d4,d5⟩:=xaL HV.out J4.out;go_wp2_with fail;refine (xbN v _ _ (HD.out.1.keep K4.out (fun _ _ _ h=>h))).mono ?_;rintro e w5 ⟨rfl | ⟨rfl,hy5⟩,hk5⟩
  case inl =>
    have K5:=hid (K4.out.trans' hk5);clear hk5;go_wp2;go_ret;exact ⟨rfl,K5.out⟩
  have HY:=hid hy5;have K5:=hid (K4.out.trans' hk5);have J5:=hid (J4.out.trans' hk5);have L5:=hid (LV.out.trans' J5.out);clear hk5 hy5 d0 d1 d2 d3 d4 d5;obtain ⟨d0,d1,d2,d3,d4,d5⟩:=xaL HV.out J5.out;obtain ⟨hf,hcn,hdn,hbl,bs,D,hE,hx,hD⟩:=HG.out;have hlb:=xfa hf hcn hE;have HE:=hid (aI hf (aI hdn (aI hE hlb)));have HX:=hid (hx.keep L5.out (fun _ _ _ h=>h));have HDD:=hid hD;have HBL:=hid hbl;clear hf hcn hdn hbl hE hx hD hlb HG;have hl:bs.length < 4294967296:=by have:=HE.out.2.2.2;omega
  have hDl:D.length < 4294967296:=by
    have h1:=HE.out.2.2.2;have h2:=HBL.out
    rcases HDD.out with ⟨_,m,hm,h3⟩ | ⟨_,h3,_⟩ <;> rw [h3] <;> simp <;> omega
  have HDL:=hid (aI hDl hl);clear hDl hl;have hxf:=HX.out;obtain ⟨xp,xc,rfl,_⟩:=hxf
  by_cases hkk:kd=22
  . subst hkk
    go_wp2_with fail;refine (xgt v _ _ _ [19] ((HD.out.1.keep K5.out (fun _ _ _ h=>h)).keep ((kR Nope w5).alloc _) (fun _ _ _ h=>h)) HE.out.1.own.few (xfV w5 _ [19] (by decide))).mono ?_;rintro e w6 ⟨⟨rfl,_,hks⟩ | rfl,hk6⟩
    case inr =>
      have K6:=hid ((K5.out.alloc _).trans' hk6);clear hk6;go_wp2;go_ret;exact ⟨rfl,K6.out⟩
    have HKS:=hid hks;have K6:=hid ((K5.out.alloc _).trans' hk6);have J6:=hid ((J5.out.alloc _).trans' hk6);have L6:=hid ((L5.out.alloc _).trans' hk6);have HX6:=hid ((HX.out.keep ((kR Nope w5).alloc _) (fun _ _ _ h=>h)).keep hk6 (fun _ _ _ h=>h));clear hk6 hks d0 d1 d2 d3 d4 d5;obtain ⟨d0,d1,d2,d3,d4,d5⟩:=xaL HV.out J6.out;cases cc
    case true =>
      have hR:xbY 22 v D:=by
        rcases HDD.out with ⟨_,m,hm,h2⟩ | ⟨h1,_⟩
        . exact ⟨bs,HE.out.2.2.1,HE.out.2.1,HDL.out.2,.inl ⟨m,hm,h2⟩⟩
        . cases h1
      have HR:=hid hR;clear hR;go_wp2_with fail;refine (xeL _ _ HX6.out HR.out HDL.out.1 (HD.out.2.2.2.1.nope K6.out)).mono ?_;rintro e w7 ⟨rfl,hk7⟩;have K7:=hid (K6.out.trans' hk7);clear hk7;go_wp2;go_ret;exact ⟨rfl,K7.out⟩
    have hdy:D=bs ++ bh/\BSl Any_ w3 y3 bh:=by
      rcases HDD.out with ⟨h1,_⟩ | ⟨_,h2,h3⟩
      . cases h1
      . exact ⟨h2,h3⟩
    have hyf:=hdy.2;obtain ⟨yp,yc,rfl,_⟩:=hyf;have HYB:=hid hdy;have HGD:=hid (xds HD.out.1.nums HSV.out HY.out);have HKY:=hid (show xeo 19 v from fun i x hx=>List.mem_singleton.1 (HKS.out i x hx));clear hdy;go_wp2_with fail;refine (xgo (v:=v) (bs:=bs) (bh:=bh) _ _ HYB.out.1 HX6.out HGD.out (xeU HSV.out) HKD.out HE.out.2.2.1 HDL.out.1 (HD.out.2.2.1.nope K6.out) (HD.out.2.2.2.1.nope K6.out)).mono ?_;rintro e w7 ⟨lx,rx,rfl,hk7,⟨l',hl7,hlo7⟩,hr7⟩;obtain ⟨lp,lc,rfl,_⟩:=hl7.form;have H7:=hid (aI hl7 (aI hlo7 hr7));have K7:=hid (K6.out.trans' hk7);have J7:=hid (J6.out.trans' hk7);have L7:=hid (L6.out.trans' hk7);clear hk7 hl7 hlo7 hr7 d0 d1 d2 d3 d4 d5;obtain ⟨d0,d1,d2,d3,d4,d5⟩:=xaL HV.out J7.out;go_wp2_with fail;refine (xft v HKD.out (xcv _ v (Nat.le_refl _) HE.out.1) _ _ (HD.out.1.keep K7.out (fun _ _ _ h=>h)) HE.out.1.own.few).mono ?_;rintro e w8 ⟨y8,rfl,hv8,hk8⟩;rw [own_eq HGD.out HKD.out HKY.out] at hv8;have H8:=hid hv8;have K8:=hid (K7.out.trans' hk8);have L8:=hid (L7.out.trans' hk8);have M8:=hid (aI (H7.out.1.keep hk8 (fun _ _ _ h=>h)) (H7.out.2.2.keep hk8 (fun _ _ _ h=>h)));clear hv8 hk8;go_wp2_with fail;refine (xbX (xci _ v (Nat.le_refl _) HGD.out) H7.out.2.1 H8.out ((xeC 22 (by decide) M8.out.1).mono fun _ _ _=>trivial)).mono ?_;rintro e w9 ⟨rfl,hk9⟩;have K9:=hid (K8.out.trans' hk9);have M9:=hid (aI ((M8.out.2.keep hk9 (fun _ _ _ h=>h)).mono (S':=Any_) fun _ _ _=>trivial) (HYB.out.2.keep (L8.out.trans' hk9) (fun _ _ _ h=>h)));clear hk9;go_wp2_with fail;refine (left_ok _ _ _ bh M9.out.1 M9.out.2).mono ?_;rintro e w10 ⟨rfl,rfl⟩;go_wp2;go_ret;exact ⟨rfl,K9.out⟩
  . have hkb:(kd == 22)=false:=by simpa using hkk
    have hR:xbY 22 v D:=by
      rcases HDD.out with ⟨_,m,hm,h2⟩ | ⟨_,h2,_⟩
      . exact ⟨bs,HE.out.2.2.1,HE.out.2.1,HDL.out.2,.inl ⟨m,hm,h2⟩⟩
      . exact ⟨bs,HE.out.2.2.1,HE.out.2.1,HDL.out.2,.inr ⟨by rw [HKD.out];exact hkk,bh,h2⟩⟩
    have HR:=hid hR;clear hR hkk;go_wp2_with fail;refine (xeL _ _ HX.out HR.out HDL.out.1 (HD.out.2.2.2.1.nope K5.out)).mono ?_;rintro e w6 ⟨rfl,hk6⟩;have K6:=hid (K5.out.trans' hk6);have J6:=hid (J5.out.trans' hk6);clear hk6 d0 d1 d2 d3 d4 d5;obtain ⟨d0,d1,d2,d3,d4,d5⟩:=xaL HV.out J6.out;cases cc
    all_goals
      go_wp2;go_ret;exact ⟨rfl,K6.out⟩
end Go.Proofs.YtmdpodeegdjkeaaGreatDoor
