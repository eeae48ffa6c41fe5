/- Part 13 of the proof of the readers and the guards. No conditions. -/
import Derived.Test.YtmdpodeegdjkeaaGreatDoorU0
import Derived.Test.YtmdpodeegdjkeaaGreatDoorU9
import Derived.Test.YtmdpodeegdjkeaaGreatDoorU10
import Derived.Test.YtmdpodeegdjkeaaGreatDoorU11
import Derived.Test.YtmdpodeegdjkeaaGreatDoorU12
set_option maxRecDepth 100000
set_option maxHeartbeats 3200000
namespace Go.Proofs.YtmdpodeegdjkeaaGreatDoor
open Go Go.RowKit Go.Lib Tryz
theorem xoh {m:Nat} {j l:Nat->Nat} (hl:∀ p,p < m->l p < m/\j (l p)=p):∀ q,q < m->l (j q)=q:=by
 intro q hq
 have hmem:q ∈ (List.range m).map l:=by
  refine Classical.byContradiction fun hn => ?_
  have hnd:((List.range m).map l).Nodup:=by
   rw [List.Nodup,List.pairwise_map]
   exact List.Pairwise.imp_of_mem (fun {a b} ha hb hab e=>hab (by
    have h1:=(hl a (by simpa using ha)).2;have h2:=(hl b (by simpa using hb)).2;rw [e,h2] at h1
    exact h1.symm)) (List.nodup_range (n:=m))
  have h1:=List.Nodup.length_le_of_subset hnd (l₂:=(List.range m).filter (fun a => !decide (a=q))) (fun a ha=>by
   obtain ⟨p,hp,rfl⟩:=List.mem_map.1 ha;have hp':p < m:=by simpa using hp
   rw [List.mem_filter];refine ⟨by simpa using (hl p hp').1,?_⟩;simp only [Bool.not_eq_true',decide_eq_false_iff_not];intro e
   exact hn (List.mem_map.2 ⟨p,hp,e⟩))
  have h2:((List.range m).filter (fun a => !decide (a=q))).length < (List.range m).length:=by
   have h3:((List.range m).filter (fun a=>decide (a=q))).length+((List.range m).filter (fun a => !decide (a=q))).length=(List.range m).length:=by
    have:=List.length_eq_countP_add_countP (fun a=>decide (a=q)) (l:=List.range m);rw [<- List.countP_eq_length_filter,<- List.countP_eq_length_filter]
    simpa using this.symm
   have h4:0 < ((List.range m).filter (fun a=>decide (a=q))).length:=List.length_pos_of_mem (a:=q) (by rw [List.mem_filter];exact ⟨by simpa using hq,by simp⟩);omega
  simp at h1 h2;omega
 obtain ⟨p,hp,e⟩:=List.mem_map.1 hmem;have hp':p < m:=by simpa using hp
 have:=(hl p hp').2;rw [e] at this;rw [this,e]
set_option maxHeartbeats 6400000 in
theorem xgV (v:V) (w:World) (b:Nat) (es:List (Value × Value)) (j l:Nat->Nat) (h22:v.kind=22) (hd:v.desc=[]) (hm:MapAt w b es) (hlen:es.length*2=v.kids.length) (hj:∀ i,i < es.length->j i < es.length) (hl:∀ p,p < es.length->l p < es.length/\j (l p)=p)
  (hk:∀ (i:Nat) (e:Value × Value) (k:V),es[i]? = some e->v.kids[2*j i]? = some k->k.kind=19/\e.1 = .string k.text) (hx:∀ (i:Nat) (e:Value × Value) (k:V),es[i]? = some e->v.kids[2*j i+1]? = some k->AnyV Any_ w e.2 k)
  (hkg:∀ (i:Nat) (k:V),v.kids[2*i]? = some k->Tidy k/\k.desc=[]) (hap:∀ (i i':Nat) (k k':V),v.kids[2*i]? = some k->v.kids[2*i']? = some k'->k.text=k'.text->k.kind=19->k'.kind=19->i=i') (hn:v.kids.length<=1000) (hT:Tabs w) (ih:∀ k ∈ v.kids,xkk k) :
  Calls prog 51 #[.int .i64 19,.map (some b)] w (xac (xeM w v)):=by
 obtain ⟨i1,hi,hz0,hz1,hz2⟩:=info_parts xls;obtain ⟨i2,hi2,hy0,hy1,hy2⟩:=info_parts xbc;have hes:es.length<=500:=by omega
 have hbl:=hm.lt
 have hke:∀ (i:Nat) (e:Value × Value),es[i]? = some e->∃ k,v.kids[2*j i]? = some k/\k.kind=19/\e.1 = .string k.text:=fun i e he=>by
  have hil:=hj i (gi.1 he).1;have h1:v.kids[2*j i]? = some (v.kids[2*j i]'(by omega)):=ge _;exact ⟨_,h1,hk i e _ he h1⟩
 have hinj:∀ (q q':Nat) (e e':Value × Value),es[q]? = some e->es[q']? = some e'->e.1=e'.1->q=q':=fun q q' e e' he he' h=>by
  obtain ⟨k,h1,h2,h3⟩:=hke q e he;obtain ⟨k',h1',h2',h3'⟩:=hke q' e' he';rw [h3,h3'] at h;injection h with h
  have h4:=hap _ _ k k' h1 h1' h h2 h2';have h5:=xoh hl q (gi.1 he).1;have h6:=xoh hl q' (gi.1 he').1;rw [<- h5,<- h6,h4]
 have HX:=hid (aI hke (aI hx (aI hinj (aI ih (aI hlen (aI hj hT))))));have HF:=hid (aI h22 (aI hd (aI hl hkg)));have HM:=hid hm;clear hm hk hx hinj hke ih hlen hj hT h22 hd hl hkg hap hn;go_enter func51,ntmps51;go_wp2_with (at_range;go_must (refine xbT rfl (.tmp 13) 84 rfl rfl HM.out underlying84 ?_;intro w1 hR hk1;have H1:=hid (aI hR hk1);clear hR hk1))
 (try go_simp)
 have HI0:Hid (xnG w w1 b w.heap.size es [] [] (.slice none 0 0)):=hid ⟨H1.out.1,H1.out.2,World.ownsRow_nil _ _ _ _,rfl,(fun _ _ _ h=>nomatch h),Nat.le_refl _,hbl⟩
 go_loopw [6] (fun x w'=>∃ (vis:List Nat) (ts:List (List UInt8)),Hid (xnG w w' b w.heap.size es vis ts x)) (fun _ w'=>es.length - xdd w' w.heap.size)
 case atStart=>exact ⟨[],[],HI0⟩
 case round =>
  obtain ⟨vis,ts,HI⟩:=hrel;obtain ⟨po,co,hx0⟩:=xab HI.out.row;subst hx0;have hfew0:=HI.out.rng.few;rw [<- HI.out.len] at hfew0;clear HI0;go_wp2_with (at_next;go_must (refine xcb rfl (.tmp 14) rfl rfl HI.out.rng ?_ ?_))
  ·intro hall;obtain ⟨wq,rfl⟩:∃ wq:World,wq=wr:=⟨_,rfl⟩
   have hvl:vis.length=es.length:=by
    have h1:=List.Nodup.length_le_of_subset HI.out.rng.nodup (l₂:=List.range es.length) (fun i hi=>by simpa using HI.out.rng.below i hi);have h2:=List.Nodup.length_le_of_subset (List.nodup_range (n:=es.length)) (l₂:=vis) (fun i hi=>hall i (by simpa using hi));simp at h1 h2;omega
   have HA:=hid (aI hall (HI.out.len.trans hvl));clear hall hvl;go_wp2_with (go_at_call 108;go_must (refine (xoe _ w.heap.size _ ts HI.out.row (by omega)).mono ?_;rintro e w8 ⟨rfl,ts',hperm,hrow8,hk8⟩;have H8:=hid (aI hperm (aI hrow8 hk8));clear hperm hrow8 hk8))
   (try go_simp)
   have hw8:Kept Nope w w8:=HI.out.kept.trans H8.out.2.2 fun k hk e=>by have:=(HI.out.row.lt k e).1;omega
   have HW8:=hid hw8;have hm8:=(HM.out.keep hw8 (fun h=>h));have HM8:=hid hm8;obtain ⟨_,A,c8,e8,hnc,hcm,hc⟩:=CSl.ofOwn H8.out.2.1;injection e8 with e8 _ e9
   subst e8 e9;have HC:=hid hc;have hlp:ts'.length=ts.length:=H8.out.1.length_eq;have HLP:=hid hlp;unfold maxLen at hcm;obtain ⟨n,hnn⟩:∃ n,ts.length=n:=⟨_,rfl⟩
   have HL:=hid hnn;rw [hnn] at hnc hfew0 ⊢;clear hc hnn hw8 hlp hm8
   go_loopw [8,27] (fun o q w'=>∃ (k:Nat) (la:List Lay),k<=n/\q = .int .i64 k/\Hid (Kept Nope w8 w'/\Row6 w8 (fun b=>b < w8.heap.size) w' o la/\la.length=2*k/\∀ (i:Nat) (t:List UInt8),i < k->ts'[i]? = some t->la[2*i]? = some (xau 19 0 ⟨t.toArray⟩)/\∃ a,la[2*i+1]? = some a/\∀ (q:Nat) (y:Value) (u:V),es[q]? = some (encT t,y)->v.kids[2*j q+1]? = some u->xao u a.v)) (fun _ q _=>n - (RowKit.intOf q).toNat)
   case atStart=>exact ⟨0,[],by omega,rfl,hid ⟨kR _ _,Row6.nil _ _ _,rfl,fun i p hi=>by omega⟩⟩
   case round =>
    obtain ⟨k,la,hk,rfl,HR⟩:=hrel;obtain ⟨pq,cq,ho⟩:=HR.out.2.1.form;subst ho
    by_cases hkn:k < n
    ·have hkn':(k:Int) < (n:Int):=by omega
     have hk0:(0:Int)<=(k:Int):=by omega
     have e1:IntKind.i64.wrap ((k:Int)+1)=(k:Int)+1:=IntWalk.i64_in _ (by omega);obtain ⟨t,ht⟩:∃ t,ts'[k]? = some t:=⟨ts'[k]'(by rw [HLP.out,HL.out];exact hkn),ge _⟩
     obtain ⟨g,off,rfl,hcell⟩:∃ g off,po=some ⟨g,off,none⟩/\∀ j u,(ts'.map encT)[j]? = some u->w8.cell? ⟨g,off+j,none⟩=some u:=by
      rcases HC.out with h0 | ⟨g,off,h1,_,h2⟩
      ·rw [HL.out] at h0;omega
      ·exact ⟨g,off,h1,h2⟩
     obtain ⟨T,hTe⟩:∃ T:ByteArray,(⟨t.toArray⟩:ByteArray)=T:=⟨_,rfl⟩
     have hent:encT t = .string T:=by unfold encT;rw [hTe]
     have y0:wr.cell? ⟨g,off+k,none⟩=some (.string T):=HR.out.1.cell (hcell k _ (by rw [gM,ht];exact congrArg some hent)) (fun h=>h);obtain ⟨t0,ht0⟩:=List.mem_iff_getElem?.1 (H8.out.1.mem_iff.1 (gm ht));obtain ⟨q0,hq0⟩:∃ q,vis[t0]? = some q:=⟨vis[t0]'(by rw [<- HI.out.len];exact (gi.1 ht0).1),ge _⟩
     obtain ⟨y,hy⟩:=HI.out.val t0 q0 t hq0 ht0;rw [hent] at hy
     have hlk:(Instr.lookup 84 (.map (some b)) (.string T) false).run prog wr = .ok y wr:=xnb (HM8.out.keep HR.out.1 (fun h=>h)) hy (fun e he=>by
      obtain ⟨i,hi⟩:=List.mem_iff_getElem?.1 he;obtain ⟨k,_,_,h3⟩:=HX.out.1 i e hi
      exact ⟨_,h3⟩) (fun e he h=>by
      obtain ⟨i,hi⟩:=List.mem_iff_getElem?.1 he;have:=HX.out.2.2.1 i q0 e _ hi hy h;subst this;rw [hi] at hy;cases hy
      rfl)
     have hji:=HX.out.2.2.2.2.2.1 q0 (gi.1 hy).1;have hlen:=HX.out.2.2.2.2.1;obtain ⟨u,hu⟩:∃ k,v.kids[2*j q0+1]? = some k:=⟨_,ge (by omega)⟩
     have hkw:Kept Nope w wr:=HW8.out.trans' HR.out.1
     have hts:T.size<=131072:=by
      obtain ⟨k1,h1,_,h3⟩:=HX.out.1 q0 _ hy;injection h3 with h3
      rw [h3];exact (HF.out.2.2.2 _ k1 h1).1.size
     have HTS:=hid hts;clear hts;have HU:=hid (aI hu (aI ((HX.out.2.1 q0 _ u hy hu).keep hkw (fun _ _ _ h=>h)) (aI (HX.out.2.2.2.2.2.2.nope hkw) (aI hy (aI ht (aI hent hTe))))));clear hcell ht hent ht0 hq0 hy hji hlen hu hkw hTe
     go_wp2_with (first
      | (at_builtin;go_must (refine xae _ rfl (.tmp 40) (.tmp 45) 23 rfl w8.heap.size 25 i2 _ 6 88 underlying23 hi2 hy0 hy1 hy2 rfl (by decide) _ _ _ rfl H4.out.1.own Any_ _ 2 ((xau 19 0 T).cells ++ (Lay.mk u' (.slice pk u'.kids.length ck) (.slice pd u'.desc.length cd)).cells) rfl (CSl.two_six (W:=w3.alloc (.cells (Lay.mk u' (.slice pk u'.kids.length ck) (.slice pd u'.desc.length cd)).cells.toArray 25)) (xau 19 0 T) (Lay.mk u' (.slice pk u'.kids.length ck) (.slice pd u'.desc.length cd)) (by simp)) H4.out.2.1 (by have:=HR.out.2.2.1;unfold maxLen;omega) (by have:=HR.out.2.2.1;omega) (HR.out.1.trans' H4.out.2.2.1).size ?_;intro v4 w4 hown hgrow hblk;have HN:=hid (aI hown (aI hgrow hblk));clear hown hgrow hblk))
      | (go_at_call 33;go_must (refine (HX.out.2.2.2.1 u (gm HU.out.1) _ _ HU.out.2.2.1 HU.out.2.1).mono ?_;rintro e w3 ⟨y3,b3,rfl,rfl,hk3,u',hv3,hlo3⟩;obtain ⟨ks3,ds3,rfl,g3⟩:=hv3;obtain ⟨pk,ck,rfl,_⟩:=g3.2.1.form;obtain ⟨pd,cd,rfl,_⟩:=g3.2.2.form;have hka:=((kR Nope w3).alloc (.cells (Lay.mk u' (.slice pk u'.kids.length ck) (.slice pd u'.desc.length cd)).cells.toArray 25)).alloc (.cells ((xau 19 0 T).cells ++ (Lay.mk u' (.slice pk u'.kids.length ck) (.slice pd u'.desc.length cd)).cells).toArray 25);have hone:∀ z ∈ (xau 19 0 T).cells ++ (Lay.mk u' (.slice pk u'.kids.length ck) (.slice pd u'.desc.length cd)).cells,z.oneCell'=true:=fun z hz=>(List.mem_append.1 hz).elim (xbt _ _ _ z) (xei _ rfl rfl z);have hrow3:=HR.out.2.1.nope (hk3.trans' hka);have hok3:=Lay.Ok.keep (a:=Lay.mk u' (.slice pk u'.kids.length ck) (.slice pd u'.desc.length cd)) g3 hka (fun _ _ _ h=>h);have H4:=hid (aI hrow3 (aI hone (aI (hk3.trans' hka) (aI hok3 hlo3))));clear hk3 g3 hlo3 hka hone hrow3 hok3;unfold vagg)))
     go_roundw
     case rel =>
      have hrow:∀ b,(Value.slice pq la.length cq).ownBlock=some b->w8.heap.size<=b/\b < wr.heap.size:=fun b hb=>HR.out.2.1.own.lt b hb
      have hp2:=H4.out.1.push2 (a:=xau 19 0 T) (c:=Lay.mk u' (.slice pk u'.kids.length ck) (.slice pd u'.desc.length cd)) (xjQ (by omega) (by omega) (by have:=HTS.out;unfold maxLen;omega)) (H4.out.2.2.2.1.mono fun b _ hb=>⟨fun e=>by have:=(hrow b e).2;have h3:wr.heap.size<=b:=hb;omega,fun h=>by have h3:wr.heap.size<=b:=hb;have:=HR.out.1.size;omega⟩) HN.out.1 HN.out.2.1 HN.out.2.2;have hall:=(HR.out.1.trans' H4.out.2.2.1).trans (xcj HN.out.2.1) (fun b hb e=>by have:=(hrow b e).1;omega);refine ⟨k+1,la ++ [xau 19 0 T,Lay.mk u' (.slice pk u'.kids.length ck) (.slice pd u'.desc.length cd)],by omega,by go_num,hid ⟨hall,hp2,by rw [lA,HR.out.2.2.1];simp;omega,fun i t' hi ht' => ?_⟩⟩;have h2:=HR.out.2.2.1
      rcases Nat.lt_or_ge i k with hlt | hge
      ·have h3:=HR.out.2.2.2 i t' hlt ht';rw [List.getElem?_append_left (by omega),List.getElem?_append_left (by omega)];exact h3
      ·obtain rfl:i=k:=by omega
       have h4:=HU.out.2.2.2.2.1;rw [ht'] at h4;cases h4;rw [List.getElem?_append_right (by omega),List.getElem?_append_right (by omega),h2,HU.out.2.2.2.2.2.2];refine ⟨by simp,_,by rw [show 2*i+1 - 2*i=1 by omega];rfl,fun q y' u1 hq hu1 => ?_⟩;rw [HU.out.2.2.2.2.2.1] at hq;have:=HX.out.2.2.1 q q0 _ _ hq HU.out.2.2.2.1 rfl;subst this;have h5:=HU.out.1;rw [hu1] at h5;cases h5;exact H4.out.2.2.2.2
     case measure=>simp [RowKit.intOf];omega
    ·obtain rfl:k=n:=by omega
     have hlt:¬ (k:Int) < (k:Int):=by omega
     go_wp2;go_ret2;have hne:k=es.length:=by rw [<- HL.out];exact HA.out.2
     have hkl:=HX.out.2.2.2.2.1;refine ⟨_,_,rfl,rfl,HW8.out.trans' HR.out.1,la.map Lay.v,VSl.ofOwn (S:=xaf w) HR.out.2.1.own (fun b hb=>Nat.le_trans HW8.out.size (HR.out.2.1.own.lt b hb).1) (fun a ha=>(HR.out.2.1.ok a ha).mono fun b _ hb=>by have:=hb.2;have:=HW8.out.size;show w.heap.size<=b;omega),?_⟩;refine xeh HF.out.1 HF.out.2.1 (m:=k) (by omega) (by rw [lM,HR.out.2.2.1]) fun i hi u u' hu hu' => ?_
     obtain ⟨hli,hji⟩:=HF.out.2.2.1 i (by omega);obtain ⟨e,he⟩:∃ e,es[l i]? = some e:=⟨_,ge hli⟩
     obtain ⟨k1,hk1,hk19,hkt⟩:=HX.out.1 (l i) e he;rw [hji,hu] at hk1;cases hk1;obtain ⟨t,ht⟩:=List.mem_iff_getElem?.1 (HA.out.1 (l i) hli);have htl:t < ts.length:=by rw [HI.out.len];exact (gi.1 ht).1
     have hpt:ts[t]? = some ts[t]:=ge htl;obtain ⟨y,hy⟩:=HI.out.val t (l i) _ ht hpt;have he2:=he;rw [hy] at he2;cases he2;have htx:u.text=⟨ts[t].toArray⟩:=by unfold encT at hkt;injection hkt with hkt;exact hkt.symm
     obtain ⟨r,hr⟩:=List.mem_iff_getElem?.1 (H8.out.1.mem_iff.2 (gm hpt));have hrl:r < k:=by have:=(gi.1 hr).1;rw [HLP.out,HL.out] at this;exact this
     obtain ⟨hla,a,hla2,hlo⟩:=HR.out.2.2.2 r _ hrl hr;have hgu:=HF.out.2.2.2 i u hu;refine ⟨r,_,_,by rw [gM,hla];rfl,by rw [gM,hla2];rfl,?_,hlo _ y u' hy (by rw [hji];exact hu')⟩;exact Same.of_fields hk19 (hgu.1.zero (.inr (by omega))) htx (hgu.1.leaf (by omega)) rfl hgu.2 rfl
  ·intro i a y w2 hi0 he hR hk2;obtain ⟨k,hk0,hk19,ha⟩:=HX.out.1 i _ he;simp only at ha;subst ha;obtain ⟨T,hT0⟩:∃ T,k.text=T:=⟨_,rfl⟩
   rw [hT0] at he ⊢;have heT:encT (bytesOf T) = .string T:=by unfold encT;rw [bytes_eta]
   have HT:=hid heT;have H2:=hid (aI hR (aI hk2 he));have hsz:=HI.out.rng.size_;have hsz2:=hR.size_;have hfew:=hR.few;rw [lA,List.length_singleton] at hsz2 hfew;have HM2:=hid (aI hsz (aI hsz2 hfew));have hka:=(kR Nope w2).alloc (.cells #[.string T] 9);have HROW:=hid (aI (xaB (xaB HI.out.row hk2 (fun q hq e=>HI.out.own_ner (by have e':q=w.heap.size:=e;rw [<- e'];exact hq))) hka (fun _ _ h=>h)) (Nat.le_trans HI.out.kept.size (Nat.le_trans hk2.size hka.size)));clear hR hk2 hi0 he hsz hsz2 hfew hk0 hk19 hT0 heT hka
   go_wp2_with (first
    | (at_builtin;go_must (refine xae _ rfl (.tmp 19) (.tmp 21) 153 rfl w.heap.size 9 i1 _ 1 16 underlying153 hi hz0 hz1 hz2 rfl (by decide) _ _ _ rfl HROW.out.1 Any_ _ 1 [.string T] rfl (CSl.one_str (W:=w2) T rfl) (by intro z hz;rw [List.mem_singleton.1 hz];rfl) (by unfold maxLen;omega) (by omega) HROW.out.2 ?_;intro v7 w7 hown hgrow _;have H7:=hid (HI.out.step (y:=y) H2.out.1 (by rw [HT.out];exact H2.out.2.2) H2.out.2.1 ((kR Nope w2).alloc _) (by rw [HT.out];exact hown) hgrow);clear hown hgrow))
    | (refine xbG rfl (.tmp 14) rfl rfl H2.out.1 H2.out.2.2 ?_))
   have hs7:=H7.out.rng.size_;rw [lA,List.length_singleton] at hs7;have h9:=HM2.out
   (try go_simp)
   go_roundw
   case rel=>exact ⟨_,_,H7⟩
   case measure=>omega
theorem xaq {w w1:World} {o:Obj} {x:Value} {l:List V} (h:VSl (xaf (w.alloc o)) w1 x l):VSl (fun b=>w.heap.size < b) w1 x l:=h.mono fun b _ hb=>by
 have h1:(w.alloc o).heap.size<=b:=hb;rw [World.size_alloc] at h1;exact h1
theorem valued_list (v:V) (w:World) (s:Value) (xs:List Value) (h21:v.kind=21) (hd:v.desc=[]) (hs:CSl Any_ w 1 s v.kids.length xs) (hx:∀ (i:Nat) (x:Value) (k:V),xs[i]? = some x->v.kids[i]? = some k->AnyV Any_ w x k) (hn:v.kids.length<=1000) (hT:Tabs w) (ih:∀ k ∈ v.kids,xkk k) :
  Calls prog 33 #[.iface 76 s] w (xac (xbE w v)):=by
 have hl:=xll (w.alloc (.cells zVal 25)) s v.kids xs (hs.keep ((kR Nope w).alloc _) (fun _ _ _ h=>h)) (fun i x k h1 h2=>(hx i x k h1 h2).keep ((kR Nope w).alloc _) (fun _ _ _ h=>h)) hn (hT.alloc _) ih;have HL:=hid hl;have HD:=hid (aI h21 hd);clear hl hs hx hn hT ih h21 hd;have f_bool:=fun W=>xad (T:=76) (s) W (by decide)
 have f_u8:=fun W=>xas (T:=76) (s) W (by decide)
 have f_u16:=fun W=>xam (T:=76) (s) W (by decide)
 have f_u32:=fun W=>xal (T:=76) (s) W (by decide)
 have f_u64:=fun W=>xak (T:=76) (s) W (by decide)
 have f_i8:=fun W=>xaF (T:=76) (s) W (by decide)
 have f_i16:=fun W=>xav (T:=76) (s) W (by decide)
 have f_i32:=fun W=>xaC (T:=76) (s) W (by decide)
 have f_i64:=fun W=>xaH (T:=76) (s) W (by decide)
 have f_f32:=fun W=>xaO (T:=76) (s) W (by decide)
 have f_f64:=fun W=>xaQ (T:=76) (s) W (by decide)
 have f_Time:=fun W=>xaJ (T:=76) (s) W (by decide)
 have f_UUID:=fun W=>xaM (T:=76) (s) W (by decide)
 have f_bytes:=fun W=>xaI (T:=76) (s) W (by decide)
 have f_string:=fun W=>xar (T:=76) (s) W (by decide)
 have f_Symbol:=fun W=>xaD (T:=76) (s) W (by decide)
 have fy:=fun W=>xns (s) W
 go_enter func33,ntmps33;go_wp2_with (go_at_call 46;go_must (refine HL.out.mono ?_;rintro e w1 ⟨y,b,rfl,rfl,hk,l',hv,hlen,hlo⟩;obtain ⟨py,cy,rfl,_⟩:=hv.form;have HR:=hid ((Blk.new w 25 zVal).kept hk (fun h=>h));have H1:=hid (aI (((kR Nope w).alloc _).trans' hk) (aI (xaq hv) (aI hlen hlo)));clear hk hv hlen hlo;have rr:=HR.out;unfold zVal at rr;have r0:=rr.cell 0;have r1:=rr.cell 1;have r2:=rr.cell 2;have r3:=rr.cell 3;have r4:=rr.cell 4;have r5:=rr.cell 5;have g0:=rr.frozen 0;have g1:=rr.frozen 1;have g2:=rr.frozen 2;have g3:=rr.frozen 3;have g4:=rr.frozen 4;have g5:=rr.frozen 5;simp only [gt,gz,gs] at r0 r1 r2 r3 r4 r5;clear rr))
 (try simp only [Exit.inBlock,Exit.then])
 have hB2:=(((((HR.out.set_ 0 (.int .i64 21)).set_ 1 (.int .u64 0)).set_ 2 (.string ⟨#[]⟩)).set_ 3 (.slice py l'.length cy)).set_ 4 (.int .i64 0)).set_ 5 (.slice none 0 0);have hld:=run_loadVar_row (P:=prog) _ w.heap.size 25 25 _ _ _ hB2 underlying25 rfl (by kernel_rfl);have hks:Kept (Only w.heap.size) w1 ((((((w1.setCell ⟨w.heap.size,0,none⟩ (.int .i64 21)).setCell ⟨w.heap.size,1,none⟩ (.int .u64 0)).setCell ⟨w.heap.size,2,none⟩ (.string ⟨#[]⟩)).setCell ⟨w.heap.size,3,none⟩ (.slice py l'.length cy)).setCell ⟨w.heap.size,4,none⟩ (.int .i64 0)).setCell ⟨w.heap.size,5,none⟩ (.slice none 0 0)):=((((((kR _ _).set1 0 _).set1 1 _).set1 2 _).set1 3 _).set1 4 _).set1 5 _;refine bodyPost_ret (v:=.tuple #[.agg #[.int .i64 21,.int .u64 0,.string ⟨#[]⟩,.slice py l'.length cy,.int .i64 0,.slice none 0 0],.bool true]) ?_ rfl ⟨_,_,rfl,rfl,H1.out.1.trans hks (fun b hb e=>by have e':b=w.heap.size:=e;omega),?_⟩
 ·rw [results_cell_tmp rfl];simp only [Array.getD_eq_getD_getElem?,gt,gz,gs,Option.getD_some,asAddr,Sem.run_pure,Result.andThen_ok];rw [hld]
  rfl
 ·refine ⟨.mk 21 0 ByteArray.empty l' 0 [],⟨_,_,rfl,⟨by simp,by simp,by simp,by simp⟩,(H1.out.2.1.keep hks (fun b _ hb e=>by have e':b=w.heap.size:=e;omega)).mono fun b _ hb=>Nat.le_of_lt hb,.nil _ _ (by simp [maxLen])⟩,?_⟩;exact .list HD.out.1 rfl H1.out.2.2.1.symm HD.out.2 rfl fun i x y hx hy=>H1.out.2.2.2 i x y hx hy
theorem xmF (v:V) (w:World) (b:Nat) (hp:Calls prog 42 #[.map (some b)] (w.alloc (.cells zVal 25)) (xac (xeM (w.alloc (.cells zVal 25)) v))) :
  Calls prog 33 #[.iface 70 (.map (some b))] w (xac (xbE w v)):=by
 have HL:=hid hp;clear hp;have f_bool:=fun W=>xad (T:=70) (.map (some b)) W (by decide)
 have f_u8:=fun W=>xas (T:=70) (.map (some b)) W (by decide)
 have f_u16:=fun W=>xam (T:=70) (.map (some b)) W (by decide)
 have f_u32:=fun W=>xal (T:=70) (.map (some b)) W (by decide)
 have f_u64:=fun W=>xak (T:=70) (.map (some b)) W (by decide)
 have f_i8:=fun W=>xaF (T:=70) (.map (some b)) W (by decide)
 have f_i16:=fun W=>xav (T:=70) (.map (some b)) W (by decide)
 have f_i32:=fun W=>xaC (T:=70) (.map (some b)) W (by decide)
 have f_i64:=fun W=>xaH (T:=70) (.map (some b)) W (by decide)
 have f_f32:=fun W=>xaO (T:=70) (.map (some b)) W (by decide)
 have f_f64:=fun W=>xaQ (T:=70) (.map (some b)) W (by decide)
 have f_Time:=fun W=>xaJ (T:=70) (.map (some b)) W (by decide)
 have f_UUID:=fun W=>xaM (T:=70) (.map (some b)) W (by decide)
 have f_bytes:=fun W=>xaI (T:=70) (.map (some b)) W (by decide)
 have f_string:=fun W=>xar (T:=70) (.map (some b)) W (by decide)
 have f_Symbol:=fun W=>xaD (T:=70) (.map (some b)) W (by decide)
 have f_sAny:=fun W=>xaV (T:=70) (.map (some b)) W (by decide)
 have fy:=fun W=>xnu (.map (some b)) W
 go_enter func33,ntmps33;go_wp2_with (go_at_call 42;go_must (refine HL.out.mono ?_;rintro e w1 ⟨y,b,rfl,rfl,hk,l',hv,hlo⟩;obtain ⟨py,cy,rfl,_⟩:=hv.form;have HR:=hid ((Blk.new w 25 zVal).kept hk (fun h=>h));have H1:=hid (aI (((kR Nope w).alloc _).trans' hk) (aI (xaq hv) hlo));clear hk hv hlo;have rr:=HR.out;unfold zVal at rr;have r0:=rr.cell 0;have r1:=rr.cell 1;have r2:=rr.cell 2;have r3:=rr.cell 3;have r4:=rr.cell 4;have r5:=rr.cell 5;have g0:=rr.frozen 0;have g1:=rr.frozen 1;have g2:=rr.frozen 2;have g3:=rr.frozen 3;have g4:=rr.frozen 4;have g5:=rr.frozen 5;simp only [gt,gz,gs] at r0 r1 r2 r3 r4 r5;clear rr))
 (try simp only [Exit.inBlock,Exit.then])
 have hB2:=(((((HR.out.set_ 0 (.int .i64 22)).set_ 1 (.int .u64 0)).set_ 2 (.string ⟨#[]⟩)).set_ 3 (.slice py l'.length cy)).set_ 4 (.int .i64 0)).set_ 5 (.slice none 0 0);have hld:=run_loadVar_row (P:=prog) _ w.heap.size 25 25 _ _ _ hB2 underlying25 rfl (by kernel_rfl);have hks:Kept (Only w.heap.size) w1 ((((((w1.setCell ⟨w.heap.size,0,none⟩ (.int .i64 22)).setCell ⟨w.heap.size,1,none⟩ (.int .u64 0)).setCell ⟨w.heap.size,2,none⟩ (.string ⟨#[]⟩)).setCell ⟨w.heap.size,3,none⟩ (.slice py l'.length cy)).setCell ⟨w.heap.size,4,none⟩ (.int .i64 0)).setCell ⟨w.heap.size,5,none⟩ (.slice none 0 0)):=((((((kR _ _).set1 0 _).set1 1 _).set1 2 _).set1 3 _).set1 4 _).set1 5 _;refine bodyPost_ret (v:=.tuple #[.agg #[.int .i64 22,.int .u64 0,.string ⟨#[]⟩,.slice py l'.length cy,.int .i64 0,.slice none 0 0],.bool true]) ?_ rfl ⟨_,_,rfl,rfl,H1.out.1.trans hks (fun b hb e=>by have e':b=w.heap.size:=e;omega),?_⟩
 ·rw [results_cell_tmp rfl];simp only [Array.getD_eq_getD_getElem?,gt,gz,gs,Option.getD_some,asAddr,Sem.run_pure,Result.andThen_ok];rw [hld]
  rfl
 ·exact ⟨.mk 22 0 ByteArray.empty l' 0 [],⟨_,_,rfl,⟨by simp,by simp,by simp,by simp⟩,(H1.out.2.1.keep hks (fun b _ hb e=>by have e':b=w.heap.size:=e;omega)).mono fun b _ hb=>Nat.le_of_lt hb,.nil _ _ (by simp [maxLen])⟩,H1.out.2.2⟩
theorem xmE (v:V) (w:World) (b:Nat) (hp:Calls prog 51 #[.int .i64 19,.map (some b)] (w.alloc (.cells zVal 25)) (xac (xeM (w.alloc (.cells zVal 25)) v))) :
  Calls prog 33 #[.iface 84 (.map (some b))] w (xac (xbE w v)):=by
 have HL:=hid hp;clear hp;have f_bool:=fun W=>xad (T:=84) (.map (some b)) W (by decide)
 have f_u8:=fun W=>xas (T:=84) (.map (some b)) W (by decide)
 have f_u16:=fun W=>xam (T:=84) (.map (some b)) W (by decide)
 have f_u32:=fun W=>xal (T:=84) (.map (some b)) W (by decide)
 have f_u64:=fun W=>xak (T:=84) (.map (some b)) W (by decide)
 have f_i8:=fun W=>xaF (T:=84) (.map (some b)) W (by decide)
 have f_i16:=fun W=>xav (T:=84) (.map (some b)) W (by decide)
 have f_i32:=fun W=>xaC (T:=84) (.map (some b)) W (by decide)
 have f_i64:=fun W=>xaH (T:=84) (.map (some b)) W (by decide)
 have f_f32:=fun W=>xaO (T:=84) (.map (some b)) W (by decide)
 have f_f64:=fun W=>xaQ (T:=84) (.map (some b)) W (by decide)
 have f_Time:=fun W=>xaJ (T:=84) (.map (some b)) W (by decide)
 have f_UUID:=fun W=>xaM (T:=84) (.map (some b)) W (by decide)
 have f_bytes:=fun W=>xaI (T:=84) (.map (some b)) W (by decide)
 have f_string:=fun W=>xar (T:=84) (.map (some b)) W (by decide)
 have f_Symbol:=fun W=>xaD (T:=84) (.map (some b)) W (by decide)
 have f_sAny:=fun W=>xaV (T:=84) (.map (some b)) W (by decide)
 have f_mAny:=fun W=>xbb (T:=84) (.map (some b)) W (by decide)
 have fy:=fun W=>xnt (.map (some b)) W
 go_enter func33,ntmps33;go_wp2_with (go_at_call 51;go_must (refine HL.out.mono ?_;rintro e w1 ⟨y,b,rfl,rfl,hk,l',hv,hlo⟩;obtain ⟨py,cy,rfl,_⟩:=hv.form;have HR:=hid ((Blk.new w 25 zVal).kept hk (fun h=>h));have H1:=hid (aI (((kR Nope w).alloc _).trans' hk) (aI (xaq hv) hlo));clear hk hv hlo;have rr:=HR.out;unfold zVal at rr;have r0:=rr.cell 0;have r1:=rr.cell 1;have r2:=rr.cell 2;have r3:=rr.cell 3;have r4:=rr.cell 4;have r5:=rr.cell 5;have g0:=rr.frozen 0;have g1:=rr.frozen 1;have g2:=rr.frozen 2;have g3:=rr.frozen 3;have g4:=rr.frozen 4;have g5:=rr.frozen 5;simp only [gt,gz,gs] at r0 r1 r2 r3 r4 r5;clear rr))
 (try simp only [Exit.inBlock,Exit.then])
 have hB2:=(((((HR.out.set_ 0 (.int .i64 22)).set_ 1 (.int .u64 0)).set_ 2 (.string ⟨#[]⟩)).set_ 3 (.slice py l'.length cy)).set_ 4 (.int .i64 0)).set_ 5 (.slice none 0 0);have hld:=run_loadVar_row (P:=prog) _ w.heap.size 25 25 _ _ _ hB2 underlying25 rfl (by kernel_rfl);have hks:Kept (Only w.heap.size) w1 ((((((w1.setCell ⟨w.heap.size,0,none⟩ (.int .i64 22)).setCell ⟨w.heap.size,1,none⟩ (.int .u64 0)).setCell ⟨w.heap.size,2,none⟩ (.string ⟨#[]⟩)).setCell ⟨w.heap.size,3,none⟩ (.slice py l'.length cy)).setCell ⟨w.heap.size,4,none⟩ (.int .i64 0)).setCell ⟨w.heap.size,5,none⟩ (.slice none 0 0)):=((((((kR _ _).set1 0 _).set1 1 _).set1 2 _).set1 3 _).set1 4 _).set1 5 _;refine bodyPost_ret (v:=.tuple #[.agg #[.int .i64 22,.int .u64 0,.string ⟨#[]⟩,.slice py l'.length cy,.int .i64 0,.slice none 0 0],.bool true]) ?_ rfl ⟨_,_,rfl,rfl,H1.out.1.trans hks (fun b hb e=>by have e':b=w.heap.size:=e;omega),?_⟩
 ·rw [results_cell_tmp rfl];simp only [Array.getD_eq_getD_getElem?,gt,gz,gs,Option.getD_some,asAddr,Sem.run_pure,Result.andThen_ok];rw [hld]
  rfl
 ·exact ⟨.mk 22 0 ByteArray.empty l' 0 [],⟨_,_,rfl,⟨by simp,by simp,by simp,by simp⟩,(H1.out.2.1.keep hks (fun b _ hb e=>by have e':b=w.heap.size:=e;omega)).mono fun b _ hb=>Nat.le_of_lt hb,.nil _ _ (by simp [maxLen])⟩,H1.out.2.2⟩
end Go.Proofs.YtmdpodeegdjkeaaGreatDoor
