/- FnReadSymbolMap, part 2 (texts TextS RkSymbolMap LsSym LwSymbolMap). No conditions. -/
import Derived.Test.YtmdpodeegdjkeaaGreatDoorU13
import Derived.Test.YtmdpodeegdjkeaaGreatDoorU10
import Derived.Test.YtmdpodeegdjkeaaGreatDoorU36
import Derived.Test.YtmdpodeegdjkeaaGreatDoorES1
set_option maxRecDepth 100000
set_option maxHeartbeats 3200000
namespace Go.Proofs.YtmdpodeegdjkeaaGreatDoor
open Go Go.RowKit Go.Lib Tryz
theorem xlw (c:Bool) (t:ByteArray) (W:World):(Instr.checkKey c 10000 83 (.string t)).run prog W = .ok () W:=by cases c <;> kernel_rfl
theorem xjO {w:World} {b i:Nat} {es:List (Value × Value)} (h:MapAt w b es) {t:ByteArray} {y:Value} (hi:es[i]? = some (.string t,y)) (hs:∀ e ∈ es,∃ t,e.1 = .string t) (hu:∀ e ∈ es,e.1 = .string t->e.2=y) :
  (Instr.lookup 80 (.map (some b)) (.string t) false).run prog w = .ok y w:=by
 obtain ⟨arr,clock,hb,he,_⟩:=h;have hm:∀ e ∈ arr.toList,(e.key,e.val) ∈ es:=fun e h=>by rw [<- he];exact List.mem_map.2 ⟨e,h,rfl⟩
 obtain ⟨n,hn⟩:=xfE t y arr.toList 0 (fun e h=>hs _ (hm e h)) (fun e h=>hu _ (hm e h)) (by
  have:=gm hi;rw [<- he] at this;obtain ⟨e,h1,h2⟩:=List.mem_map.1 this;injection h2 with h2 h3
  exact ⟨e,h1,h2⟩)
 have hfk:(Instr.findKey 83 (.string t) arr.toList).run prog w = .ok (some (n,y)) w:=by
  unfold Instr.findKey;simp only [Sem.run_bind,run_underlying underlying83,Result.andThen_ok,hn,Sem.run_pure]
 unfold Instr.lookup;simp only [Sem.run_bind,run_underlying underlying80,Result.andThen_ok,MapKept.run_getObj_map hb,Sem.run_pure,xlw,hfk];simp
set_option maxHeartbeats 6400000 in
theorem xjB (v:V) (w:World) (b:Nat) (es:List (Value × Value)) (j l:Nat->Nat) (h22:v.kind=22) (hd:v.desc=[]) (hm:MapAt w b es) (hlen:es.length*2=v.kids.length) (hj:∀ i,i < es.length->j i < es.length) (hl:∀ p,p < es.length->l p < es.length/\j (l p)=p)
  (hk:∀ (i:Nat) (e:Value × Value) (k:V),es[i]? = some e->v.kids[2*j i]? = some k->k.kind=20/\e.1 = .string k.text) (hx:∀ (i:Nat) (e:Value × Value) (k:V),es[i]? = some e->v.kids[2*j i+1]? = some k->AnyV Any_ w e.2 k)
  (hkg:∀ (i:Nat) (k:V),v.kids[2*i]? = some k->Tidy k/\k.desc=[]) (hap:∀ (i i':Nat) (k k':V),v.kids[2*i]? = some k->v.kids[2*i']? = some k'->k.text=k'.text->k.kind=20->k'.kind=20->i=i') (hn:v.kids.length<=1000) (hT:Tabs w) (ih:∀ k ∈ v.kids,xkk k) :
  Calls prog 49 #[.int .i64 20,.map (some b)] w (xac (xeM w v)):=by
 obtain ⟨i1,hi,hz0,hz1,hz2⟩:=info_parts xls;obtain ⟨i2,hi2,hy0,hy1,hy2⟩:=info_parts xbc;have hes:es.length<=500:=by omega
 have hbl:=hm.lt
 have hke:∀ (i:Nat) (e:Value × Value),es[i]? = some e->∃ k,v.kids[2*j i]? = some k/\k.kind=20/\e.1 = .string k.text:=fun i e he=>by
  have hil:=hj i (gi.1 he).1;have h1:v.kids[2*j i]? = some (v.kids[2*j i]'(by omega)):=ge _;exact ⟨_,h1,hk i e _ he h1⟩
 have hinj:∀ (q q':Nat) (e e':Value × Value),es[q]? = some e->es[q']? = some e'->e.1=e'.1->q=q':=fun q q' e e' he he' h=>by
  obtain ⟨k,h1,h2,h3⟩:=hke q e he;obtain ⟨k',h1',h2',h3'⟩:=hke q' e' he';rw [h3,h3'] at h;injection h with h
  have h4:=hap _ _ k k' h1 h1' h h2 h2';have h5:=xoh hl q (gi.1 he).1;have h6:=xoh hl q' (gi.1 he').1;rw [<- h5,<- h6,h4]
 have HX:=hid (aI hke (aI hx (aI hinj (aI ih (aI hlen (aI hj hT))))));have HF:=hid (aI h22 (aI hd (aI hl hkg)));have HM:=hid hm;clear hm hk hx hinj hke ih hlen hj hT h22 hd hl hkg hap hn;go_enter func49,ntmps49;go_wp2_with (at_range;go_must (refine xbT rfl (.tmp 13) 80 rfl rfl HM.out underlying80 ?_;intro w1 hR hk1;have H1:=hid (aI hR hk1);clear hR hk1))
 (try go_simp)
 have HI0:Hid (xnG w w1 b w.heap.size es [] [] (.slice none 0 0)):=hid ⟨H1.out.1,H1.out.2,World.ownsRow_nil _ _ _ _,rfl,(fun _ _ _ h=>nomatch h),Nat.le_refl _,hbl⟩
 go_loopw [6] (fun x w'=>∃ (vis:List Nat) (ts:List (List UInt8)),Hid (xnG w w' b w.heap.size es vis ts x)) (fun _ w'=>es.length - xdd w' w.heap.size)
 case atStart=>exact ⟨[],[],HI0⟩
 case round =>
  obtain ⟨vis,ts,HI⟩:=hrel;obtain ⟨po,co,hx0⟩:=xab HI.out.row;subst hx0;have hfew0:=HI.out.rng.few;rw [<- HI.out.len] at hfew0;clear HI0;go_wp2_with (at_next;go_must (refine xcb rfl (.tmp 14) rfl rfl HI.out.rng ?_ ?_))
  ·intro hall;obtain ⟨wq,rfl⟩:∃ wq:World,wq=wr:=⟨_,rfl⟩
   have hvl:vis.length=es.length:=by
    have h1:=List.Nodup.length_le_of_subset HI.out.rng.nodup (l₂:=List.range es.length) (fun i hi=>by simpa using HI.out.rng.below i hi);have h2:=List.Nodup.length_le_of_subset (List.nodup_range (n:=es.length)) (l₂:=vis) (fun i hi=>hall i (by simpa using hi));simp at h1 h2;omega
   have HA:=hid (aI hall (HI.out.len.trans hvl));clear hall hvl;go_wp2_with (go_at_call 108;go_must (refine (xoe _ w.heap.size _ ts HI.out.row (by omega)).mono ?_;rintro e w8 ⟨rfl,ts',hperm,hrow8,hk8⟩;have H8:=hid (aI hperm (aI hrow8 hk8));clear hperm hrow8 hk8))
   (try go_simp)
   have hw8:Kept Nope w w8:=HI.out.kept.trans H8.out.2.2 fun k hk e=>by have:=(HI.out.row.lt k e).1;omega
   have HW8:=hid hw8;have hm8:=(HM.out.keep hw8 (fun h=>h));have HM8:=hid hm8;obtain ⟨_,A,c8,e8,hnc,hcm,hc⟩:=CSl.ofOwn H8.out.2.1;injection e8 with e8 _ e9
   subst e8 e9;have HC:=hid hc;have hlp:ts'.length=ts.length:=H8.out.1.length_eq;have HLP:=hid hlp;unfold maxLen at hcm;obtain ⟨n,hnn⟩:∃ n,ts.length=n:=⟨_,rfl⟩
   have HL:=hid hnn;rw [hnn] at hnc hfew0 ⊢;clear hc hnn hw8 hlp hm8
   go_loopw [8,27] (fun o q w'=>∃ (k:Nat) (la:List Lay),k<=n/\q = .int .i64 k/\Hid (Kept Nope w8 w'/\Row6 w8 (fun b=>b < w8.heap.size) w' o la/\la.length=2*k/\∀ (i:Nat) (t:List UInt8),i < k->ts'[i]? = some t->la[2*i]? = some (xau 20 0 ⟨t.toArray⟩)/\∃ a,la[2*i+1]? = some a/\∀ (q:Nat) (y:Value) (u:V),es[q]? = some (encT t,y)->v.kids[2*j q+1]? = some u->xao u a.v)) (fun _ q _=>n - (RowKit.intOf q).toNat)
   case atStart=>exact ⟨0,[],by omega,rfl,hid ⟨kR _ _,Row6.nil _ _ _,rfl,fun i p hi=>by omega⟩⟩
   case round =>
    obtain ⟨k,la,hk,rfl,HR⟩:=hrel;obtain ⟨pq,cq,ho⟩:=HR.out.2.1.form;subst ho
    by_cases hkn:k < n
    ·have hkn':(k:Int) < (n:Int):=by omega
     have hk0:(0:Int)<=(k:Int):=by omega
     have e1:IntKind.i64.wrap ((k:Int)+1)=(k:Int)+1:=IntWalk.i64_in _ (by omega);obtain ⟨t,ht⟩:∃ t,ts'[k]? = some t:=⟨ts'[k]'(by rw [HLP.out,HL.out];exact hkn),ge _⟩
     obtain ⟨g,off,rfl,hcell⟩:∃ g off,po=some ⟨g,off,none⟩/\∀ j u,(ts'.map encT)[j]? = some u->w8.cell? ⟨g,off+j,none⟩=some u:=by
      rcases HC.out with h0 | ⟨g,off,h1,_,h2⟩
      ·rw [HL.out] at h0;omega
      ·exact ⟨g,off,h1,h2⟩
     obtain ⟨T,hTe⟩:∃ T:ByteArray,(⟨t.toArray⟩:ByteArray)=T:=⟨_,rfl⟩
     have hent:encT t = .string T:=by unfold encT;rw [hTe]
     have y0:wr.cell? ⟨g,off+k,none⟩=some (.string T):=HR.out.1.cell (hcell k _ (by rw [gM,ht];exact congrArg some hent)) (fun h=>h);obtain ⟨t0,ht0⟩:=List.mem_iff_getElem?.1 (H8.out.1.mem_iff.1 (gm ht));obtain ⟨q0,hq0⟩:∃ q,vis[t0]? = some q:=⟨vis[t0]'(by rw [<- HI.out.len];exact (gi.1 ht0).1),ge _⟩
     obtain ⟨y,hy⟩:=HI.out.val t0 q0 t hq0 ht0;rw [hent] at hy
     have hlk:(Instr.lookup 80 (.map (some b)) (.string T) false).run prog wr = .ok y wr:=xjO (HM8.out.keep HR.out.1 (fun h=>h)) hy (fun e he=>by
      obtain ⟨i,hi⟩:=List.mem_iff_getElem?.1 he;obtain ⟨k,_,_,h3⟩:=HX.out.1 i e hi
      exact ⟨_,h3⟩) (fun e he h=>by
      obtain ⟨i,hi⟩:=List.mem_iff_getElem?.1 he;have:=HX.out.2.2.1 i q0 e _ hi hy h;subst this;rw [hi] at hy;cases hy
      rfl)
     have hji:=HX.out.2.2.2.2.2.1 q0 (gi.1 hy).1;have hlen:=HX.out.2.2.2.2.1;obtain ⟨u,hu⟩:∃ k,v.kids[2*j q0+1]? = some k:=⟨_,ge (by omega)⟩
     have hkw:Kept Nope w wr:=HW8.out.trans' HR.out.1
     have hts:T.size<=131072:=by
      obtain ⟨k1,h1,_,h3⟩:=HX.out.1 q0 _ hy;injection h3 with h3
      rw [h3];exact (HF.out.2.2.2 _ k1 h1).1.size
     have HTS:=hid hts;clear hts;have HU:=hid (aI hu (aI ((HX.out.2.1 q0 _ u hy hu).keep hkw (fun _ _ _ h=>h)) (aI (HX.out.2.2.2.2.2.2.nope hkw) (aI hy (aI ht (aI hent hTe))))));clear hcell ht hent ht0 hq0 hy hji hlen hu hkw hTe
     go_wp2_with (first
      | (at_builtin;go_must (refine xae _ rfl (.tmp 40) (.tmp 45) 23 rfl w8.heap.size 25 i2 _ 6 88 underlying23 hi2 hy0 hy1 hy2 rfl (by decide) _ _ _ rfl H4.out.1.own Any_ _ 2 ((xau 20 0 T).cells ++ (Lay.mk u' (.slice pk u'.kids.length ck) (.slice pd u'.desc.length cd)).cells) rfl (CSl.two_six (W:=w3.alloc (.cells (Lay.mk u' (.slice pk u'.kids.length ck) (.slice pd u'.desc.length cd)).cells.toArray 25)) (xau 20 0 T) (Lay.mk u' (.slice pk u'.kids.length ck) (.slice pd u'.desc.length cd)) (by simp)) H4.out.2.1 (by have:=HR.out.2.2.1;unfold maxLen;omega) (by have:=HR.out.2.2.1;omega) (HR.out.1.trans' H4.out.2.2.1).size ?_;intro v4 w4 hown hgrow hblk;have HN:=hid (aI hown (aI hgrow hblk));clear hown hgrow hblk))
      | (go_at_call 33;go_must (refine (HX.out.2.2.2.1 u (gm HU.out.1) _ _ HU.out.2.2.1 HU.out.2.1).mono ?_;rintro e w3 ⟨y3,b3,rfl,rfl,hk3,u',hv3,hlo3⟩;obtain ⟨ks3,ds3,rfl,g3⟩:=hv3;obtain ⟨pk,ck,rfl,_⟩:=g3.2.1.form;obtain ⟨pd,cd,rfl,_⟩:=g3.2.2.form;have hka:=((kR Nope w3).alloc (.cells (Lay.mk u' (.slice pk u'.kids.length ck) (.slice pd u'.desc.length cd)).cells.toArray 25)).alloc (.cells ((xau 20 0 T).cells ++ (Lay.mk u' (.slice pk u'.kids.length ck) (.slice pd u'.desc.length cd)).cells).toArray 25);have hone:∀ z ∈ (xau 20 0 T).cells ++ (Lay.mk u' (.slice pk u'.kids.length ck) (.slice pd u'.desc.length cd)).cells,z.oneCell'=true:=fun z hz=>(List.mem_append.1 hz).elim (xbt _ _ _ z) (xei _ rfl rfl z);have hrow3:=HR.out.2.1.nope (hk3.trans' hka);have hok3:=Lay.Ok.keep (a:=Lay.mk u' (.slice pk u'.kids.length ck) (.slice pd u'.desc.length cd)) g3 hka (fun _ _ _ h=>h);have H4:=hid (aI hrow3 (aI hone (aI (hk3.trans' hka) (aI hok3 hlo3))));clear hk3 g3 hlo3 hka hone hrow3 hok3;unfold vagg)))
     go_roundw
     case rel =>
      have hrow:∀ b,(Value.slice pq la.length cq).ownBlock=some b->w8.heap.size<=b/\b < wr.heap.size:=fun b hb=>HR.out.2.1.own.lt b hb
      have hp2:=H4.out.1.push2 (a:=xau 20 0 T) (c:=Lay.mk u' (.slice pk u'.kids.length ck) (.slice pd u'.desc.length cd)) (xjQ (by omega) (by omega) (by have:=HTS.out;unfold maxLen;omega)) (H4.out.2.2.2.1.mono fun b _ hb=>⟨fun e=>by have:=(hrow b e).2;have h3:wr.heap.size<=b:=hb;omega,fun h=>by have h3:wr.heap.size<=b:=hb;have:=HR.out.1.size;omega⟩) HN.out.1 HN.out.2.1 HN.out.2.2;have hall:=(HR.out.1.trans' H4.out.2.2.1).trans (xcj HN.out.2.1) (fun b hb e=>by have:=(hrow b e).1;omega);refine ⟨k+1,la ++ [xau 20 0 T,Lay.mk u' (.slice pk u'.kids.length ck) (.slice pd u'.desc.length cd)],by omega,by go_num,hid ⟨hall,hp2,by rw [lA,HR.out.2.2.1];simp;omega,fun i t' hi ht' => ?_⟩⟩;have h2:=HR.out.2.2.1
      rcases Nat.lt_or_ge i k with hlt | hge
      ·have h3:=HR.out.2.2.2 i t' hlt ht';rw [List.getElem?_append_left (by omega),List.getElem?_append_left (by omega)];exact h3
      ·obtain rfl:i=k:=by omega
       have h4:=HU.out.2.2.2.2.1;rw [ht'] at h4;cases h4;rw [List.getElem?_append_right (by omega),List.getElem?_append_right (by omega),h2,HU.out.2.2.2.2.2.2];refine ⟨by simp,_,by rw [show 2*i+1 - 2*i=1 by omega];rfl,fun q y' u1 hq hu1 => ?_⟩;rw [HU.out.2.2.2.2.2.1] at hq;have:=HX.out.2.2.1 q q0 _ _ hq HU.out.2.2.2.1 rfl;subst this;have h5:=HU.out.1;rw [hu1] at h5;cases h5;exact H4.out.2.2.2.2
     case measure=>simp [RowKit.intOf];omega
    ·obtain rfl:k=n:=by omega
     have hlt:¬ (k:Int) < (k:Int):=by omega
     go_wp2;go_ret2;have hne:k=es.length:=by rw [<- HL.out];exact HA.out.2
     have hkl:=HX.out.2.2.2.2.1;refine ⟨_,_,rfl,rfl,HW8.out.trans' HR.out.1,la.map Lay.v,VSl.ofOwn (S:=xaf w) HR.out.2.1.own (fun b hb=>Nat.le_trans HW8.out.size (HR.out.2.1.own.lt b hb).1) (fun a ha=>(HR.out.2.1.ok a ha).mono fun b _ hb=>by have:=hb.2;have:=HW8.out.size;show w.heap.size<=b;omega),?_⟩;refine xeh HF.out.1 HF.out.2.1 (m:=k) (by omega) (by rw [lM,HR.out.2.2.1]) fun i hi u u' hu hu' => ?_
     obtain ⟨hli,hji⟩:=HF.out.2.2.1 i (by omega);obtain ⟨e,he⟩:∃ e,es[l i]? = some e:=⟨_,ge hli⟩
     obtain ⟨k1,hk1,hk19,hkt⟩:=HX.out.1 (l i) e he;rw [hji,hu] at hk1;cases hk1;obtain ⟨t,ht⟩:=List.mem_iff_getElem?.1 (HA.out.1 (l i) hli);have htl:t < ts.length:=by rw [HI.out.len];exact (gi.1 ht).1
     have hpt:ts[t]? = some ts[t]:=ge htl;obtain ⟨y,hy⟩:=HI.out.val t (l i) _ ht hpt;have he2:=he;rw [hy] at he2;cases he2;have htx:u.text=⟨ts[t].toArray⟩:=by unfold encT at hkt;injection hkt with hkt;exact hkt.symm
     obtain ⟨r,hr⟩:=List.mem_iff_getElem?.1 (H8.out.1.mem_iff.2 (gm hpt));have hrl:r < k:=by have:=(gi.1 hr).1;rw [HLP.out,HL.out] at this;exact this
     obtain ⟨hla,a,hla2,hlo⟩:=HR.out.2.2.2 r _ hrl hr;have hgu:=HF.out.2.2.2 i u hu;refine ⟨r,_,_,by rw [gM,hla];rfl,by rw [gM,hla2];rfl,?_,hlo _ y u' hy (by rw [hji];exact hu')⟩;exact Same.of_fields hk19 (hgu.1.zero (.inr (by omega))) htx (hgu.1.leaf (by omega)) rfl hgu.2 rfl
  ·intro i a y w2 hi0 he hR hk2;obtain ⟨k,hk0,hk19,ha⟩:=HX.out.1 i _ he;simp only at ha;subst ha;obtain ⟨T,hT0⟩:∃ T,k.text=T:=⟨_,rfl⟩
   rw [hT0] at he ⊢;have heT:encT (bytesOf T) = .string T:=by unfold encT;rw [bytes_eta]
   have HT:=hid heT;have H2:=hid (aI hR (aI hk2 he));have hsz:=HI.out.rng.size_;have hsz2:=hR.size_;have hfew:=hR.few;rw [lA,List.length_singleton] at hsz2 hfew;have HM2:=hid (aI hsz (aI hsz2 hfew));have hka:=(kR Nope w2).alloc (.cells #[.string T] 9);have HROW:=hid (aI (xaB (xaB HI.out.row hk2 (fun q hq e=>HI.out.own_ner (by have e':q=w.heap.size:=e;rw [<- e'];exact hq))) hka (fun _ _ h=>h)) (Nat.le_trans HI.out.kept.size (Nat.le_trans hk2.size hka.size)));clear hR hk2 hi0 he hsz hsz2 hfew hk0 hk19 hT0 heT hka
   go_wp2_with (first
    | (at_builtin;go_must (refine xae _ rfl (.tmp 19) (.tmp 21) 153 rfl w.heap.size 9 i1 _ 1 16 underlying153 hi hz0 hz1 hz2 rfl (by decide) _ _ _ rfl HROW.out.1 Any_ _ 1 [.string T] rfl (CSl.one_str (W:=w2) T rfl) (by intro z hz;rw [List.mem_singleton.1 hz];rfl) (by unfold maxLen;omega) (by omega) HROW.out.2 ?_;intro v7 w7 hown hgrow _;have H7:=hid (HI.out.step (y:=y) H2.out.1 (by rw [HT.out];exact H2.out.2.2) H2.out.2.1 ((kR Nope w2).alloc _) (by rw [HT.out];exact hown) hgrow);clear hown hgrow))
    | (refine xbG rfl (.tmp 14) rfl rfl H2.out.1 H2.out.2.2 ?_))
   have hs7:=H7.out.rng.size_;rw [lA,List.length_singleton] at hs7;have h9:=HM2.out
   (try go_simp)
   go_roundw
   case rel=>exact ⟨_,_,H7⟩
   case measure=>omega
theorem xhC (w:World) (s:Value) (D bh:List UInt8) (n:Nat) (K:Int) (u:V) (hs:BSl Any_ w s D) (hlen:D.length < 4294967296) (hdrop:D.drop n=bh) (hT:Tabs w) (he:Eof w)
  (hU:∀ (W0 W:World) (r p:Nat) (y:Value),Buf W0 r y D 0->At_ W0 W r y D 0->W0.heap.size<=p->Blk W p 81 #[.map none]->Calls prog 48 #[.pointer (some ⟨p,0,none⟩),.pointer (some ⟨r,0,none⟩)] W (Gives fun e w'=>e = .nilIface/\At_ W0 w' r y D n/\∃ b,Blk w' p 81 #[.map (some b)]/\(Tabs w'->Calls prog 49 #[.int .i64 20,.map (some b)] w' (xac (xmn w' K u))))) :
  Calls prog 26 #[s] w (xdA w K u bh):=by
 have HW:=hid (aI hs (aI hT he));have HR:=hid (aI hlen hdrop);have HU:=hid hU;clear hlen hdrop hT he hU;obtain ⟨sa,sc,rfl,_⟩:=hs
 go_enter_defers func26,ntmps26
 go_wp2_with fail;obtain ⟨P,hP⟩:∃ P,w.heap.size=P:=⟨_,rfl⟩
 obtain ⟨W3,hW3⟩:∃ W3,((w.alloc (.cells #[.slice none 0 0] 23)).alloc (.cells #[.slice none 0 0] 26)).alloc (.cells #[.bool false] 4)=W3:=⟨_,rfl⟩
 have hB:=xco w P hP W3 hW3;rw [hW3,hP];have HB:=hid hB;clear hB hW3 hP
 go_wp2_with (first
  | (go_at_call 49;go_must (refine (H3.out.2.2.2 (HW.out.2.1.nope H3.out.2.1)).mono ?_;rintro e w4 ⟨y4,b4,rfl,rfl,hk4,l',hv4,hlo4⟩;obtain ⟨py,cy,rfl,_⟩:=hv4.form;have hq4:=H3.out.2.2.1.keep hk4;have H4:=hid (aI hk4 (aI hv4 (aI hlo4 hq4)));have c40:=hq4.b0.cell 0;have c41:=hq4.b1.cell 0;have c42:=hq4.b2.cell 0;have f40:=hq4.b0.frozen 0;have f41:=hq4.b1.frozen 0;have f42:=hq4.b2.frozen 0;simp only [gt,gz] at c40 c41 c42;clear hk4 hlo4 hq4 hv4))
  | (go_at_call 48;go_must (refine (HU.out w2 _ w1.heap.size w2.heap.size _ H2.out.1 ((At_.refl H2.out.1).nope ((kR Nope w2).alloc _)) (Nat.le_refl _) (Blk.new w2 _ _)).mono ?_;rintro e w3 ⟨_,rfl,rfl,hA3,b,hb3,hv3⟩;have c30:=hb3.cell 0;simp only [gt,gz] at c30;have hq3:=(HB.out.2.2.1.keep (H1.out.2.trans' H2.out.2)).keepO hA3.kept (by have h1:=H1.out.2.size;have h2:=HB.out.2.1;omega);have hkw3:Kept Nope w w3:=(HB.out.1.trans' (H1.out.2.trans' H2.out.2)).trans hA3.kept (fun k hk e=>by have e':k=w1.heap.size:=e;have h2:=(HB.out.1.trans' H1.out.2).size;omega);have H3:=hid (aI hA3 (aI hkw3 (aI hq3 hv3)));clear hA3 hb3 hv3 hq3 hkw3))
  | (go_at_call 30;go_must (refine (xes _ _ _ _).mono ?_;rintro e w2 ⟨rfl,hw2⟩;have H2:=hid (aI (hw2.symm ▸ Buf.fresh (w:=W3) (HW.out.2.2.nope HB.out.1) H1.out.2 H1.out.1 (by have:=HR.out.1;omega)) (hw2.symm ▸ (kR Nope w1).alloc (.cells #[.slice ya D.length yc,.int .i64 0] 92):Kept Nope w1 w2));clear hw2))
  | (go_at_call 31;go_must (refine (xbh Any_ _ _ D (HW.out.1.keep HB.out.1 (fun _ _ _ h=>h)) (by have:=HR.out.1;omega)).mono ?_;rintro e w1 ⟨y1,rfl,hy1,hk1⟩;have hf1:=hy1;obtain ⟨ya,yc,rfl,_⟩:=hf1;have H1:=hid (aI hy1 hk1);clear hy1 hk1)))
 clear c40 c41 c42 f40 f41 f42;obtain ⟨W5,hW5⟩:∃ W5,(w4.setCell ⟨P,0,none⟩ (.slice py l'.length cy)).setCell ⟨P+1+1,0,none⟩ (.bool true)=W5:=⟨_,rfl⟩
 have hq5:Three W5 P (.slice py l'.length cy) (.slice none 0 0) (.bool true):=hW5 ▸ H4.out.2.2.2.store02 _ _;have hk5:Kept (xcw P) w4 W5:=hW5 ▸ xcR w4 P _ _
 (try rw [hW5])
 have hs1:=H1.out.2.size;have hs2:=H2.out.2.size;have hs3:=H3.out.1.kept.size;have hPs:=HB.out.2.1;have hBu:Buf W5 w1.heap.size (.slice ya D.length yc) D n:=(H3.out.1.buf.nope H4.out.1).keepQ hk5 (fun e=>by have e':P<=w1.heap.size/\w1.heap.size < P+3:=e;omega) (((((H1.out.1.mono (S':=fun b=>W3.heap.size<=b/\b < w1.heap.size) fun b hb hS=>⟨hS,hb⟩).keep H2.out.2 (fun _ _ _ h=>h)).keep H3.out.1.kept (fun b _ hb e=>by have e':b=w1.heap.size:=e;omega)).keep H4.out.1 (fun _ _ _ h=>h)).mono fun b _ hb=>⟨by omega,fun e=>by have e':P<=b/\b < P+3:=e;omega⟩) (fun e=>by have e':P<=0/\0 < P+3:=e;have:=HW.out.2.2.lt;have:=HB.out.2.2.2;omega);have hkw5:Kept Nope w W5:=(H3.out.2.1.trans' H4.out.1).trans hk5 (fun k hk e=>by have e':P<=k/\k < P+3:=e;have:=HB.out.2.2.2;omega);have hv5:=H4.out.2.1.keep hk5 (fun b _ hb e=>by have e':P<=b/\b < P+3:=e;have hb':w3.heap.size<=b:=hb;omega);have hz5:P+3<=W5.heap.size:=by have:=hk5.size;have:=H4.out.1.size;omega
 have H5:=hid (aI hq5 (aI hBu (aI hkw5 (aI hv5 hz5))));have HS:=hid (aI hs1 (aI hs2 (aI hs3 hPs)));clear hq5 hk5 hs1 hs2 hs3 hPs hBu hkw5 hv5 hW5 hz5
 go_region_held3 (fun w'=>w'.cell? ⟨P,0,none⟩=some (.slice py l'.length cy)) (first | with_reducible exact H5.out.1.drew.cell0 | with_reducible exact (H5.out.1.drew.drewN k8).cell0 | with_reducible exact (H5.out.1.drewN (1+k8)).cell0 | with_reducible exact H9.out.2.2.1.cell0 | with_reducible exact HA.out.1.cell0 | with_reducible exact (HA.out.2.1 _).cell0 | with_reducible exact (HA.out.2.2.1 _).cell0 | fail) (first
  | (go_at_call 31;go_must (refine (xbh Any_ _ _ bh H8.out.2 H8.out.1).mono ?_;rintro e w9 ⟨y9,rfl,hy9,hk9⟩;have hf9:=hy9;obtain ⟨y9p,y9c,rfl,_⟩:=hf9;have hKK:Kept Nope W5 w9:=((kR Nope W5).drewN (1+k8)).trans' hk9;have g:=H5.out.1.keep hKK;have c90:=g.b0.cell 0;have f90:=g.b0.frozen 0;have c91:=g.b1.cell 0;have f91:=g.b1.frozen 0;have c92:=g.b2.cell 0;have f92:=g.b2.frozen 0;simp only [gt,gz] at c90 c91 c92;have HA:=hid (aI (g.set0 (.slice py l'.length cy)) (aI (fun y=>(g.set0 (.slice py l'.length cy)).set1 y) (aI (fun y=>((g.set0 (.slice py l'.length cy)).set1 y).set2 (.bool true)) True.intro)));have H9:=hid (aI hy9 (aI hKK (aI g True.intro)));clear hy9 hk9 hKK g))
  | (go_at_call 34;(refine (xbJ w1.heap.size _ D n _ (H5.out.2.1.nope ((kR Nope W5).drew))).mono ?_;rintro e w8 ⟨x8,rfl,hb8,k8,rfl⟩;rw [HR.out.2] at hb8;have hf8:=hb8;obtain ⟨x8p,x8c,rfl,_⟩:=hf8;have H8:=hid (aI (show bh.length<=1099511627776 by have h1:=HR.out.2;have h2:=HR.out.1;rw [<- h1,List.length_drop];omega) ((hb8.mono (S':=Any_) fun _ _ _=>trivial).keep (show Kept Nope W5.drew (W5.drewN (1+k8)) from ⟨rfl,rfl,rfl,Nat.le_refl _,fun _ _ _=>rfl⟩) (fun _ _ _ h=>h)));clear hb8)))
 have hqz:=HA.out.2.2.1 (.slice y9p bh.length y9c);have hkz:=xbr w9 P (.slice py l'.length cy) (.slice y9p bh.length y9c) (.bool true);have hsw:=HB.out.2.2.2;have hsP:=HB.out.2.1;have h31:=HS.out.1;have h32:=HS.out.2.1;have h33:=HS.out.2.2.1;have h34:=H4.out.1.size;have h35:=H5.out.2.2.1.size;have kz:=(H5.out.2.2.1.trans' H9.out.2.1).trans hkz (fun k hk e=>by have e':P<=k/\k < P+3:=e;omega);have vz:=((H5.out.2.2.2.1.keep H9.out.2.1 (fun _ _ _ h=>h)).keep hkz (fun b _ hb e=>by have e':P<=b/\b < P+3:=e;have hb':w3.heap.size<=b:=hb;omega)).mono (S':=xaf w) fun b _ hb=>by have hb':w3.heap.size<=b:=hb;show w.heap.size<=b;omega
 have yz:=(H9.out.1.keep hkz (fun b _ hb e=>by have e':P<=b/\b < P+3:=e;have hb':(W5.drewN (1+k8)).heap.size<=b:=hb;have h36:W5.heap.size<=b:=hb';have:=H5.out.2.2.2.2;omega)).mono (S':=xaf w) fun b _ hb=>by have h36:W5.heap.size<=b:=hb;have:=H5.out.2.2.2.2;show w.heap.size<=b;omega
 go_wp2;refine leaves_cons (f:=40) (args:=#[.pointer (some ⟨P,0,none⟩),.pointer (some ⟨P+1,0,none⟩),.pointer (some ⟨P+1+1,0,none⟩)]) (by simp) (by simp [go_sem]) ?_;refine (xbq _ _ _ _).mono ?_;rintro e u' w'' ⟨rfl,rfl,rfl⟩;exact ret3 _ rfl _ _ _ P _ _ _ rfl rfl rfl hqz ⟨_,_,rfl,kz,⟨l',vz,H4.out.2.2.1⟩,yz⟩
theorem xhD (w:World) (s:Value) (D:List UInt8) (hs:BSl Any_ w s D) (hlen:D.length < 4294967296) (he:Eof w)
  (hU:∀ (W0 W:World) (r p:Nat) (y:Value),Buf W0 r y D 0->At_ W0 W r y D 0->Calls prog 48 #[.pointer (some ⟨p,0,none⟩),.pointer (some ⟨r,0,none⟩)] W (Gives fun e w'=>xbC e/\Kept (Only r) W w')) :
  Calls prog 26 #[s] w (xiN w):=by
 have HW:=hid (aI hs he);have HR:=hid hlen;have HU:=hid hU;clear hlen he hU;obtain ⟨sa,sc,rfl,_⟩:=hs
 go_enter_defers func26,ntmps26
 go_wp2_with fail;obtain ⟨P,hP⟩:∃ P,w.heap.size=P:=⟨_,rfl⟩
 obtain ⟨W3,hW3⟩:∃ W3,((w.alloc (.cells #[.slice none 0 0] 23)).alloc (.cells #[.slice none 0 0] 26)).alloc (.cells #[.bool false] 4)=W3:=⟨_,rfl⟩
 have hB:=xco w P hP W3 hW3;rw [hW3,hP];have HB:=hid hB;clear hB hW3 hP
 go_wp2_with (first
  | (go_at_call 48;go_must (refine (HU.out w2 _ w1.heap.size w2.heap.size _ H2.out.1 ((At_.refl H2.out.1).nope ((kR Nope w2).alloc _))).mono ?_;rintro e w3 ⟨_,rfl,⟨T3,z3,rfl⟩,hk3⟩;have hkA:=((kR Nope w2).alloc (.cells #[.map none] 81));have hq3:=(HB.out.2.2.1.keep ((H1.out.2.trans' H2.out.2).trans' hkA)).keepO hk3 (by have h1:=H1.out.2.size;have h2:=HB.out.2.1;omega);have hkw3:Kept Nope w w3:=(HB.out.1.trans' ((H1.out.2.trans' H2.out.2).trans' hkA)).trans hk3 (fun k hk e=>by have e':k=w1.heap.size:=e;have h2:=(HB.out.1.trans' H1.out.2).size;omega);have H3:=hid (aI hkw3 hq3);have c40:=hq3.b0.cell 0;have c41:=hq3.b1.cell 0;have c42:=hq3.b2.cell 0;have f40:=hq3.b0.frozen 0;have f41:=hq3.b1.frozen 0;have f42:=hq3.b2.frozen 0;simp only [gt,gz] at c40 c41 c42;clear hk3 hkA hq3 hkw3))
  | (go_at_call 30;go_must (refine (xes _ _ _ _).mono ?_;rintro e w2 ⟨rfl,hw2⟩;have H2:=hid (aI (hw2.symm ▸ Buf.fresh (w:=W3) (HW.out.2.nope HB.out.1) H1.out.2 H1.out.1 (by have:=HR.out;omega)) (hw2.symm ▸ (kR Nope w1).alloc (.cells #[.slice ya D.length yc,.int .i64 0] 92):Kept Nope w1 w2));clear hw2))
  | (go_at_call 31;go_must (refine (xbh Any_ _ _ D (HW.out.1.keep HB.out.1 (fun _ _ _ h=>h)) (by have:=HR.out;omega)).mono ?_;rintro e w1 ⟨y1,rfl,hy1,hk1⟩;have hf1:=hy1;obtain ⟨ya,yc,rfl,_⟩:=hf1;have H1:=hid (aI hy1 hk1);clear hy1 hk1)))
 have hk5:=xbr w3 P (.slice none 0 0) (.slice none 0 0) (.bool false);have hq5:=((H3.out.2.set0 (.slice none 0 0)).set1 (.slice none 0 0)).set2 (.bool false);have kz:Kept Nope w (((w3.setCell ⟨P,0,none⟩ (.slice none 0 0)).setCell ⟨P+1,0,none⟩ (.slice none 0 0)).setCell ⟨P+1+1,0,none⟩ (.bool false)):=H3.out.1.trans hk5 (fun k hk e=>by have e':P<=k/\k < P+3:=e;have:=HB.out.2.2.2;omega);go_wp2;refine leaves_cons (f:=40) (args:=#[.pointer (some ⟨P,0,none⟩),.pointer (some ⟨P+1,0,none⟩),.pointer (some ⟨P+1+1,0,none⟩)]) (by simp) (by simp [go_sem]) ?_;refine (xbq _ _ _ _).mono ?_;rintro e u' w'' ⟨rfl,rfl,rfl⟩;exact ret3 _ rfl _ _ _ P _ _ _ rfl rfl rfl hq5 ⟨rfl,kz⟩
theorem mix_even {l:List V} {i:Nat}:(mix l l.length)[2*i]? = l[2*i]? := by
 unfold mix;rw [List.getElem?_mapIdx]
 cases hi:l[2*i]? with
 | none=>rfl
 | some y =>
  have:=(gi.1 hi).1;simp only [Option.map_some];rw [if_pos (by omega)]
theorem mix_odd {l:List V} {i:Nat}:(mix l l.length)[2*i+1]? = (l.map asRead)[2*i+1]? := by
 unfold mix;rw [List.getElem?_mapIdx,gM]
 cases hi:l[2*i+1]? with
 | none=>rfl
 | some y =>
  simp only [Option.map_some];rw [if_neg (by omega)]
theorem xkF {k:V} (h:k.kind=20):xkk k:=fun W x _ hx=>by
 cases hx with
 | scal h1=>unfold xaj at h1;omega
 | _=>omega
theorem xjD {v:V} (hg:Good v) (hu:Utf (asRead v)) (h22:v.kind=22) (hK:xeo 20 v) {w:World} {b:Nat} {es:List (Value × Value)} (hm:MapAt w b es) (hl:es.length=v.kids.length / 2)
  (hk:∀ (i:Nat) (e:Value × Value) (u:V),es[i]? = some e->(v.kids.map asRead)[2*i]? = some u->e.1 = .string u.text) (hx:∀ (i:Nat) (e:Value × Value) (u:V),es[i]? = some e->(v.kids.map asRead)[2*i+1]? = some u->AnyV Any_ w e.2 u) (hT:Tabs w) :
  Calls prog 49 #[.int .i64 20,.map (some b)] w (xac (xmn w 22 (xcJ v))):=by
 have hev:=xqa hg h22;have hn:(xcJ v).kids.length=v.kids.length:=xgM _ _;have hev2:∀ (i:Nat) (k:V),(xcJ v).kids[2*i]? = some k->v.kids[2*i]? = some k:=fun i k h=>by rw [<- mix_even];exact h
 have hodd:∀ (i:Nat) (k:V),(xcJ v).kids[2*i+1]? = some k->(v.kids.map asRead)[2*i+1]? = some k:=fun i k h=>by rw [<- mix_odd];exact h
 refine xjB (xcJ v) w b es (fun i=>i) (fun i=>i) (xgX h22) hg.desc hm (by rw [hn];omega) (fun _ h=>h) (fun _ h=>⟨h,rfl⟩) (fun i e k h1 h2=>⟨hK i k (hev2 i k h2),?_⟩) (fun i e k h1 h2=>hx i e k h1 (hodd i k h2)) (fun i k h => ?_) (fun i i' k k' h h' ht _ _=>texts_apart hg h22 (fun i k h => .inr (hK i k h)) (hev2 i k h) (hev2 i' k' h') ht) (by rw [hn];exact hg.tidy.few) hT (fun k hk => ?_)
 ·have h3:=hk i e (asRead k) h1 (by rw [gM,hev2 i k h2];rfl);rwa [xaS] at h3
 ·have hgu:=hg.kid (gm (hev2 i k h));exact ⟨hgu.tidy,hgu.desc⟩
 ·obtain ⟨i,hi⟩:=List.mem_iff_getElem?.1 hk
  rcases (show i=2*(i / 2)\/i=2*(i / 2)+1 by omega) with h | h <;> rw [h] at hi
  ·exact xkF (hK _ k (hev2 _ k hi))
  ·exact xjR hg hu (by omega) k (gm (hodd _ k hi))
theorem xdx {v:V} {bs bh D:List UInt8} (w:World) (s:Value) (hD:D=bs ++ bh) (hs:BSl Any_ w s D) (hg:Good v) (hu:Utf (asRead v)) (h22:v.kind=22) (hK:xeo 20 v) (hE:Enc v bs) (hlen:D.length < 4294967296) (hT:Tabs w) (he:Eof w) :
  Calls prog 26 #[s] w (xdA w 22 (xcJ v) bh):=by
 subst hD;refine xhC w s (bs ++ bh) bh bs.length 22 (xcJ v) hs hlen (by simp) hT he fun W0 W r p y hB hA hp hb => ?_
 refine (mapSymUn_all r y (bs ++ bh) W0 W p 0 _ v bs hg h22 (fun i k h => .inr (hK i k h)) hlen hE (xoM bs bh) hB hA hp hb).mono ?_;rintro e w' ⟨_,rfl,rfl,hA',b,es,hx,_,hm,hl,hk,hv⟩;exact ⟨_,rfl,rfl,hA',b,hx,fun hT'=>xjD hg hu h22 hK hm hl hk (fun i e u h1 h2=>(hv i e u h1 h2).mono fun _ _=>trivial) hT'⟩
theorem xcV {v:V} {D:List UInt8} (w:World) (s:Value) (hs:BSl Any_ w s D) (hR:xbY 22 v D) (hlen:D.length < 4294967296) (he:Eof w):Calls prog 26 #[s] w (xiN w) :=
 xhD w s D hs hlen he fun W0 W r p y _ hA=>xlg W0 W r y D 0 p hA fun W2 h2=>xdl r y D W2 hR h2
theorem xmV:∀ (n:Nat) (v:V),SizeOf.sizeOf v<=n->Good v->xdz v:=by
 intro n
 induction n using Nat.strongRecOn with
 | _ n ih =>
  intro v hv hg;exact .mk hg.desc hg.tidy.few fun k hk=>ih (SizeOf.sizeOf k) (by have:=V.sizeOf_kid hk;omega) k (Nat.le_refl _) (hg.kid hk)
theorem xoK {v:V} (hg:Good v):xdz (xcJ v):=.mk hg.desc (by show (mix v.kids v.kids.length).length<=1000;rw [xgM];exact hg.tidy.few) fun k hk=>by
 obtain ⟨i,hi⟩:=List.mem_iff_getElem?.1 (show k ∈ mix v.kids v.kids.length from hk);unfold mix at hi;rw [List.getElem?_mapIdx] at hi;obtain ⟨x,hx,rfl⟩:=Option.map_eq_some_iff.1 hi;have hgx:=hg.kid (gm hx)
 split
 ·exact xmV _ x (Nat.le_refl _) hgx
 ·exact xci _ x (Nat.le_refl _) hgx
theorem xhx (w:World) (s:Value) (hs:BSl Any_ w s [193,5,2,163,1,97,65]) (hT:Tabs w) (he:Eof w):Calls prog 26 #[s] w fun e w'=>∃ b off c rx,e = .returned (.tuple #[.slice (some ⟨b,off,none⟩) 2 c,rx,.bool true])/\2<=c/\w'.cell? ⟨b,off+2,none⟩=some (.string ⟨#[97]⟩)/\Kept Nope w w' :=
 (xdx (v:=xdO 20) (bs:=[193,5,2,163,1,97,65]) (bh:=[]) w s rfl hs (xga (by decide)) (xhF _) rfl (xlq 20) xid (by decide) hT he).mono fun _ _ h=>xfU (a:=kA 20) (b:=asRead xdf) h (xgX rfl) ((rfl:(xcJ (xdO 20)).kids=[kA 20,asRead xdf])) (rfl)
theorem xov (w:World) (x:Value) (v:V) (st cut:Int) (xb:Value) (bh:List UInt8) (h:xiq w x v st cut xb bh) (hT:Tabs w) (he:Eof w):Calls prog 7 #[x] w fun e w'=>e = .returned (.bool true)/\Kept Nope w w':=by
  obtain ⟨⟨a0,a1,a2,a3,a4,a5,rfl,hv⟩,hst,hcut,hb⟩:=h;have hv':=hv;obtain ⟨kv,dv,e,hnv,hkv,hdv⟩:=hv';obtain ⟨pkv,ckv,rfl,_⟩:=hkv.form;obtain ⟨pdv,cdv,rfl,_⟩:=hdv.form;unfold vagg at e;simp only [Value.agg.injEq,Array.mk.injEq,List.cons.injEq,and_true] at e;obtain ⟨rfl,rfl,rfl,rfl,rfl,rfl⟩:=e;have HD:=hid (aI hv (aI hb (aI hT (aI he (aI hst (aI hcut hnv))))));obtain ⟨bp,bc,rfl,_⟩:=hb;clear hv hkv hdv hnv hT he hst hcut;obtain ⟨nl,hnl⟩:∃ n,v.kids.length=n:=⟨_,rfl⟩
  obtain ⟨nd,hnd⟩:∃ n,v.desc.length=n:=⟨_,rfl⟩
  obtain ⟨nb,hnb⟩:∃ n,bh.length=n:=⟨_,rfl⟩
  rw [hnl,hnd,hnb] at HD ⊢;have HNN:=hid (aI hnl (aI hnd hnb));clear hnl hnd hnb;obtain ⟨kd,hkd⟩:∃ k,v.kind=k:=⟨_,rfl⟩
  rw [hkd] at HD ⊢;have HKD:=hid hkd;clear hkd;go_enter func7,ntmps7;go_wp2_with fail;obtain ⟨P,hP⟩:∃ P,w.heap.size=P:=⟨_,rfl⟩
  obtain ⟨W1,hW1⟩:∃ W1,w.alloc (.cells #[.int .i64 kd,.int .u64 v.num,.string v.text,.slice pkv nl ckv,.int .i64 v.of_,.slice pdv nd cdv,.int .u64 st,.slice bp nb bc,.int .i64 cut] 39)=W1:=⟨_,rfl⟩
  have hB0:Blk W1 P 39 #[.int .i64 kd,.int .u64 v.num,.string v.text,.slice pkv nl ckv,.int .i64 v.of_,.slice pdv nd cdv,.int .u64 st,.slice bp nb bc,.int .i64 cut]:=by rw [<- hW1,<- hP];exact Blk.new w 39 _
  have hK1:Kept Nope w W1:=by rw [<- hW1];exact (kR Nope w).alloc _
  rw [hW1]
  (try rw [hP])
  have HB:=hid (aI hB0 (aI hK1 hP));clear hB0 hK1 hW1 hP;refine (xdj _ _ _ _ _ _ _ _ _ _ _ _).mono ?_;rintro e w1 ⟨b1,rfl,hk1⟩;have K1:=hid (HB.out.2.1.trans' hk1);have J1:=hid hk1;clear hk1;obtain ⟨c0,c1,c2,c3,c4,c5,c6,c7,c8⟩:=nine HB.out.1 J1.out;cases b1
  case false =>
    go_wp2;go_ret;exact ⟨rfl,K1.out⟩
  go_wp2_with fail;refine (xhx _ _ (xeZ w1 _ [193,5,2,163,1,97,65] (by decide)) (HD.out.2.2.1.nope (K1.out.alloc _)) (HD.out.2.2.2.1.nope (K1.out.alloc _))).mono ?_;rintro e w2 ⟨tb,toff,tc,rx2,rfl,htc,t0,hk2⟩;have K2:=hid ((K1.out.alloc _).trans' hk2);have J2:=hid ((J1.out.alloc _).trans' hk2);clear hk2 c0 c1 c2 c3 c4 c5 c6 c7 c8;obtain ⟨c0,c1,c2,c3,c4,c5,c6,c7,c8⟩:=nine HB.out.1 J2.out;go_wp2_with fail;clear t0;refine (xgP _ v _ _ _ _ _ _ _ st cut bh (HD.out.1.keep K2.out (fun _ _ _ h=>h)) (by have:=HD.out.2.2.2.2.1;omega) HD.out.2.2.2.2.2.1 (HD.out.2.1.keep K2.out (fun _ _ _ h=>h)) (HD.out.2.2.1.nope K2.out)).mono ?_;intro e w3 h3;obtain ⟨hk3,⟨x3,y3,cc,rfl⟩ | ⟨x3,y3,cc,rfl,hg3⟩⟩:=h3.one
  . have K3:=hid (K2.out.trans' hk3)
    have J3:=hid (J2.out.trans' hk3);clear hk3 h3 c0 c1 c2 c3 c4 c5 c6 c7 c8;obtain ⟨c0,c1,c2,c3,c4,c5,c6,c7,c8⟩:=nine HB.out.1 J3.out;go_wp2;go_ret;exact ⟨rfl,K3.out.alloc _⟩
  have HG:=hid hg3;have K3:=hid (K2.out.trans' hk3);have J3:=hid (J2.out.trans' hk3);clear hk3 h3 hg3 c0 c1 c2 c3 c4 c5 c6 c7 c8;obtain ⟨c0,c1,c2,c3,c4,c5,c6,c7,c8⟩:=nine HB.out.1 J3.out;go_wp2_with fail;obtain ⟨Q,hQ⟩:∃ Q,w3.heap.size=Q:=⟨_,rfl⟩
  obtain ⟨W4,hW4⟩:∃ W4,w3.alloc (.cells #[.int .i64 kd,.int .u64 v.num,.string v.text,.slice pkv nl ckv,.int .i64 v.of_,.slice pdv nd cdv] 25)=W4:=⟨_,rfl⟩
  have KV:Hid (Kept Nope w W4):=hid (hW4 ▸ K3.out.alloc _);have LV:Hid (Kept Nope w3 W4):=hid (hW4 ▸ (kR Nope w3).alloc _);have HV:Hid (Blk W4 Q 25 #[.int .i64 kd,.int .u64 v.num,.string v.text,.slice pkv nl ckv,.int .i64 v.of_,.slice pdv nd cdv]):=hid (hW4 ▸ hQ ▸ Blk.new w3 25 _);rw [hW4]
  (try rw [hQ])
  clear hW4 hQ c0 c1 c2 c3 c4 c5 c6 c7 c8;obtain ⟨d0,d1,d2,d3,d4,d5⟩:=xaL HV.out (kR _ _);refine (xdk v _ _ (HD.out.1.keep KV.out (fun _ _ _ h=>h)) (HD.out.2.2.1.nope KV.out)).mono ?_;rintro e w4 ⟨⟨rfl,hsv⟩ | rfl,hk4⟩
  case inr =>
    have K4:=hid (KV.out.trans' hk4);clear hk4;go_wp2;go_ret;exact ⟨rfl,K4.out⟩
  have HSV:=hid hsv;have K4:=hid (KV.out.trans' hk4);have J4:=hid hk4;clear hk4 hsv d0 d1 d2 d3 d4 d5;obtain ⟨d0,d1,d2,d3,d4,d5⟩:=xaL HV.out J4.out;go_wp2_with fail;refine (xbN v _ _ (HD.out.1.keep K4.out (fun _ _ _ h=>h))).mono ?_;rintro e w5 ⟨rfl | ⟨rfl,hy5⟩,hk5⟩
  case inl =>
    have K5:=hid (K4.out.trans' hk5);clear hk5;go_wp2;go_ret;exact ⟨rfl,K5.out⟩
  have HY:=hid hy5;have K5:=hid (K4.out.trans' hk5);have J5:=hid (J4.out.trans' hk5);have L5:=hid (LV.out.trans' J5.out);clear hk5 hy5 d0 d1 d2 d3 d4 d5;obtain ⟨d0,d1,d2,d3,d4,d5⟩:=xaL HV.out J5.out;obtain ⟨hf,hcn,hdn,hbl,bs,D,hE,hx,hD⟩:=HG.out;have hlb:=xfa hf hcn hE;have HE:=hid (aI hf (aI hdn (aI hE hlb)));have HX:=hid (hx.keep L5.out (fun _ _ _ h=>h));have HDD:=hid hD;have HBL:=hid hbl;clear hf hcn hdn hbl hE hx hD hlb HG;have hl:bs.length < 4294967296:=by have:=HE.out.2.2.2;omega
  have hDl:D.length < 4294967296:=by
    have h1:=HE.out.2.2.2;have h2:=HBL.out
    rcases HDD.out with ⟨_,m,hm,h3⟩ | ⟨_,h3,_⟩ <;> rw [h3] <;> simp <;> omega
  have HDL:=hid (aI hDl hl);clear hDl hl;have hxf:=HX.out;obtain ⟨xp,xc,rfl,_⟩:=hxf
  by_cases hkk:kd=22
  . subst hkk
    go_wp2_with fail;refine (xgt v _ _ _ [20] ((HD.out.1.keep K5.out (fun _ _ _ h=>h)).keep ((kR Nope w5).alloc _) (fun _ _ _ h=>h)) HE.out.1.own.few (xfV w5 _ [20] (by decide))).mono ?_;rintro e w6 ⟨⟨rfl,_,hks⟩ | rfl,hk6⟩
    case inr =>
      have K6:=hid ((K5.out.alloc _).trans' hk6);clear hk6;go_wp2;go_ret;exact ⟨rfl,K6.out⟩
    have HKS:=hid hks;have K6:=hid ((K5.out.alloc _).trans' hk6);have J6:=hid ((J5.out.alloc _).trans' hk6);have L6:=hid ((L5.out.alloc _).trans' hk6);have HX6:=hid ((HX.out.keep ((kR Nope w5).alloc _) (fun _ _ _ h=>h)).keep hk6 (fun _ _ _ h=>h));clear hk6 hks d0 d1 d2 d3 d4 d5;obtain ⟨d0,d1,d2,d3,d4,d5⟩:=xaL HV.out J6.out;cases cc
    case true =>
      have hR:xbY 22 v D:=by
        rcases HDD.out with ⟨_,m,hm,h2⟩ | ⟨h1,_⟩
        . exact ⟨bs,HE.out.2.2.1,HE.out.2.1,HDL.out.2,.inl ⟨m,hm,h2⟩⟩
        . cases h1
      have HR:=hid hR;clear hR;go_wp2_with fail;refine (xcV _ _ HX6.out HR.out HDL.out.1 (HD.out.2.2.2.1.nope K6.out)).mono ?_;rintro e w7 ⟨rfl,hk7⟩;have K7:=hid (K6.out.trans' hk7);clear hk7;go_wp2;go_ret;exact ⟨rfl,K7.out⟩
    have hdy:D=bs ++ bh/\BSl Any_ w3 y3 bh:=by
      rcases HDD.out with ⟨h1,_⟩ | ⟨_,h2,h3⟩
      . cases h1
      . exact ⟨h2,h3⟩
    have hyf:=hdy.2;obtain ⟨yp,yc,rfl,_⟩:=hyf;have HYB:=hid hdy;have HGD:=hid (xds HD.out.1.nums HSV.out HY.out);have HKY:=hid (show xeo 20 v from fun i x hx=>List.mem_singleton.1 (HKS.out i x hx));clear hdy;go_wp2_with fail;refine (xdx (v:=v) (bs:=bs) (bh:=bh) _ _ HYB.out.1 HX6.out HGD.out (xeU HSV.out) HKD.out HKY.out HE.out.2.2.1 HDL.out.1 (HD.out.2.2.1.nope K6.out) (HD.out.2.2.2.1.nope K6.out)).mono ?_;rintro e w7 ⟨lx,rx,rfl,hk7,⟨l',hl7,hlo7⟩,hr7⟩;obtain ⟨lp,lc,rfl,_⟩:=hl7.form;have H7:=hid (aI hl7 (aI hlo7 hr7));have K7:=hid (K6.out.trans' hk7);have J7:=hid (J6.out.trans' hk7);have L7:=hid (L6.out.trans' hk7);clear hk7 hl7 hlo7 hr7 d0 d1 d2 d3 d4 d5;obtain ⟨d0,d1,d2,d3,d4,d5⟩:=xaL HV.out J7.out;go_wp2_with fail;refine (xft v HKD.out (xcv _ v (Nat.le_refl _) HE.out.1) _ _ (HD.out.1.keep K7.out (fun _ _ _ h=>h)) HE.out.1.own.few).mono ?_;rintro e w8 ⟨y8,rfl,hv8,hk8⟩;have H8:=hid hv8;have K8:=hid (K7.out.trans' hk8);have L8:=hid (L7.out.trans' hk8);have M8:=hid (aI (H7.out.1.keep hk8 (fun _ _ _ h=>h)) (H7.out.2.2.keep hk8 (fun _ _ _ h=>h)));clear hv8 hk8;go_wp2_with fail;refine (xbX (xoK HGD.out) H7.out.2.1 H8.out ((xeC 22 (by decide) M8.out.1).mono fun _ _ _=>trivial)).mono ?_;rintro e w9 ⟨rfl,hk9⟩;have K9:=hid (K8.out.trans' hk9);have M9:=hid (aI ((M8.out.2.keep hk9 (fun _ _ _ h=>h)).mono (S':=Any_) fun _ _ _=>trivial) (HYB.out.2.keep (L8.out.trans' hk9) (fun _ _ _ h=>h)));clear hk9;go_wp2_with fail;refine (left_ok _ _ _ bh M9.out.1 M9.out.2).mono ?_;rintro e w10 ⟨rfl,rfl⟩;go_wp2;go_ret;exact ⟨rfl,K9.out⟩
  . have hkb:(kd == 22)=false:=by simpa using hkk
    have hR:xbY 22 v D:=by
      rcases HDD.out with ⟨_,m,hm,h2⟩ | ⟨_,h2,_⟩
      . exact ⟨bs,HE.out.2.2.1,HE.out.2.1,HDL.out.2,.inl ⟨m,hm,h2⟩⟩
      . exact ⟨bs,HE.out.2.2.1,HE.out.2.1,HDL.out.2,.inr ⟨by rw [HKD.out];exact hkk,bh,h2⟩⟩
    have HR:=hid hR;clear hR hkk;go_wp2_with fail;refine (xcV _ _ HX.out HR.out HDL.out.1 (HD.out.2.2.2.1.nope K5.out)).mono ?_;rintro e w6 ⟨rfl,hk6⟩;have K6:=hid (K5.out.trans' hk6);have J6:=hid (J5.out.trans' hk6);clear hk6 d0 d1 d2 d3 d4 d5;obtain ⟨d0,d1,d2,d3,d4,d5⟩:=xaL HV.out J6.out;cases cc
    all_goals
      go_wp2;go_ret;exact ⟨rfl,K6.out⟩
end Go.Proofs.YtmdpodeegdjkeaaGreatDoor
