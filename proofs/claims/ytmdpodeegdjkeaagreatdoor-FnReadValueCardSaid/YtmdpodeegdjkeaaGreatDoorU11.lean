/- Part 11 of the proof of the readers and the guards. No conditions. -/
import Derived.Test.YtmdpodeegdjkeaaGreatDoorU0
import Derived.Test.YtmdpodeegdjkeaaGreatDoorU10
set_option maxRecDepth 100000
set_option maxHeartbeats 3200000
namespace Go.Proofs.YtmdpodeegdjkeaaGreatDoor
open Go Go.RowKit Go.Lib Tryz
def xeM (w:World) (v:V):Value->Value->World->Prop:=fun y b w'=>b = .bool true/\Kept Nope w w'/\∃ l',VSl (xaf w) w' y l'/\xao v (.mk 22 0 ByteArray.empty l' 0 [])
theorem same_key {a b:V} (h:xao a b) (hk:xbn a.kind):Same a b:=by
 unfold xbn at hk
 cases h with
 | leaf _ _ h=>exact h
 | list h=>omega
 | map _ _ _ h=>omega
set_option maxHeartbeats 6400000 in
theorem xof (v:V) (w:World) (b:Nat) (es:List (Value × Value)) (j l:Nat->Nat) (h22:v.kind=22) (hd:v.desc=[]) (hm:MapAt w b es) (hlen:es.length*2=v.kids.length) (hj:∀ i,i < es.length->j i < es.length) (hl:∀ p,p < es.length->l p < es.length/\j (l p)=p)
  (hk:∀ (i:Nat) (e:Value × Value) (k:V),es[i]? = some e->v.kids[2*j i]? = some k->AnyV Any_ w e.1 k) (hx:∀ (i:Nat) (e:Value × Value) (k:V),es[i]? = some e->v.kids[2*j i+1]? = some k->AnyV Any_ w e.2 k)
  (hmar:∀ (i:Nat) (e:Value × Value),es[i]? = some e->MarIH e.1) (hkk:∀ (i:Nat) (k:V),v.kids[2*i]? = some k->xbn k.kind) (hn:v.kids.length<=1000) (hT:Tabs w) (ih:∀ k ∈ v.kids,xkk k) :
  Calls prog 42 #[.map (some b)] w (xac (xeM w v)):=by
 obtain ⟨i1,hi,hz0,hz1,hz2⟩:=info_parts info_pair;obtain ⟨i2,hi2,hy0,hy1,hy2⟩:=info_parts xbc;have hes:es.length<=500:=by omega
 have hbl:=hm.lt;have HX:=hid (aI hk (aI hx (aI hmar (aI ih (aI hlen (aI hj hT))))));have HF:=hid (aI h22 (aI hd (aI hl hkk)));have HM:=hid (hm.keep ((kR Nope w).alloc (.cells #[.slice none 0 0] 168)) (fun h=>h));have hsz0:(w.alloc (.cells #[.slice none 0 0] 168)).heap.size=w.heap.size+1:=by simp
 have HZ:=hid hsz0;clear hm hk hx hmar ih hlen hj hT h22 hd hl hkk hsz0 hn;go_enter func42,ntmps42;go_wp2_with (at_range;go_must (refine xbT rfl (.tmp 16) 70 rfl rfl HM.out underlying70 ?_;rw [HZ.out];intro w1 hR hk1;have H1:=hid (aI hR hk1);clear hR hk1))
 (try go_simp)
 have HI0:Hid (PInv v w w1 b (w.heap.size+1) w.heap.size es j [] [] (.slice none 0 0)):=hid ⟨H1.out.1,((kR Nope w).alloc _).trans' H1.out.2,(Blk.new w 168 #[.slice none 0 0]).kept H1.out.2 (fun h=>h),World.ownsRow_nil _ _ _ _,(fun _ h=>nomatch h),rfl,(fun _ _ _ h=>nomatch h),Nat.le_refl _,Nat.le_succ _,hbl⟩
 go_loopw [5] (fun _ w'=>∃ (vis:List Nat) (ps:List Pr) (x:Value),Hid (PInv v w w' b (w.heap.size+1) w.heap.size es j vis ps x)) (fun _ w'=>es.length - xdd w' (w.heap.size+1))
 case atStart=>exact ⟨[],[],_,HI0⟩
 case round =>
  obtain ⟨vis,ps,x,HI⟩:=hrel;obtain ⟨po,co,hx0⟩:=xab HI.out.row;subst hx0;have hfew0:=HI.out.rng.few;rw [<- HI.out.len] at hfew0;clear HI0;go_wp2_with (at_next;go_must (refine xcb rfl (.tmp 17) rfl rfl HI.out.rng ?_ ?_))
  ·intro hall;obtain ⟨wq,rfl⟩:∃ wq:World,wq=wr:=⟨_,rfl⟩
   have hvl:vis.length=es.length:=by
    have h1:=List.Nodup.length_le_of_subset HI.out.rng.nodup (l₂:=List.range es.length) (fun i hi=>by simpa using HI.out.rng.below i hi);have h2:=List.Nodup.length_le_of_subset (List.nodup_range (n:=es.length)) (l₂:=vis) (fun i hi=>hall i (by simpa using hi));simp at h1 h2;omega
   have HA:=hid (aI hall (HI.out.len.trans hvl));clear hall hvl;have hP0:=HI.out.cell.cell 0;simp only [gt,gz] at hP0;go_wp2_with (go_at_call 102;go_must (refine (sortP_ok _ w.heap.size w.heap.size _ ps HI.out.cell HI.out.row (by omega)).mono ?_;rintro e w8 ⟨rfl,ps',hperm,hrow8,hk8⟩;have cP8:=(HI.out.cell.kept hk8 (fun e=>HI.out.own_neP e)).cell 0;simp only [gt,gz] at cP8;have H8:=hid (aI hperm (aI hrow8 hk8));clear hperm hrow8 hk8))
   (try go_simp)
   clear hP0 cP8;have hw8:Kept Nope w w8:=HI.out.kept.trans H8.out.2.2 fun k hk e=>by have:=(HI.out.own_lt k e).1;omega
   have HW8:=hid hw8
   have hok8:∀ p ∈ ps',∀ w',Kept Nope w8 w'->p.key.Ok (fun b=>w.heap.size<=b/\b < w8.heap.size) w'/\p.val.Ok (fun b=>w.heap.size<=b/\b < w8.heap.size) w':=fun p hp w' hk=>by
    have h1:=HI.out.ok p (H8.out.1.mem_iff.1 hp);have h2:=fun (a:Lay) (ha:a.Ok (PSet w (.slice po ps.length co) (w.heap.size+1) w.heap.size) wq)=>((ha.keep H8.out.2.2 (fun b _ hb e=>hb.2.1 e)).mono (S':=fun b=>w.heap.size<=b/\b < w8.heap.size) fun b hb hS=>⟨hS.1,hb⟩).keep hk (fun _ _ _ h=>h)
    exact ⟨h2 _ h1.1,h2 _ h1.2⟩
   have HOK:=hid hok8;obtain ⟨_,A,c8,e8,hnc,hcm,hc⟩:=CSl.ofOwn H8.out.2.1;injection e8 with e8 _ e9
   subst e8 e9;have HC:=hid hc;have hlp:ps'.length=ps.length:=H8.out.1.length_eq;have HLP:=hid hlp;unfold maxLen at hcm;obtain ⟨n,hnn⟩:∃ n,ps.length=n:=⟨_,rfl⟩
   have HL:=hid hnn;rw [hnn] at hnc hfew0 ⊢;clear hc hnn hw8 hok8 hlp
   go_loopw [13,62] (fun o q w'=>∃ (k:Nat) (la:List Lay),k<=n/\q = .int .i64 k/\Hid (Kept Nope w8 w'/\Row6 w8 (fun b=>b < w.heap.size) w' o la/\la.length=2*k/\∀ (i:Nat) (p:Pr),i < k->ps'[i]? = some p->la[2*i]? = some p.key/\la[2*i+1]? = some p.val)) (fun _ q _=>n - (RowKit.intOf q).toNat)
   case atStart=>exact ⟨0,[],by omega,rfl,hid ⟨kR _ _,Row6.nil _ _ _,rfl,fun i p hi=>by omega⟩⟩
   case round =>
    obtain ⟨k,la,hk,rfl,HR⟩:=hrel;obtain ⟨pq,cq,ho⟩:=HR.out.2.1.form;subst ho
    by_cases hkn:k < n
    ·have hkn':(k:Int) < (n:Int):=by omega
     have hk0:(0:Int)<=(k:Int):=by omega
     have e1:IntKind.i64.wrap ((k:Int)+1)=(k:Int)+1:=IntWalk.i64_in _ (by omega);obtain ⟨p,hp⟩:∃ p,ps'[k]? = some p:=⟨ps'[k]'(by rw [HLP.out,HL.out];exact hkn),ge _⟩
     obtain ⟨g,off,rfl,hcell⟩:∃ g off,po=some ⟨g,off,none⟩/\∀ j u,(ps'.flatMap Pr.cells)[j]? = some u->w8.cell? ⟨g,off+j,none⟩=some u:=by
      rcases HC.out with h0 | ⟨g,off,h1,_,h2⟩
      ·rw [HL.out] at h0;omega
      ·exact ⟨g,off,h1,h2⟩
     have f:∀ m,m < 13->∀ z,p.cells[m]? = some z->wr.cell? ⟨g,off+k*13+m,none⟩=some z:=fun m hm z hz=>HR.out.1.cell (by have:=hcell (k*13+m) z (by rw [xjh hp m hm];exact hz);rw [<- Nat.add_assoc] at this;exact this) (fun h=>h)
     have y0:wr.cell? ⟨g,off+k*13,none⟩=some (.string p.t):=f 0 (by omega) _ rfl;have y1:wr.cell? ⟨g,off+k*13+1,none⟩=some (.int .i64 p.k.kind):=f 1 (by omega) _ rfl;have y2:wr.cell? ⟨g,off+k*13+2,none⟩=some (.int .u64 p.k.num):=f 2 (by omega) _ rfl;have y3:wr.cell? ⟨g,off+k*13+3,none⟩=some (.string p.k.text):=f 3 (by omega) _ rfl;have y4:wr.cell? ⟨g,off+k*13+4,none⟩=some (.slice p.ka p.k.kids.length p.kc):=f 4 (by omega) _ rfl;have y5:wr.cell? ⟨g,off+k*13+5,none⟩=some (.int .i64 p.k.of_):=f 5 (by omega) _ rfl;have y6:wr.cell? ⟨g,off+k*13+6,none⟩=some (.slice p.kb p.k.desc.length p.kd):=f 6 (by omega) _ rfl;have y7:wr.cell? ⟨g,off+k*13+7,none⟩=some (.int .i64 p.x.kind):=f 7 (by omega) _ rfl;have y8:wr.cell? ⟨g,off+k*13+8,none⟩=some (.int .u64 p.x.num):=f 8 (by omega) _ rfl;have y9:wr.cell? ⟨g,off+k*13+9,none⟩=some (.string p.x.text):=f 9 (by omega) _ rfl;have y10:wr.cell? ⟨g,off+k*13+10,none⟩=some (.slice p.xa p.x.kids.length p.xc):=f 10 (by omega) _ rfl;have y11:wr.cell? ⟨g,off+k*13+11,none⟩=some (.int .i64 p.x.of_):=f 11 (by omega) _ rfl;have y12:wr.cell? ⟨g,off+k*13+12,none⟩=some (.slice p.xb p.x.desc.length p.xd):=f 12 (by omega) _ rfl;have hka:=((kR Nope wr).alloc (.cells p.cells.toArray 172)).alloc (.cells (p.key.cells ++ p.val.cells).toArray 25);have hok:=HOK.out p (gm hp) _ (HR.out.1.trans' hka);have HROW:=hid (HR.out.2.1.nope hka);have HP:=hid (aI hp (aI hok hka));have hone:∀ z ∈ p.key.cells ++ p.val.cells,z.oneCell'=true:=fun z hz=>p.one z (List.mem_cons_of_mem _ hz)
     have HO:=hid hone;clear f hcell hp hok hka hone;go_wp2_with (at_builtin;go_must (refine xae _ rfl (.tmp 66) (.tmp 71) 23 rfl w8.heap.size 25 i2 _ 6 88 underlying23 hi2 hy0 hy1 hy2 rfl (by decide) _ _ _ rfl HROW.out.own Any_ _ 2 (p.key.cells ++ p.val.cells) rfl (CSl.two_six (W:=wr.alloc (.cells p.cells.toArray 172)) p.key p.val (by simp)) HO.out (by have:=HR.out.2.2.1;unfold maxLen;omega) (by have:=HR.out.2.2.1;omega) (HR.out.1.trans' HP.out.2.2).size ?_;intro v4 w4 hown hgrow hblk;have HN:=hid (aI hown (aI hgrow hblk));clear hown hgrow hblk));go_roundw
     case rel =>
      have hrow:∀ b,(Value.slice pq la.length cq).ownBlock=some b->w8.heap.size<=b:=fun b hb=>(HR.out.2.1.own.lt b hb).1
      have hoks:∀ a:Lay,a.Ok (fun b=>w.heap.size<=b/\b < w8.heap.size) ((wr.alloc (.cells p.cells.toArray 172)).alloc (.cells (p.key.cells ++ p.val.cells).toArray 25))->a.Ok (fun b=>(Value.slice pq la.length cq).ownBlock≠some b/\¬ b < w.heap.size) ((wr.alloc (.cells p.cells.toArray 172)).alloc (.cells (p.key.cells ++ p.val.cells).toArray 25)):=fun a ha=>ha.mono fun b _ hb=>⟨fun e=>by have:=hrow b e;omega,by omega⟩
      have hp2:=HROW.out.push2 (hoks _ HP.out.2.1.1) (hoks _ HP.out.2.1.2) HN.out.1 HN.out.2.1 HN.out.2.2;have hall:=(HR.out.1.trans' HP.out.2.2).trans (xcj HN.out.2.1) (fun b hb e=>by have:=hrow b e;omega);refine ⟨k+1,la ++ [p.key,p.val],by omega,by go_num,hid ⟨hall,hp2,by rw [lA,HR.out.2.2.1];simp;omega,fun i p' hi hp' => ?_⟩⟩;have h2:=HR.out.2.2.1
      rcases Nat.lt_or_ge i k with hlt | hge
      ·have h3:=HR.out.2.2.2 i p' hlt hp';rw [List.getElem?_append_left (by omega),List.getElem?_append_left (by omega)];exact h3
      ·obtain rfl:i=k:=by omega
       have h4:=HP.out.1;rw [hp'] at h4;cases h4;rw [List.getElem?_append_right (by omega),List.getElem?_append_right (by omega),h2];constructor
       ·simp
       ·rw [show 2*i+1 - 2*i=1 by omega];rfl
     case measure=>simp [RowKit.intOf];omega
    ·obtain rfl:k=n:=by omega
     have hlt:¬ (k:Int) < (k:Int):=by omega
     go_wp2;go_ret2;have hne:k=es.length:=by rw [<- HL.out];exact HA.out.2
     have hkl:=HX.out.2.2.2.2.1;refine ⟨_,_,rfl,rfl,HW8.out.trans' HR.out.1,la.map Lay.v,VSl.ofOwn (S:=xaf w) HR.out.2.1.own (fun b hb=>Nat.le_trans HW8.out.size (HR.out.2.1.own.lt b hb).1) (fun a ha=>(HR.out.2.1.ok a ha).mono fun b _ hb=>by have:=hb.2;show w.heap.size<=b;omega),?_⟩;refine xeh HF.out.1 HF.out.2.1 (m:=k) (by omega) (by rw [lM,HR.out.2.2.1]) fun i hi u u' hu hu' => ?_
     obtain ⟨hli,hji⟩:=HF.out.2.2.1 i (by omega);obtain ⟨t,ht⟩:=List.mem_iff_getElem?.1 (HA.out.1 (l i) hli);have htl:t < ps.length:=by rw [HI.out.len];exact (gi.1 ht).1
     have hpt:ps[t]? = some ps[t]:=ge htl;have hv:=HI.out.val t (l i) _ ht hpt u u' (by rw [hji];exact hu) (by rw [hji];exact hu');obtain ⟨r,hr⟩:=List.mem_iff_getElem?.1 (H8.out.1.mem_iff.2 (gm hpt));have hrl:r < k:=by have:=(gi.1 hr).1;rw [HLP.out,HL.out] at this;exact this
     have hla:=HR.out.2.2.2 r _ hrl hr;refine ⟨r,_,_,by rw [gM,hla.1];rfl,by rw [gM,hla.2];rfl,same_key hv.1 (HF.out.2.2.2 i u hu),hv.2⟩
  ·intro i a y w2 hi0 he hR hk2;have hil:i < es.length:=(gi.1 he).1;have hji:=HX.out.2.2.2.2.2.1 i hil;have hlen:=HX.out.2.2.2.2.1;obtain ⟨k,hk0⟩:∃ k,v.kids[2*j i]? = some k:=⟨_,ge (by omega)⟩
   obtain ⟨u,hu0⟩:∃ k,v.kids[2*j i+1]? = some k:=⟨_,ge (by omega)⟩
   have hw2:Kept Nope w w2:=HI.out.kept.trans hk2 fun k hk e=>by have e':k=w.heap.size+1:=e;omega
   have HA:=hid (aI ((HX.out.1 i _ k he hk0).keep hw2 (fun _ _ _ h=>h)) (aI ((HX.out.2.1 i _ u he hu0).keep hw2 (fun _ _ _ h=>h)) (aI (HX.out.2.2.1 i _ he) (aI (HX.out.2.2.2.2.2.2.nope hw2) (aI hk0 hu0)))));have hPr:=HI.out.neP;have HP2:=hid (HI.out.cell.kept hk2 hPr);have H2:=hid (aI hR (aI hk2 (aI he hw2)));have hsz:=HI.out.rng.size_;have hsz2:=hR.size_;have hfew:=hR.few;rw [lA,List.length_singleton] at hsz2 hfew;have HM2:=hid (aI hsz (aI hsz2 hfew));clear hR hk2 hi0 he hsz hsz2 hfew hk0 hu0 hil hji hlen hw2 hPr
   go_wp2_with (first
    | (at_builtin;go_must (refine xae _ rfl (.tmp 48) (.tmp 54) 168 rfl w.heap.size 172 i1 _ 13 192 underlying168 hi hz0 hz1 hz2 rfl (by decide) _ _ _ rfl H5.out.2.2.1 Any_ _ 1 (Pr.mk ⟨bs.toArray⟩ k' pk ck pd cd u' pk2 ck2 pd2 cd2).cells rfl (CSl.one_13 (W:=w5) (Pr.mk ⟨bs.toArray⟩ k' pk ck pd cd u' pk2 ck2 pd2 cd2) rfl) (Pr.one _) (by unfold maxLen;omega) (by omega) H5.out.2.2.2 ?_;intro v7 w7 hown hgrow hblk;obtain ⟨p7,c7,rfl⟩:=xab hown;have hP7:=(HP2.out.kept H5.out.1 (fun h=>h)).grown hgrow (fun e=>HI.out.own_neP e.symm);have cP:=hP7.cell 0;have fP:=hP7.frozen 0;simp only [gt,gz] at cP;have H7:=hid (HI.out.step H2.out.1 H2.out.2.1 H5.out.1 H5.out.2.1 (fun k1 u1 e1 e2=>by have e3:=HA.out.2.2.2.2.1;have e4:=HA.out.2.2.2.2.2;rw [e1] at e3;rw [e2] at e4;cases e3;cases e4;exact ⟨H3.out.2.2,H4.out.2.2⟩) hown hgrow hblk);clear hown hgrow hblk hP7))
    | (go_at_call 101;go_must (refine (HA.out.2.2.1 _ (HA.out.2.2.2.1.nope ((H3.out.1.alloc (.cells (Pr.mk ⟨#[]⟩ k' pk ck pd cd u' pk2 ck2 pd2 cd2).key.cells.toArray 25)).trans' (H4.out.1.alloc (.cells (Pr.mk ⟨#[]⟩ k' pk ck pd cd u' pk2 ck2 pd2 cd2).val.cells.toArray 25))))).mono ?_;rintro e w5 ⟨y5,b5,rfl,rfl,hk5,bs,hbl5,hbs⟩;have hcv:=xbe 26 9 5 underlying26 underlying5 underlying9 hbs;obtain ⟨pt,ct,rfl,_⟩:=hbs;have hKK:=(kR Nope w4).alloc (.cells (Pr.mk ⟨#[]⟩ k' pk ck pd cd u' pk2 ck2 pd2 cd2).val.cells.toArray 25);have hb7:=((Blk.new w3 25 (Pr.mk ⟨#[]⟩ k' pk ck pd cd u' pk2 ck2 pd2 cd2).key.cells.toArray).kept (H4.out.1.trans' (hKK.trans' hk5)) (fun h=>h));have hb9:=((Blk.new w4 25 (Pr.mk ⟨#[]⟩ k' pk ck pd cd u' pk2 ck2 pd2 cd2).val.cells.toArray).kept hk5 (fun h=>h));have a0:=hb7.cell 0;have a1:=hb7.cell 1;have a2:=hb7.cell 2;have a3:=hb7.cell 3;have a4:=hb7.cell 4;have a5:=hb7.cell 5;have d0:=hb9.cell 0;have d1:=hb9.cell 1;have d2:=hb9.cell 2;have d3:=hb9.cell 3;have d4:=hb9.cell 4;have d5:=hb9.cell 5;simp only [Pr.key,Pr.val,Lay.cells,gt,gz,gs] at a0 a1 a2 a3 a4 a5 d0 d1 d2 d3 d4 d5;have hK5:Kept Nope w2 w5:=(H3.out.1.alloc _).trans' ((H4.out.1.alloc _).trans' hk5);have cP5:=(HP2.out.kept hK5 (fun h=>h)).cell 0;simp only [gt,gz] at cP5;have hK6:=hK5.alloc (.cells (Pr.mk ⟨bs.toArray⟩ k' pk ck pd cd u' pk2 ck2 pd2 cd2).cells.toArray 172);have hrow6:=xaB (xaB HI.out.row H2.out.2.1 (fun q hq e=>HI.out.own_ner (by have e':q=w.heap.size+1:=e;rw [<- e'];exact hq))) hK6 (fun _ _ h=>h);have hok1:(Pr.mk ⟨bs.toArray⟩ k' pk ck pd cd u' pk2 ck2 pd2 cd2).key.Ok (fun q=>w2.heap.size<=q) (w5.alloc (.cells (Pr.mk ⟨bs.toArray⟩ k' pk ck pd cd u' pk2 ck2 pd2 cd2).cells.toArray 172)):=Lay.Ok.keep (a:=(Pr.mk ⟨bs.toArray⟩ k' pk ck pd cd u' pk2 ck2 pd2 cd2).key) H3.out.2.1 (((kR Nope w3).alloc _).trans' ((H4.out.1.alloc _).trans' (hk5.alloc _))) (fun _ _ _ h=>h);have hok2:(Pr.mk ⟨bs.toArray⟩ k' pk ck pd cd u' pk2 ck2 pd2 cd2).val.Ok (fun q=>w2.heap.size<=q) (w5.alloc (.cells (Pr.mk ⟨bs.toArray⟩ k' pk ck pd cd u' pk2 ck2 pd2 cd2).cells.toArray 172)):=Lay.Ok.mono (a:=(Pr.mk ⟨bs.toArray⟩ k' pk ck pd cd u' pk2 ck2 pd2 cd2).val) (Lay.Ok.keep (a:=(Pr.mk ⟨bs.toArray⟩ k' pk ck pd cd u' pk2 ck2 pd2 cd2).val) H4.out.2.1 (((kR Nope w4).alloc _).trans' (hk5.alloc _)) (fun _ _ _ h=>h)) (fun q _ hq=>Nat.le_trans (H3.out.1.alloc (.cells (Pr.mk ⟨#[]⟩ k' pk ck pd cd u' pk2 ck2 pd2 cd2).key.cells.toArray 25)).size hq);have H5:=hid (aI hK6 (aI (aI hok1 hok2) (aI hrow6 (H2.out.2.2.2.trans' hK6).size)));clear hk5 hbl5 hb7 hb9 hKK hK5 hK6 hrow6 hok1 hok2))
    | (go_at_call 33;(refine (HX.out.2.2.2.1 u (gm HA.out.2.2.2.2.2) _ _ (HA.out.2.2.2.1.nope (H3.out.1.alloc (.cells (Pr.mk ⟨#[]⟩ k' pk ck pd cd k' pk ck pd cd).key.cells.toArray 25))) (HA.out.2.1.keep (H3.out.1.alloc (.cells (Pr.mk ⟨#[]⟩ k' pk ck pd cd k' pk ck pd cd).key.cells.toArray 25)) (fun _ _ _ h=>h))).mono ?_;rintro e w4 ⟨y4,b4,rfl,rfl,hk4,u',hv4,hlo4⟩;obtain ⟨ks4,ds4,rfl,g4⟩:=hv4;obtain ⟨pk2,ck2,rfl,_⟩:=g4.2.1.form;obtain ⟨pd2,cd2,rfl,_⟩:=g4.2.2.form;have H4:=hid (aI hk4 (aI g4 hlo4));clear hk4 g4 hlo4;unfold vagg))
    | (go_at_call 33;go_must (refine (HX.out.2.2.2.1 k (gm HA.out.2.2.2.2.1) _ _ HA.out.2.2.2.1 HA.out.1).mono ?_;rintro e w3 ⟨y3,b3,rfl,rfl,hk3,k',hv3,hlo3⟩;obtain ⟨ks3,ds3,rfl,g3⟩:=hv3;obtain ⟨pk,ck,rfl,_⟩:=g3.2.1.form;obtain ⟨pd,cd,rfl,_⟩:=g3.2.2.form;have H3:=hid (aI hk3 (aI g3 hlo3));clear hk3 g3 hlo3;unfold vagg))
    | (refine xbG rfl (.tmp 17) rfl rfl H2.out.1 H2.out.2.2.1 ?_))
   have hs7:=H7.out.rng.size_;rw [lA,List.length_singleton] at hs7;have h9:=HM2.out
   (try go_simp)
   go_roundw
   case rel=>exact ⟨_,_,_,H7⟩
   case measure=>omega
end Go.Proofs.YtmdpodeegdjkeaaGreatDoor
