/- Part 12 of the proof of the readers and the guards. No conditions. -/
import Derived.Deep.RegionLaw
import Derived.Test.YtmdpodeegdjkeaaGreatDoorU0
import Derived.Test.YtmdpodeegdjkeaaGreatDoorU9
set_option maxRecDepth 100000
set_option maxHeartbeats 3200000
namespace Go.Proofs.YtmdpodeegdjkeaaGreatDoor
open Go Go.RowKit Go.Lib Tryz
def xai (ek:Int) (l:List V):V:=.mk 23 0 ByteArray.empty (l.map fun k => .mk ek k.num k.text [] 0 []) ek []
def xcx (w:World) (ek:Int) (l:List V):Value->World->Prop:=fun y w'=>Kept Nope w w'/\VAgg (xaf w) w' y (xai ek l)
theorem flatMap_one {α β:Type} {f:α->List β} {g:α->β} {l:List α} (h:∀ a ∈ l,f a=[g a]):l.flatMap f=l.map g:=by
 induction l with
 | nil=>rfl
 | cons a l ih=>rw [List.flatMap_cons,h a (by simp),ih fun b hb=>h b (by simp [hb])];rfl
structure NInv (w:World) (ek:Int) (l:List V) (c:Nat) (k:Nat) (la:List Lay) (x:Value) (w':World):Prop where
 big:w.heap.size < c
 res:Blk w' w.heap.size 25 #[.int .i64 0,.int .u64 0,.string ⟨#[]⟩,.slice none 0 0,.int .i64 0,.slice none 0 0]
 ner:x.ownBlock≠some w.heap.size
 kept:Kept Nope w w'
 cell:Blk w' c 25 #[.int .i64 23,.int .u64 0,.string ⟨#[]⟩,x,.int .i64 ek,.slice none 0 0]
 row:Row6 w (fun b=>b<=w.heap.size\/b=c) w' x la
 ne:x.ownBlock≠some c
 len:la.length=k
 val:∀ (i:Nat) (v:V) (a:Lay),l[i]? = some v->la[i]? = some a->a.v = .mk ek v.num v.text [] 0 []
def xau (ek num:Int) (t:ByteArray):Lay:=⟨.mk ek num t [] 0 [],.slice none 0 0,.slice none 0 0⟩
theorem xjQ {S:Nat->Prop} {w:World} {ek num:Int} {t:ByteArray} (hk:0<=ek/\ek < 100) (hn:0<=num/\num < 18446744073709551616) (ht:t.size<=maxLen):(xau ek num t).Ok S w :=
 ⟨⟨by simp [xau];omega,by simp [xau];omega,by simpa [xau] using ht,by simp [xau]⟩,.nil _ _ (by simp [maxLen]),.nil _ _ (by simp [maxLen])⟩
theorem ownsRow_form {w:World} {base:Nat} {e:TypeId} {size n:Nat} {x:Value} {xs:List Value} (h:w.ownsRow base e size x n xs):∃ p c,x = .slice p n c:=by
 rcases h.2 with ⟨rfl,e⟩ | ⟨g,cap,cur,rfl,_⟩
 ·exact ⟨none,0,by rw [e]⟩
 ·exact ⟨_,_,rfl⟩
theorem xbt (ek num:Int) (t:ByteArray):∀ u ∈ (xau ek num t).cells,u.oneCell'=true:=xei _ rfl rfl
theorem NInv.nope {w w' w'':World} {ek:Int} {l:List V} {c k:Nat} {la:List Lay} {x:Value} (h:NInv w ek l c k la x w') (hk:Kept Nope w' w''):NInv w ek l c k la x w'' :=
 ⟨h.big,h.res.kept hk (fun h=>h),h.ner,h.kept.trans' hk,h.cell.kept hk (fun h=>h),h.row.nope hk,h.ne,h.len,h.val⟩
theorem NInv.step {w w1 w2:World} {ek:Int} {l:List V} {c k:Nat} {la:List Lay} {x x':Value} {v:V} {t:ByteArray} (h:NInv w ek l c k la x w1) (hv:l[k]? = some v) (het:v.text=t) (hk0:0<=ek/\ek < 100) (hn0:0<=v.num/\v.num < 18446744073709551616) (ht:t.size<=maxLen)
  (h2:w2.ownsRow w.heap.size 25 6 x' (la.length+1) (la.flatMap Lay.cells ++ (xau ek v.num t).cells)) (hg:w1.grownBy w2 x.ownBlock) (h4:x'.ownBlock=x.ownBlock\/x'.ownBlock=some w1.heap.size) :
  NInv w ek l c (k+1) (la ++ [xau ek v.num t]) x' (w2.setCell ⟨c,3,none⟩ x'):=by
 subst het;have hlt:c < w1.heap.size:=h.cell.lt;have hkg:Kept (fun b=>x.ownBlock=some b) w1 w2:=⟨hg.os,hg.tape,hg.output,hg.size,fun k hk hn=>hg.block k hk (fun e=>hn e.symm)⟩
 have hne':x'.ownBlock≠some c:=by
  rcases h4 with e | e
  ·rw [e];exact h.ne
  ·rw [e];intro e';injection e' with e';omega
 have hks:Kept (Only c) w2 (w2.setCell ⟨c,3,none⟩ x'):=(kR _ _).set1 3 x';have hp:=h.row.push (xjQ hk0 hn0 ht) h2 hg h4;have hlr:w.heap.size < w1.heap.size:=h.res.lt;refine ⟨h.big,(h.res.kept hkg (fun e=>h.ner e)).kept hks (fun e=>by have e':w.heap.size=c:=e;have:=h.big;omega),?_,?_,?_,hp.keep hks (fun b hb => .inr hb) (fun b hb e=>hne' (by have e':b=c:=e;rw [<- e'];exact hb)),hne',by rw [lA,h.len];rfl,fun i u a hi ha => ?_⟩
 ·rcases h4 with e | e
  ·rw [e];exact h.ner
  ·rw [e];intro e';injection e' with e';omega
 ·have h5:=(h.kept.trans hkg fun b hb e=>by have:=(h.row.own.lt b e).1;omega).trans hks fun b hb e=>by have e':b=c:=e;have:=h.big;omega
  exact h5
 ·have h6:=(h.cell.kept hkg (fun e=>h.ne e)).set_ 3 x'
  simpa using h6
 ·rw [List.getElem?_append] at ha
  split at ha
  ·exact h.val i u a hi ha
  ·next hge =>
   have hlt2:i - la.length < 1:=by have:=(gi.1 ha).1;simpa using this
   have he:i=k:=by have:=h.len;omega
   subst he;rw [hi] at hv;cases hv;have h2:i - la.length=0:=by omega
   rw [h2] at ha;simp at ha;subst ha
   rfl
theorem NInv.start {w:World} {ek:Int} {l:List V} {c:Nat} {w':World} (hb:w.heap.size < c) (hr:Blk w' w.heap.size 25 #[.int .i64 0,.int .u64 0,.string ⟨#[]⟩,.slice none 0 0,.int .i64 0,.slice none 0 0]) (hk:Kept Nope w w') (hc:Blk w' c 25 #[.int .i64 23,.int .u64 0,.string ⟨#[]⟩,.slice none 0 0,.int .i64 ek,.slice none 0 0]):NInv w ek l c 0 [] (.slice none 0 0) w' :=
 ⟨hb,hr,(fun h=>nomatch h),hk,hc,Row6.nil _ _ _,(fun h=>nomatch h),rfl,fun i v a _ h=>by simp at h⟩
theorem NInv.done {w w':World} {ek:Int} {l:List V} {c:Nat} {la:List Lay} {x:Value} (h:NInv w ek l c l.length la x w') (hk:0<=ek/\ek < 100):VAgg (fun b=>w.heap.size < b) w' (.agg #[.int .i64 23,.int .u64 0,.string ⟨#[]⟩,x,.int .i64 ek,.slice none 0 0]) (xai ek l):=by
 have hl:la.map Lay.v=l.map fun k=>V.mk ek k.num k.text [] 0 []:=by
  apply List.ext_getElem?;intro i;rw [gM,gM]
  cases hi:l[i]? with
  | none =>
   have:la[i]? = none:=by rw [List.getElem?_eq_none_iff] at hi ⊢;have:=h.len;omega
   rw [this];rfl
  | some v =>
   have hlt:i < la.length:=by have:=(gi.1 hi).1;have:=h.len;omega
   have ha:la[i]? = some la[i]:=ge hlt;rw [ha];simp only [Option.map_some];rw [h.val i v _ hi ha]
 have hv:=VSl.ofOwn (S:=fun b=>w.heap.size < b) h.row.own (fun b hb=>by have h1:=(h.row.own.lt b hb).1;have h2:b≠w.heap.size:=fun e=>h.ner (e ▸ hb);omega) fun a ha=>(h.row.ok a ha).mono fun b _ hb=>by
  have h1:=hb.2;omega
 rw [hl] at hv;exact ⟨_,_,rfl,⟨by simp [xai],by simp [xai],by simp [xai],by simp [xai];omega⟩,hv,.nil _ _ (by simp [maxLen])⟩
theorem vl1_ok (n:Int) (w:World) (h:0<=n/\n < 256):Calls prog 63 #[.int .u8 n] w fun e w'=>e = .returned (.int .u64 n)/\w=w':=by
 have hw:IntKind.u64.wrap n=n:=by simp [IntKind.wrap,IntKind.bits,IntKind.signed];omega
 go_enter func63,ntmps63;go_wp2;go_ret;exact ⟨rfl,rfl⟩
theorem vl2_ok (n:Int) (w:World) (h:0<=n/\n < 65536):Calls prog 65 #[.int .u16 n] w fun e w'=>e = .returned (.int .u64 n)/\w=w':=by
 have hw:IntKind.u64.wrap n=n:=by simp [IntKind.wrap,IntKind.bits,IntKind.signed];omega
 go_enter func65,ntmps65;go_wp2;go_ret;exact ⟨rfl,rfl⟩
theorem vl3_ok (n:Int) (w:World) (h:0<=n/\n < 4294967296):Calls prog 67 #[.int .u32 n] w fun e w'=>e = .returned (.int .u64 n)/\w=w':=by
 have hw:IntKind.u64.wrap n=n:=by simp [IntKind.wrap,IntKind.bits,IntKind.signed];omega
 go_enter func67,ntmps67;go_wp2;go_ret;exact ⟨rfl,rfl⟩
theorem vl4_ok (n:Int) (w:World):Calls prog 69 #[.int .u64 n] w fun e w'=>e = .returned (.int .u64 n)/\w=w':=by
 go_enter func69,ntmps69;go_wp2;go_ret;exact ⟨rfl,rfl⟩
theorem xmS (w:World) (s:Value) (l:List V) (hs:CSl Any_ w 1 s l.length (l.flatMap fun k=>(raw k).cells.toList)) (hk:∀ k ∈ l,k.kind=2/\Tidy k) (hn:l.length<=1000) :
  Calls prog 62 #[.int .i64 2,s,.func (.func 63) #[] #[]] w (Gives (xcx w 2 l)):=by
 obtain ⟨i1,hi,hz0,hz1,hz2⟩:=info_parts xbc;obtain ⟨hlx,A,c,rfl,hnc,hcm,hc⟩:=hs;rw [flatMap_one (g:=raw) (fun a ha=>by simp [raw,(hk a ha).1,Value.cells])] at hlx hc;have HK:=hid hk;have HC:=hid hc;clear hc hlx hk;unfold maxLen at hcm;obtain ⟨n,hnn⟩:∃ n,l.length=n:=⟨_,rfl⟩
 have HL:=hid hnn;rw [hnn] at hn hnc ⊢;clear hnn;go_enter func62,ntmps62;go_wp2;have HT:=Blk.two w #[.int .i64 0,.int .u64 0,.string ⟨#[]⟩,.slice none 0 0,.int .i64 0,.slice none 0 0] #[.int .i64 23,.int .u64 0,.string ⟨#[]⟩,.slice none 0 0,.int .i64 2,.slice none 0 0] 25;have HI:=hid (NInv.start (l:=l) (show w.heap.size < w.heap.size+1 by omega) HT.1 HT.2.2 HT.2.1);generalize (w.alloc (.cells #[.int .i64 0,.int .u64 0,.string ⟨#[]⟩,.slice none 0 0,.int .i64 0,.slice none 0 0] 25)).alloc (.cells #[.int .i64 23,.int .u64 0,.string ⟨#[]⟩,.slice none 0 0,.int .i64 2,.slice none 0 0] 25)=W2 at HT HI ⊢;generalize hC:w.heap.size+1=C at HT HI ⊢;clear HT hC
 go_loopw [14] (fun q w'=>∃ (k:Nat) (la:List Lay) (x:Value),k<=n/\q = .int .i64 k/\Hid (NInv w 2 l C k la x w')) (fun q _=>n - (RowKit.intOf q).toNat)
 case atStart=>exact ⟨0,[],_,by omega,rfl,HI⟩
 case round =>
  obtain ⟨k,la,x,hk,rfl,HN⟩:=hrel;obtain ⟨po,co,ho⟩:=HN.out.row.form;subst ho;have hcc:=HN.out.cell;have cC3:=hcc.cell 3;have fC3:=hcc.frozen 3;simp only [gt,gz,gs] at cC3
  by_cases hkn:k < n
  ·have hkn':(k:Int) < (n:Int):=by omega
   have hk0:(0:Int)<=(k:Int):=by omega
   have e1:IntKind.i64.wrap ((k:Int)+1)=(k:Int)+1:=IntWalk.i64_in _ (by omega);obtain ⟨v,hv⟩:∃ v,l[k]? = some v:=⟨l[k]'(by rw [HL.out];exact hkn),ge _⟩
   obtain ⟨b,off,rfl,hcell⟩:∃ b off,A=some ⟨b,off,none⟩/\∀ j u,(l.map raw)[j]? = some u->w.cell? ⟨b,off+j,none⟩=some u:=by
    rcases HC.out with h0 | ⟨b,off,h1,_,h2⟩
    ·rw [HL.out] at h0;omega
    ·exact ⟨b,off,h1,h2⟩
   have hm:=HK.out v (gm hv);have hrw:raw v = .int .u8 v.num:=by simp [raw,hm.1]
   have cx:wr.cell? ⟨b,off+k,none⟩=some (.int .u8 v.num):=HN.out.kept.cell (hrw ▸ hcell k _ (by rw [gM,hv];rfl)) (fun h=>h);have HV:=hid (aI hv hm);have htx:v.text=⟨#[]⟩:=hm.2.empty (by omega);have HTX:=hid htx;clear htx;have hn1:=hm.2.n1 hm.1;have hp1:=hm.2.pos;have cCa:∀ o,(wr.alloc o).drew.cell? ⟨C,3,none⟩=some (.slice po la.length co):=fun o=>by have h:=((HN.out.cell.alloc o).drew).cell 3;exact h
   clear hcell hv hm hcc hrw;go_wp2
   go_region_law (first | (go_simp;go_at_call 63;refine (vl1_ok _ _ (by omega)).mono ?_;rintro e w3 ⟨rfl,rfl⟩) | (refine xaG _ (.tmp 19) (.tmp 25) 23 rfl w.heap.size 25 i1 _ 6 88 underlying23 hi hz0 hz1 hz2 rfl (by decide) _ _ _ rfl (HN.out.row.nope (((kR Nope wr).drew).alloc (.cells (xau 2 v.num ⟨#[]⟩).cells.toArray 25))).own Any_ _ 1 (xau 2 v.num ⟨#[]⟩).cells rfl (CSl.one_six (W:=wr.drew) _ rfl) (xbt _ _ _) (by have:=HN.out.len;unfold maxLen;omega) (by have:=HN.out.len;omega) ((HN.out.kept.alloc (.cells (xau 2 v.num ⟨#[]⟩).cells.toArray 25)).drew).size ?_;intro v4 w4 hown hgrow hblk;obtain ⟨p4,c4,rfl⟩:=ownsRow_form hown;have hC4:=((HN.out.cell.alloc (.cells (xau 2 v.num ⟨#[]⟩).cells.toArray 25)).drew).grown hgrow (fun e=>HN.out.ne e.symm);have cC4:=hC4.cell 3;have fC4:=hC4.frozen 3;simp only [gt,gz,gs] at cC4;have HO:=hid (aI hown (aI hgrow hblk));clear hown hgrow hblk hC4))
   all_goals
    have hst:=(HN.out.nope (((kR Nope wr).alloc (.cells (xau 2 v.num ⟨#[]⟩).cells.toArray 25)).drew)).step (t:=⟨#[]⟩) HV.out.1 HTX.out (by omega) (by omega) (by decide) HO.out.1 HO.out.2.1 HO.out.2.2;have HS:=hid hst;clear hst;go_wp2;go_roundw
    case rel=>exact ⟨k+1,_,_,by omega,by go_num,HS⟩
    case measure=>simp [RowKit.intOf];omega
  ·obtain rfl:k=n:=by omega
   have hlt:¬ (k:Int) < (k:Int):=by omega
   have rr:=HN.out.res;have r0:=rr.cell 0;have r1:=rr.cell 1;have r2:=rr.cell 2;have r3:=rr.cell 3;have r4:=rr.cell 4;have r5:=rr.cell 5;have g0:=rr.frozen 0;have g1:=rr.frozen 1;have g2:=rr.frozen 2;have g3:=rr.frozen 3;have g4:=rr.frozen 4;have g5:=rr.frozen 5;have q0:=hcc.cell 0;have q1:=hcc.cell 1;have q2:=hcc.cell 2;have q4:=hcc.cell 4;have q5:=hcc.cell 5;simp only [gt,gz,gs] at r0 r1 r2 r3 r4 r5 q0 q1 q2 q4 q5;have HRR:=hid rr;clear hcc rr;go_wp2;have hB2:=(((((HRR.out.set_ 0 (.int .i64 23)).set_ 1 (.int .u64 0)).set_ 2 (.string ⟨#[]⟩)).set_ 3 (.slice po la.length co)).set_ 4 (.int .i64 2)).set_ 5 (.slice none 0 0);have hks:Kept (Only w.heap.size) wr ((((((wr.setCell ⟨w.heap.size,0,none⟩ (.int .i64 23)).setCell ⟨w.heap.size,1,none⟩ (.int .u64 0)).setCell ⟨w.heap.size,2,none⟩ (.string ⟨#[]⟩)).setCell ⟨w.heap.size,3,none⟩ (.slice po la.length co)).setCell ⟨w.heap.size,4,none⟩ (.int .i64 2)).setCell ⟨w.heap.size,5,none⟩ (.slice none 0 0)):=((((((kR _ _).set1 0 _).set1 1 _).set1 2 _).set1 3 _).set1 4 _).set1 5 _;refine bodyPost_ret (v:=.agg #[.int .i64 23,.int .u64 0,.string ⟨#[]⟩,.slice po la.length co,.int .i64 2,.slice none 0 0]) (results_cell_row (P:=prog) rfl _ _ w.heap.size 25 _ _ _ rfl hB2 underlying25 rfl (by kernel_rfl)) rfl ⟨_,rfl,HN.out.kept.trans hks (fun b hb e=>by have e':b=w.heap.size:=e;omega),?_⟩;exact ((NInv.done (l:=l) (by rw [HL.out];exact HN.out) (by omega)).keep hks (fun b _ hb e=>by have e':b=w.heap.size:=e;omega)).mono fun b _ hb=>Nat.le_of_lt hb
theorem xkZ (w:World) (s:Value) (l:List V) (hs:CSl Any_ w 1 s l.length (l.flatMap fun k=>(raw k).cells.toList)) (hk:∀ k ∈ l,k.kind=3/\Tidy k) (hn:l.length<=1000) :
  Calls prog 64 #[.int .i64 3,s,.func (.func 65) #[] #[]] w (Gives (xcx w 3 l)):=by
 obtain ⟨i1,hi,hz0,hz1,hz2⟩:=info_parts xbc;obtain ⟨hlx,A,c,rfl,hnc,hcm,hc⟩:=hs;rw [flatMap_one (g:=raw) (fun a ha=>by simp [raw,(hk a ha).1,Value.cells])] at hlx hc;have HK:=hid hk;have HC:=hid hc;clear hc hlx hk;unfold maxLen at hcm;obtain ⟨n,hnn⟩:∃ n,l.length=n:=⟨_,rfl⟩
 have HL:=hid hnn;rw [hnn] at hn hnc ⊢;clear hnn;go_enter func64,ntmps64;go_wp2;have HT:=Blk.two w #[.int .i64 0,.int .u64 0,.string ⟨#[]⟩,.slice none 0 0,.int .i64 0,.slice none 0 0] #[.int .i64 23,.int .u64 0,.string ⟨#[]⟩,.slice none 0 0,.int .i64 3,.slice none 0 0] 25;have HI:=hid (NInv.start (l:=l) (show w.heap.size < w.heap.size+1 by omega) HT.1 HT.2.2 HT.2.1);generalize (w.alloc (.cells #[.int .i64 0,.int .u64 0,.string ⟨#[]⟩,.slice none 0 0,.int .i64 0,.slice none 0 0] 25)).alloc (.cells #[.int .i64 23,.int .u64 0,.string ⟨#[]⟩,.slice none 0 0,.int .i64 3,.slice none 0 0] 25)=W2 at HT HI ⊢;generalize hC:w.heap.size+1=C at HT HI ⊢;clear HT hC
 go_loopw [14] (fun q w'=>∃ (k:Nat) (la:List Lay) (x:Value),k<=n/\q = .int .i64 k/\Hid (NInv w 3 l C k la x w')) (fun q _=>n - (RowKit.intOf q).toNat)
 case atStart=>exact ⟨0,[],_,by omega,rfl,HI⟩
 case round =>
  obtain ⟨k,la,x,hk,rfl,HN⟩:=hrel;obtain ⟨po,co,ho⟩:=HN.out.row.form;subst ho;have hcc:=HN.out.cell;have cC3:=hcc.cell 3;have fC3:=hcc.frozen 3;simp only [gt,gz,gs] at cC3
  by_cases hkn:k < n
  ·have hkn':(k:Int) < (n:Int):=by omega
   have hk0:(0:Int)<=(k:Int):=by omega
   have e1:IntKind.i64.wrap ((k:Int)+1)=(k:Int)+1:=IntWalk.i64_in _ (by omega);obtain ⟨v,hv⟩:∃ v,l[k]? = some v:=⟨l[k]'(by rw [HL.out];exact hkn),ge _⟩
   obtain ⟨b,off,rfl,hcell⟩:∃ b off,A=some ⟨b,off,none⟩/\∀ j u,(l.map raw)[j]? = some u->w.cell? ⟨b,off+j,none⟩=some u:=by
    rcases HC.out with h0 | ⟨b,off,h1,_,h2⟩
    ·rw [HL.out] at h0;omega
    ·exact ⟨b,off,h1,h2⟩
   have hm:=HK.out v (gm hv);have hrw:raw v = .int .u16 v.num:=by simp [raw,hm.1]
   have cx:wr.cell? ⟨b,off+k,none⟩=some (.int .u16 v.num):=HN.out.kept.cell (hrw ▸ hcell k _ (by rw [gM,hv];rfl)) (fun h=>h);have HV:=hid (aI hv hm);have htx:v.text=⟨#[]⟩:=hm.2.empty (by omega);have HTX:=hid htx;clear htx;have hn1:=hm.2.n2 hm.1;have hp1:=hm.2.pos;have cCa:∀ o,(wr.alloc o).drew.cell? ⟨C,3,none⟩=some (.slice po la.length co):=fun o=>by have h:=((HN.out.cell.alloc o).drew).cell 3;exact h
   clear hcell hv hm hcc hrw;go_wp2
   go_region_law (first | (go_simp;go_at_call 65;refine (vl2_ok _ _ (by omega)).mono ?_;rintro e w3 ⟨rfl,rfl⟩) | (refine xaG _ (.tmp 19) (.tmp 25) 23 rfl w.heap.size 25 i1 _ 6 88 underlying23 hi hz0 hz1 hz2 rfl (by decide) _ _ _ rfl (HN.out.row.nope (((kR Nope wr).drew).alloc (.cells (xau 3 v.num ⟨#[]⟩).cells.toArray 25))).own Any_ _ 1 (xau 3 v.num ⟨#[]⟩).cells rfl (CSl.one_six (W:=wr.drew) _ rfl) (xbt _ _ _) (by have:=HN.out.len;unfold maxLen;omega) (by have:=HN.out.len;omega) ((HN.out.kept.alloc (.cells (xau 3 v.num ⟨#[]⟩).cells.toArray 25)).drew).size ?_;intro v4 w4 hown hgrow hblk;obtain ⟨p4,c4,rfl⟩:=ownsRow_form hown;have hC4:=((HN.out.cell.alloc (.cells (xau 3 v.num ⟨#[]⟩).cells.toArray 25)).drew).grown hgrow (fun e=>HN.out.ne e.symm);have cC4:=hC4.cell 3;have fC4:=hC4.frozen 3;simp only [gt,gz,gs] at cC4;have HO:=hid (aI hown (aI hgrow hblk));clear hown hgrow hblk hC4))
   all_goals
    have hst:=(HN.out.nope (((kR Nope wr).alloc (.cells (xau 3 v.num ⟨#[]⟩).cells.toArray 25)).drew)).step (t:=⟨#[]⟩) HV.out.1 HTX.out (by omega) (by omega) (by decide) HO.out.1 HO.out.2.1 HO.out.2.2;have HS:=hid hst;clear hst;go_wp2;go_roundw
    case rel=>exact ⟨k+1,_,_,by omega,by go_num,HS⟩
    case measure=>simp [RowKit.intOf];omega
  ·obtain rfl:k=n:=by omega
   have hlt:¬ (k:Int) < (k:Int):=by omega
   have rr:=HN.out.res;have r0:=rr.cell 0;have r1:=rr.cell 1;have r2:=rr.cell 2;have r3:=rr.cell 3;have r4:=rr.cell 4;have r5:=rr.cell 5;have g0:=rr.frozen 0;have g1:=rr.frozen 1;have g2:=rr.frozen 2;have g3:=rr.frozen 3;have g4:=rr.frozen 4;have g5:=rr.frozen 5;have q0:=hcc.cell 0;have q1:=hcc.cell 1;have q2:=hcc.cell 2;have q4:=hcc.cell 4;have q5:=hcc.cell 5;simp only [gt,gz,gs] at r0 r1 r2 r3 r4 r5 q0 q1 q2 q4 q5;have HRR:=hid rr;clear hcc rr;go_wp2;have hB2:=(((((HRR.out.set_ 0 (.int .i64 23)).set_ 1 (.int .u64 0)).set_ 2 (.string ⟨#[]⟩)).set_ 3 (.slice po la.length co)).set_ 4 (.int .i64 3)).set_ 5 (.slice none 0 0);have hks:Kept (Only w.heap.size) wr ((((((wr.setCell ⟨w.heap.size,0,none⟩ (.int .i64 23)).setCell ⟨w.heap.size,1,none⟩ (.int .u64 0)).setCell ⟨w.heap.size,2,none⟩ (.string ⟨#[]⟩)).setCell ⟨w.heap.size,3,none⟩ (.slice po la.length co)).setCell ⟨w.heap.size,4,none⟩ (.int .i64 3)).setCell ⟨w.heap.size,5,none⟩ (.slice none 0 0)):=((((((kR _ _).set1 0 _).set1 1 _).set1 2 _).set1 3 _).set1 4 _).set1 5 _;refine bodyPost_ret (v:=.agg #[.int .i64 23,.int .u64 0,.string ⟨#[]⟩,.slice po la.length co,.int .i64 3,.slice none 0 0]) (results_cell_row (P:=prog) rfl _ _ w.heap.size 25 _ _ _ rfl hB2 underlying25 rfl (by kernel_rfl)) rfl ⟨_,rfl,HN.out.kept.trans hks (fun b hb e=>by have e':b=w.heap.size:=e;omega),?_⟩;exact ((NInv.done (l:=l) (by rw [HL.out];exact HN.out) (by omega)).keep hks (fun b _ hb e=>by have e':b=w.heap.size:=e;omega)).mono fun b _ hb=>Nat.le_of_lt hb
theorem xkY (w:World) (s:Value) (l:List V) (hs:CSl Any_ w 1 s l.length (l.flatMap fun k=>(raw k).cells.toList)) (hk:∀ k ∈ l,k.kind=4/\Tidy k) (hn:l.length<=1000) :
  Calls prog 66 #[.int .i64 4,s,.func (.func 67) #[] #[]] w (Gives (xcx w 4 l)):=by
 obtain ⟨i1,hi,hz0,hz1,hz2⟩:=info_parts xbc;obtain ⟨hlx,A,c,rfl,hnc,hcm,hc⟩:=hs;rw [flatMap_one (g:=raw) (fun a ha=>by simp [raw,(hk a ha).1,Value.cells])] at hlx hc;have HK:=hid hk;have HC:=hid hc;clear hc hlx hk;unfold maxLen at hcm;obtain ⟨n,hnn⟩:∃ n,l.length=n:=⟨_,rfl⟩
 have HL:=hid hnn;rw [hnn] at hn hnc ⊢;clear hnn;go_enter func66,ntmps66;go_wp2;have HT:=Blk.two w #[.int .i64 0,.int .u64 0,.string ⟨#[]⟩,.slice none 0 0,.int .i64 0,.slice none 0 0] #[.int .i64 23,.int .u64 0,.string ⟨#[]⟩,.slice none 0 0,.int .i64 4,.slice none 0 0] 25;have HI:=hid (NInv.start (l:=l) (show w.heap.size < w.heap.size+1 by omega) HT.1 HT.2.2 HT.2.1);generalize (w.alloc (.cells #[.int .i64 0,.int .u64 0,.string ⟨#[]⟩,.slice none 0 0,.int .i64 0,.slice none 0 0] 25)).alloc (.cells #[.int .i64 23,.int .u64 0,.string ⟨#[]⟩,.slice none 0 0,.int .i64 4,.slice none 0 0] 25)=W2 at HT HI ⊢;generalize hC:w.heap.size+1=C at HT HI ⊢;clear HT hC
 go_loopw [14] (fun q w'=>∃ (k:Nat) (la:List Lay) (x:Value),k<=n/\q = .int .i64 k/\Hid (NInv w 4 l C k la x w')) (fun q _=>n - (RowKit.intOf q).toNat)
 case atStart=>exact ⟨0,[],_,by omega,rfl,HI⟩
 case round =>
  obtain ⟨k,la,x,hk,rfl,HN⟩:=hrel;obtain ⟨po,co,ho⟩:=HN.out.row.form;subst ho;have hcc:=HN.out.cell;have cC3:=hcc.cell 3;have fC3:=hcc.frozen 3;simp only [gt,gz,gs] at cC3
  by_cases hkn:k < n
  ·have hkn':(k:Int) < (n:Int):=by omega
   have hk0:(0:Int)<=(k:Int):=by omega
   have e1:IntKind.i64.wrap ((k:Int)+1)=(k:Int)+1:=IntWalk.i64_in _ (by omega);obtain ⟨v,hv⟩:∃ v,l[k]? = some v:=⟨l[k]'(by rw [HL.out];exact hkn),ge _⟩
   obtain ⟨b,off,rfl,hcell⟩:∃ b off,A=some ⟨b,off,none⟩/\∀ j u,(l.map raw)[j]? = some u->w.cell? ⟨b,off+j,none⟩=some u:=by
    rcases HC.out with h0 | ⟨b,off,h1,_,h2⟩
    ·rw [HL.out] at h0;omega
    ·exact ⟨b,off,h1,h2⟩
   have hm:=HK.out v (gm hv);have hrw:raw v = .int .u32 v.num:=by simp [raw,hm.1]
   have cx:wr.cell? ⟨b,off+k,none⟩=some (.int .u32 v.num):=HN.out.kept.cell (hrw ▸ hcell k _ (by rw [gM,hv];rfl)) (fun h=>h);have HV:=hid (aI hv hm);have htx:v.text=⟨#[]⟩:=hm.2.empty (by omega);have HTX:=hid htx;clear htx;have hn1:=hm.2.n4 (.inl hm.1);have hp1:=hm.2.pos;have cCa:∀ o,(wr.alloc o).drew.cell? ⟨C,3,none⟩=some (.slice po la.length co):=fun o=>by have h:=((HN.out.cell.alloc o).drew).cell 3;exact h
   clear hcell hv hm hcc hrw;go_wp2
   go_region_law (first | (go_simp;go_at_call 67;refine (vl3_ok _ _ (by omega)).mono ?_;rintro e w3 ⟨rfl,rfl⟩) | (refine xaG _ (.tmp 19) (.tmp 25) 23 rfl w.heap.size 25 i1 _ 6 88 underlying23 hi hz0 hz1 hz2 rfl (by decide) _ _ _ rfl (HN.out.row.nope (((kR Nope wr).drew).alloc (.cells (xau 4 v.num ⟨#[]⟩).cells.toArray 25))).own Any_ _ 1 (xau 4 v.num ⟨#[]⟩).cells rfl (CSl.one_six (W:=wr.drew) _ rfl) (xbt _ _ _) (by have:=HN.out.len;unfold maxLen;omega) (by have:=HN.out.len;omega) ((HN.out.kept.alloc (.cells (xau 4 v.num ⟨#[]⟩).cells.toArray 25)).drew).size ?_;intro v4 w4 hown hgrow hblk;obtain ⟨p4,c4,rfl⟩:=ownsRow_form hown;have hC4:=((HN.out.cell.alloc (.cells (xau 4 v.num ⟨#[]⟩).cells.toArray 25)).drew).grown hgrow (fun e=>HN.out.ne e.symm);have cC4:=hC4.cell 3;have fC4:=hC4.frozen 3;simp only [gt,gz,gs] at cC4;have HO:=hid (aI hown (aI hgrow hblk));clear hown hgrow hblk hC4))
   all_goals
    have hst:=(HN.out.nope (((kR Nope wr).alloc (.cells (xau 4 v.num ⟨#[]⟩).cells.toArray 25)).drew)).step (t:=⟨#[]⟩) HV.out.1 HTX.out (by omega) (by omega) (by decide) HO.out.1 HO.out.2.1 HO.out.2.2;have HS:=hid hst;clear hst;go_wp2;go_roundw
    case rel=>exact ⟨k+1,_,_,by omega,by go_num,HS⟩
    case measure=>simp [RowKit.intOf];omega
  ·obtain rfl:k=n:=by omega
   have hlt:¬ (k:Int) < (k:Int):=by omega
   have rr:=HN.out.res;have r0:=rr.cell 0;have r1:=rr.cell 1;have r2:=rr.cell 2;have r3:=rr.cell 3;have r4:=rr.cell 4;have r5:=rr.cell 5;have g0:=rr.frozen 0;have g1:=rr.frozen 1;have g2:=rr.frozen 2;have g3:=rr.frozen 3;have g4:=rr.frozen 4;have g5:=rr.frozen 5;have q0:=hcc.cell 0;have q1:=hcc.cell 1;have q2:=hcc.cell 2;have q4:=hcc.cell 4;have q5:=hcc.cell 5;simp only [gt,gz,gs] at r0 r1 r2 r3 r4 r5 q0 q1 q2 q4 q5;have HRR:=hid rr;clear hcc rr;go_wp2;have hB2:=(((((HRR.out.set_ 0 (.int .i64 23)).set_ 1 (.int .u64 0)).set_ 2 (.string ⟨#[]⟩)).set_ 3 (.slice po la.length co)).set_ 4 (.int .i64 4)).set_ 5 (.slice none 0 0);have hks:Kept (Only w.heap.size) wr ((((((wr.setCell ⟨w.heap.size,0,none⟩ (.int .i64 23)).setCell ⟨w.heap.size,1,none⟩ (.int .u64 0)).setCell ⟨w.heap.size,2,none⟩ (.string ⟨#[]⟩)).setCell ⟨w.heap.size,3,none⟩ (.slice po la.length co)).setCell ⟨w.heap.size,4,none⟩ (.int .i64 4)).setCell ⟨w.heap.size,5,none⟩ (.slice none 0 0)):=((((((kR _ _).set1 0 _).set1 1 _).set1 2 _).set1 3 _).set1 4 _).set1 5 _;refine bodyPost_ret (v:=.agg #[.int .i64 23,.int .u64 0,.string ⟨#[]⟩,.slice po la.length co,.int .i64 4,.slice none 0 0]) (results_cell_row (P:=prog) rfl _ _ w.heap.size 25 _ _ _ rfl hB2 underlying25 rfl (by kernel_rfl)) rfl ⟨_,rfl,HN.out.kept.trans hks (fun b hb e=>by have e':b=w.heap.size:=e;omega),?_⟩;exact ((NInv.done (l:=l) (by rw [HL.out];exact HN.out) (by omega)).keep hks (fun b _ hb e=>by have e':b=w.heap.size:=e;omega)).mono fun b _ hb=>Nat.le_of_lt hb
theorem xkX (w:World) (s:Value) (l:List V) (hs:CSl Any_ w 1 s l.length (l.flatMap fun k=>(raw k).cells.toList)) (hk:∀ k ∈ l,k.kind=5/\Tidy k) (hn:l.length<=1000) :
  Calls prog 68 #[.int .i64 5,s,.func (.func 69) #[] #[]] w (Gives (xcx w 5 l)):=by
 obtain ⟨i1,hi,hz0,hz1,hz2⟩:=info_parts xbc;obtain ⟨hlx,A,c,rfl,hnc,hcm,hc⟩:=hs;rw [flatMap_one (g:=raw) (fun a ha=>by simp [raw,(hk a ha).1,Value.cells])] at hlx hc;have HK:=hid hk;have HC:=hid hc;clear hc hlx hk;unfold maxLen at hcm;obtain ⟨n,hnn⟩:∃ n,l.length=n:=⟨_,rfl⟩
 have HL:=hid hnn;rw [hnn] at hn hnc ⊢;clear hnn;go_enter func68,ntmps68;go_wp2;have HT:=Blk.two w #[.int .i64 0,.int .u64 0,.string ⟨#[]⟩,.slice none 0 0,.int .i64 0,.slice none 0 0] #[.int .i64 23,.int .u64 0,.string ⟨#[]⟩,.slice none 0 0,.int .i64 5,.slice none 0 0] 25;have HI:=hid (NInv.start (l:=l) (show w.heap.size < w.heap.size+1 by omega) HT.1 HT.2.2 HT.2.1);generalize (w.alloc (.cells #[.int .i64 0,.int .u64 0,.string ⟨#[]⟩,.slice none 0 0,.int .i64 0,.slice none 0 0] 25)).alloc (.cells #[.int .i64 23,.int .u64 0,.string ⟨#[]⟩,.slice none 0 0,.int .i64 5,.slice none 0 0] 25)=W2 at HT HI ⊢;generalize hC:w.heap.size+1=C at HT HI ⊢;clear HT hC
 go_loopw [14] (fun q w'=>∃ (k:Nat) (la:List Lay) (x:Value),k<=n/\q = .int .i64 k/\Hid (NInv w 5 l C k la x w')) (fun q _=>n - (RowKit.intOf q).toNat)
 case atStart=>exact ⟨0,[],_,by omega,rfl,HI⟩
 case round =>
  obtain ⟨k,la,x,hk,rfl,HN⟩:=hrel;obtain ⟨po,co,ho⟩:=HN.out.row.form;subst ho;have hcc:=HN.out.cell;have cC3:=hcc.cell 3;have fC3:=hcc.frozen 3;simp only [gt,gz,gs] at cC3
  by_cases hkn:k < n
  ·have hkn':(k:Int) < (n:Int):=by omega
   have hk0:(0:Int)<=(k:Int):=by omega
   have e1:IntKind.i64.wrap ((k:Int)+1)=(k:Int)+1:=IntWalk.i64_in _ (by omega);obtain ⟨v,hv⟩:∃ v,l[k]? = some v:=⟨l[k]'(by rw [HL.out];exact hkn),ge _⟩
   obtain ⟨b,off,rfl,hcell⟩:∃ b off,A=some ⟨b,off,none⟩/\∀ j u,(l.map raw)[j]? = some u->w.cell? ⟨b,off+j,none⟩=some u:=by
    rcases HC.out with h0 | ⟨b,off,h1,_,h2⟩
    ·rw [HL.out] at h0;omega
    ·exact ⟨b,off,h1,h2⟩
   have hm:=HK.out v (gm hv);have hrw:raw v = .int .u64 v.num:=by simp [raw,hm.1]
   have cx:wr.cell? ⟨b,off+k,none⟩=some (.int .u64 v.num):=HN.out.kept.cell (hrw ▸ hcell k _ (by rw [gM,hv];rfl)) (fun h=>h);have HV:=hid (aI hv hm);have htx:v.text=⟨#[]⟩:=hm.2.empty (by omega);have HTX:=hid htx;clear htx;have hp1:=hm.2.pos;have cCa:∀ o,(wr.alloc o).drew.cell? ⟨C,3,none⟩=some (.slice po la.length co):=fun o=>by have h:=((HN.out.cell.alloc o).drew).cell 3;exact h
   clear hcell hv hm hcc hrw;go_wp2
   go_region_law (first | (go_simp;go_at_call 69;refine (vl4_ok _ _).mono ?_;rintro e w3 ⟨rfl,rfl⟩) | (refine xaG _ (.tmp 19) (.tmp 25) 23 rfl w.heap.size 25 i1 _ 6 88 underlying23 hi hz0 hz1 hz2 rfl (by decide) _ _ _ rfl (HN.out.row.nope (((kR Nope wr).drew).alloc (.cells (xau 5 v.num ⟨#[]⟩).cells.toArray 25))).own Any_ _ 1 (xau 5 v.num ⟨#[]⟩).cells rfl (CSl.one_six (W:=wr.drew) _ rfl) (xbt _ _ _) (by have:=HN.out.len;unfold maxLen;omega) (by have:=HN.out.len;omega) ((HN.out.kept.alloc (.cells (xau 5 v.num ⟨#[]⟩).cells.toArray 25)).drew).size ?_;intro v4 w4 hown hgrow hblk;obtain ⟨p4,c4,rfl⟩:=ownsRow_form hown;have hC4:=((HN.out.cell.alloc (.cells (xau 5 v.num ⟨#[]⟩).cells.toArray 25)).drew).grown hgrow (fun e=>HN.out.ne e.symm);have cC4:=hC4.cell 3;have fC4:=hC4.frozen 3;simp only [gt,gz,gs] at cC4;have HO:=hid (aI hown (aI hgrow hblk));clear hown hgrow hblk hC4))
   all_goals
    have hst:=(HN.out.nope (((kR Nope wr).alloc (.cells (xau 5 v.num ⟨#[]⟩).cells.toArray 25)).drew)).step (t:=⟨#[]⟩) HV.out.1 HTX.out (by omega) (by omega) (by decide) HO.out.1 HO.out.2.1 HO.out.2.2;have HS:=hid hst;clear hst;go_wp2;go_roundw
    case rel=>exact ⟨k+1,_,_,by omega,by go_num,HS⟩
    case measure=>simp [RowKit.intOf];omega
  ·obtain rfl:k=n:=by omega
   have hlt:¬ (k:Int) < (k:Int):=by omega
   have rr:=HN.out.res;have r0:=rr.cell 0;have r1:=rr.cell 1;have r2:=rr.cell 2;have r3:=rr.cell 3;have r4:=rr.cell 4;have r5:=rr.cell 5;have g0:=rr.frozen 0;have g1:=rr.frozen 1;have g2:=rr.frozen 2;have g3:=rr.frozen 3;have g4:=rr.frozen 4;have g5:=rr.frozen 5;have q0:=hcc.cell 0;have q1:=hcc.cell 1;have q2:=hcc.cell 2;have q4:=hcc.cell 4;have q5:=hcc.cell 5;simp only [gt,gz,gs] at r0 r1 r2 r3 r4 r5 q0 q1 q2 q4 q5;have HRR:=hid rr;clear hcc rr;go_wp2;have hB2:=(((((HRR.out.set_ 0 (.int .i64 23)).set_ 1 (.int .u64 0)).set_ 2 (.string ⟨#[]⟩)).set_ 3 (.slice po la.length co)).set_ 4 (.int .i64 5)).set_ 5 (.slice none 0 0);have hks:Kept (Only w.heap.size) wr ((((((wr.setCell ⟨w.heap.size,0,none⟩ (.int .i64 23)).setCell ⟨w.heap.size,1,none⟩ (.int .u64 0)).setCell ⟨w.heap.size,2,none⟩ (.string ⟨#[]⟩)).setCell ⟨w.heap.size,3,none⟩ (.slice po la.length co)).setCell ⟨w.heap.size,4,none⟩ (.int .i64 5)).setCell ⟨w.heap.size,5,none⟩ (.slice none 0 0)):=((((((kR _ _).set1 0 _).set1 1 _).set1 2 _).set1 3 _).set1 4 _).set1 5 _;refine bodyPost_ret (v:=.agg #[.int .i64 23,.int .u64 0,.string ⟨#[]⟩,.slice po la.length co,.int .i64 5,.slice none 0 0]) (results_cell_row (P:=prog) rfl _ _ w.heap.size 25 _ _ _ rfl hB2 underlying25 rfl (by kernel_rfl)) rfl ⟨_,rfl,HN.out.kept.trans hks (fun b hb e=>by have e':b=w.heap.size:=e;omega),?_⟩;exact ((NInv.done (l:=l) (by rw [HL.out];exact HN.out) (by omega)).keep hks (fun b _ hb e=>by have e':b=w.heap.size:=e;omega)).mono fun b _ hb=>Nat.le_of_lt hb
theorem bytes_eta (t:ByteArray):(⟨(bytesOf t).toArray⟩:ByteArray)=t:=by obtain ⟨a⟩:=t;simp [bytesOf]
theorem vl12_ok (x:Value) (t:ByteArray) (w:World) (h:BSl Any_ w x (bytesOf t)):Calls prog 86 #[x] w fun e w'=>e = .returned (.string t)/\w=w':=by
 have hcv:=xbe 26 9 5 underlying26 underlying5 underlying9 h;rw [bytes_eta] at hcv;obtain ⟨a,c,rfl,_⟩:=h;go_enter func86,ntmps86;go_wp2;go_ret;exact ⟨rfl,rfl⟩
theorem xkz (w:World) (s:Value) (l:List V) (xs:List Value) (hs:CSl Any_ w 1 s l.length xs) (hbs:∀ (i:Nat) (x:Value) (k:V),xs[i]? = some x->l[i]? = some k->BSl Any_ w x (bytesOf k.text)) (hk:∀ k ∈ l,k.kind=18/\Tidy k) (hn:l.length<=1000) :
  Calls prog 85 #[.int .i64 18,s,.func (.func 86) #[] #[]] w (Gives (xcx w 18 l)):=by
 obtain ⟨i1,hi,hz0,hz1,hz2⟩:=info_parts xbc;obtain ⟨hlx,A,c,rfl,hnc,hcm,hc⟩:=hs;have HLX:=hid hlx;have HBS:=hid hbs;clear hbs;have HK:=hid hk;have HC:=hid hc;clear hc hlx hk;unfold maxLen at hcm;obtain ⟨n,hnn⟩:∃ n,l.length=n:=⟨_,rfl⟩
 have HL:=hid hnn;rw [hnn] at hn hnc ⊢;clear hnn;go_enter func85,ntmps85;go_wp2;have HT:=Blk.two w #[.int .i64 0,.int .u64 0,.string ⟨#[]⟩,.slice none 0 0,.int .i64 0,.slice none 0 0] #[.int .i64 23,.int .u64 0,.string ⟨#[]⟩,.slice none 0 0,.int .i64 18,.slice none 0 0] 25;have HI:=hid (NInv.start (l:=l) (show w.heap.size < w.heap.size+1 by omega) HT.1 HT.2.2 HT.2.1);generalize (w.alloc (.cells #[.int .i64 0,.int .u64 0,.string ⟨#[]⟩,.slice none 0 0,.int .i64 0,.slice none 0 0] 25)).alloc (.cells #[.int .i64 23,.int .u64 0,.string ⟨#[]⟩,.slice none 0 0,.int .i64 18,.slice none 0 0] 25)=W2 at HT HI ⊢;generalize hC:w.heap.size+1=C at HT HI ⊢;clear HT hC
 go_loopw [14] (fun q w'=>∃ (k:Nat) (la:List Lay) (x:Value),k<=n/\q = .int .i64 k/\Hid (NInv w 18 l C k la x w')) (fun q _=>n - (RowKit.intOf q).toNat)
 case atStart=>exact ⟨0,[],_,by omega,rfl,HI⟩
 case round =>
  obtain ⟨k,la,x,hk,rfl,HN⟩:=hrel;obtain ⟨po,co,ho⟩:=HN.out.row.form;subst ho;have hcc:=HN.out.cell;have cC3:=hcc.cell 3;have fC3:=hcc.frozen 3;simp only [gt,gz,gs] at cC3
  by_cases hkn:k < n
  ·have hkn':(k:Int) < (n:Int):=by omega
   have hk0:(0:Int)<=(k:Int):=by omega
   have e1:IntKind.i64.wrap ((k:Int)+1)=(k:Int)+1:=IntWalk.i64_in _ (by omega);obtain ⟨v,hv⟩:∃ v,l[k]? = some v:=⟨l[k]'(by rw [HL.out];exact hkn),ge _⟩
   obtain ⟨b,off,rfl,hcell⟩:∃ b off,A=some ⟨b,off,none⟩/\∀ j u,xs[j]? = some u->w.cell? ⟨b,off+j,none⟩=some u:=by
    rcases HC.out with h0 | ⟨b,off,h1,_,h2⟩
    ·rw [HL.out] at h0;omega
    ·exact ⟨b,off,h1,h2⟩
   have hm:=HK.out v (gm hv);obtain ⟨xv,hxv⟩:∃ x,xs[k]? = some x:=⟨xs[k]'(by rw [HLX.out,HL.out];omega),ge _⟩
   have hxb:=(HBS.out k xv v hxv hv).keep HN.out.kept (fun _ _ _ h=>h);have hxb2:=hxb;obtain ⟨ax,cpx,rfl,_⟩:=hxb2;have cx:wr.cell? ⟨b,off+k,none⟩=some (.slice ax (bytesOf v.text).length cpx):=HN.out.kept.cell (hcell k _ hxv) (fun h=>h);have HXB:=hid hxb;clear hxb hxv;have HV:=hid (aI hv hm);have hz:v.num=0:=hm.2.zero (.inr (by omega));have HZ:=hid hz;clear hz;have HTS:=hid hm.2.size;have hp1:=hm.2.pos;have cCa:∀ o,(wr.alloc o).drew.cell? ⟨C,3,none⟩=some (.slice po la.length co):=fun o=>by have h:=((HN.out.cell.alloc o).drew).cell 3;exact h
   clear hcell hv hm hcc;go_wp2
   go_region_law (first | (go_simp;go_at_call 86;refine (vl12_ok _ _ _ (HXB.out.keep ((kR Nope wr).drew) (fun _ _ _ h=>h))).mono ?_;rintro e w3 ⟨rfl,rfl⟩) | (refine xaG _ (.tmp 19) (.tmp 25) 23 rfl w.heap.size 25 i1 _ 6 88 underlying23 hi hz0 hz1 hz2 rfl (by decide) _ _ _ rfl (HN.out.row.nope (((kR Nope wr).drew).alloc (.cells (xau 18 0 v.text).cells.toArray 25))).own Any_ _ 1 (xau 18 0 v.text).cells rfl (CSl.one_six (W:=wr.drew) _ rfl) (xbt _ _ _) (by have:=HN.out.len;unfold maxLen;omega) (by have:=HN.out.len;omega) ((HN.out.kept.alloc (.cells (xau 18 0 v.text).cells.toArray 25)).drew).size ?_;intro v4 w4 hown hgrow hblk;obtain ⟨p4,c4,rfl⟩:=ownsRow_form hown;have hC4:=((HN.out.cell.alloc (.cells (xau 18 0 v.text).cells.toArray 25)).drew).grown hgrow (fun e=>HN.out.ne e.symm);have cC4:=hC4.cell 3;have fC4:=hC4.frozen 3;simp only [gt,gz,gs] at cC4;have HO:=hid (aI hown (aI hgrow hblk));clear hown hgrow hblk hC4))
   all_goals
    have hst:=(HN.out.nope (((kR Nope wr).alloc (.cells (xau 18 0 v.text).cells.toArray 25)).drew)).step (t:=v.text) HV.out.1 rfl (by omega) (by omega) (by have:=HTS.out;unfold maxLen;omega) (by rw [HZ.out];exact HO.out.1) HO.out.2.1 HO.out.2.2;have HS:=hid hst;clear hst;go_wp2;go_roundw
    case rel=>exact ⟨k+1,_,_,by omega,by go_num,HS⟩
    case measure=>simp [RowKit.intOf];omega
  ·obtain rfl:k=n:=by omega
   have hlt:¬ (k:Int) < (k:Int):=by omega
   have rr:=HN.out.res;have r0:=rr.cell 0;have r1:=rr.cell 1;have r2:=rr.cell 2;have r3:=rr.cell 3;have r4:=rr.cell 4;have r5:=rr.cell 5;have g0:=rr.frozen 0;have g1:=rr.frozen 1;have g2:=rr.frozen 2;have g3:=rr.frozen 3;have g4:=rr.frozen 4;have g5:=rr.frozen 5;have q0:=hcc.cell 0;have q1:=hcc.cell 1;have q2:=hcc.cell 2;have q4:=hcc.cell 4;have q5:=hcc.cell 5;simp only [gt,gz,gs] at r0 r1 r2 r3 r4 r5 q0 q1 q2 q4 q5;have HRR:=hid rr;clear hcc rr;go_wp2;have hB2:=(((((HRR.out.set_ 0 (.int .i64 23)).set_ 1 (.int .u64 0)).set_ 2 (.string ⟨#[]⟩)).set_ 3 (.slice po la.length co)).set_ 4 (.int .i64 18)).set_ 5 (.slice none 0 0);have hks:Kept (Only w.heap.size) wr ((((((wr.setCell ⟨w.heap.size,0,none⟩ (.int .i64 23)).setCell ⟨w.heap.size,1,none⟩ (.int .u64 0)).setCell ⟨w.heap.size,2,none⟩ (.string ⟨#[]⟩)).setCell ⟨w.heap.size,3,none⟩ (.slice po la.length co)).setCell ⟨w.heap.size,4,none⟩ (.int .i64 18)).setCell ⟨w.heap.size,5,none⟩ (.slice none 0 0)):=((((((kR _ _).set1 0 _).set1 1 _).set1 2 _).set1 3 _).set1 4 _).set1 5 _;refine bodyPost_ret (v:=.agg #[.int .i64 23,.int .u64 0,.string ⟨#[]⟩,.slice po la.length co,.int .i64 18,.slice none 0 0]) (results_cell_row (P:=prog) rfl _ _ w.heap.size 25 _ _ _ rfl hB2 underlying25 rfl (by kernel_rfl)) rfl ⟨_,rfl,HN.out.kept.trans hks (fun b hb e=>by have e':b=w.heap.size:=e;omega),?_⟩;exact ((NInv.done (l:=l) (by rw [HL.out];exact HN.out) (by omega)).keep hks (fun b _ hb e=>by have e':b=w.heap.size:=e;omega)).mono fun b _ hb=>Nat.le_of_lt hb
end Go.Proofs.YtmdpodeegdjkeaaGreatDoor
