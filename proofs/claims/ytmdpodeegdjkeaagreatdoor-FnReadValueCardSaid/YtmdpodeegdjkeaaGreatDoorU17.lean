/- Part 17 of the proof of the readers and the guards. No conditions. -/
import Derived.Deep.RegionHeld3
import Derived.Deep.DrawnRows
import Derived.Deep.MidRow
import Derived.Maps.OwnSet
import Derived.WalkMore
import Derived.Test.YtmdpodeegdjkeaaGreatDoorU0
import Derived.Test.YtmdpodeegdjkeaaGreatDoorU4
import Derived.Test.YtmdpodeegdjkeaaGreatDoorU9
import Derived.Test.YtmdpodeegdjkeaaGreatDoorU10
import Derived.Test.YtmdpodeegdjkeaaGreatDoorU12
import Derived.Test.YtmdpodeegdjkeaaGreatDoorU14
import Derived.Test.YtmdpodeegdjkeaaGreatDoorU15
set_option maxRecDepth 100000
set_option maxHeartbeats 3200000
namespace Go.Proofs.YtmdpodeegdjkeaaGreatDoor
open Go Go.RowKit Go.Lib Tryz
attribute [local go_sem ↓] Go.wp_at_zero Go.wp_at_succ
theorem xfb {α β:Type} {f:α->List β} {n:Nat}:∀ {l:List α},(∀ u ∈ l,(f u).length=n)->∀ {k:Nat} {v:α},l[k]? = some v->∀ {m:Nat},m < n->(l.flatMap f)[k*n+m]? = (f v)[m]?
 | [],_,k,v,hv,_,_=>by simp at hv
 | a :: l,hl,0,v,hv,m,hm=>by
  simp at hv;subst hv;rw [List.flatMap_cons,List.getElem?_append_left (by rw [hl a (by simp)];omega)];simp
 | a :: l,hl,k+1,v,hv,m,hm=>by
  have h1:=hl a (by simp);rw [List.flatMap_cons,List.getElem?_append_right (by rw [h1,Nat.add_mul];omega),h1];have:(k+1)*n+m - n=k*n+m:=by rw [Nat.add_mul,Nat.one_mul];omega
  rw [this];exact xfb (fun u hu=>hl u (by simp [hu])) (by simpa using hv) hm
theorem vl10_ok (a b ms u:Int) (w:World) (hm:wrap64 (wrap64 (a*1000)+b.tdiv 1000000)=ms) (hb:0<=b/\b < 1000000000) (hu:IntKind.u64.wrap ms=u):Calls prog 82 #[.agg #[.int .i64 a,.int .i64 b]] w fun e w'=>e = .returned (.int .u64 u)/\Kept Nope w w':=by
 have HM:=hid (aI hm hb);clear hm hb;go_enter func82,ntmps82;go_wp2_with (go_at_call 60;go_must (refine (xem a b ms _ HM.out.1 HM.out.2).mono ?_;rintro e w1 ⟨rfl,hk⟩;have H1:=hid hk;clear hk));go_ret;exact ⟨rfl,((kR Nope w).alloc _).trans' H1.out⟩
theorem xjM (w:World) (s:Value) (l:List V) (hs:CSl Any_ w 2 s l.length (l.flatMap fun k=>(raw k).cells.toList)) (hk:∀ k ∈ l,k.kind=16/\Tidy k) (hn:l.length<=1000) :
  Calls prog 81 #[.int .i64 16,s,.func (.func 82) #[] #[]] w (Gives (xcx w 16 l)):=by
 obtain ⟨i1,hi,hz0,hz1,hz2⟩:=info_parts xbc;obtain ⟨hlx,A,c,rfl,hnc,hcm,hc⟩:=hs;have HK:=hid hk;have HC:=hid hc;clear hc hlx hk;unfold maxLen at hcm;obtain ⟨n,hnn⟩:∃ n,l.length=n:=⟨_,rfl⟩
 have HL:=hid hnn;rw [hnn] at hn hnc ⊢;clear hnn;go_enter func81,ntmps81;go_wp2;have HT:=Blk.two w #[.int .i64 0,.int .u64 0,.string ⟨#[]⟩,.slice none 0 0,.int .i64 0,.slice none 0 0] #[.int .i64 23,.int .u64 0,.string ⟨#[]⟩,.slice none 0 0,.int .i64 16,.slice none 0 0] 25;have HI:=hid (NInv.start (l:=l) (show w.heap.size < w.heap.size+1 by omega) HT.1 HT.2.2 HT.2.1);generalize (w.alloc (.cells #[.int .i64 0,.int .u64 0,.string ⟨#[]⟩,.slice none 0 0,.int .i64 0,.slice none 0 0] 25)).alloc (.cells #[.int .i64 23,.int .u64 0,.string ⟨#[]⟩,.slice none 0 0,.int .i64 16,.slice none 0 0] 25)=W2 at HT HI ⊢;generalize hC:w.heap.size+1=C at HT HI ⊢;clear HT hC
 go_loopw [14] (fun q w'=>∃ (k:Nat) (la:List Lay) (x:Value),k<=n/\q = .int .i64 k/\Hid (NInv w 16 l C k la x w')) (fun q _=>n - (RowKit.intOf q).toNat)
 case atStart=>exact ⟨0,[],_,by omega,rfl,HI⟩
 case round =>
  obtain ⟨k,la,x,hk,rfl,HN⟩:=hrel;obtain ⟨po,co,ho⟩:=HN.out.row.form;subst ho;have hcc:=HN.out.cell;have cC3:=hcc.cell 3;have fC3:=hcc.frozen 3;simp only [gt,gz,gs] at cC3
  by_cases hkn:k < n
  ·have hkn':(k:Int) < (n:Int):=by omega
   have hk0:(0:Int)<=(k:Int):=by omega
   have e1:IntKind.i64.wrap ((k:Int)+1)=(k:Int)+1:=IntWalk.i64_in _ (by omega);obtain ⟨v,hv⟩:∃ v,l[k]? = some v:=⟨l[k]'(by rw [HL.out];exact hkn),ge _⟩
   obtain ⟨b,off,rfl,hcell⟩:∃ b off,A=some ⟨b,off,none⟩/\∀ j u,(l.flatMap fun k=>(raw k).cells.toList)[j]? = some u->w.cell? ⟨b,off+j,none⟩=some u:=by
    rcases HC.out with h0 | ⟨b,off,h1,_,h2⟩
    ·rw [HL.out] at h0;omega
    ·exact ⟨b,off,h1,h2⟩
   have hm:=HK.out v (gm hv);have hms:-9223372036854775808<=sint v.num/\sint v.num<=9223372036854775807:=by have:=hm.2.pos;unfold sint;split <;> omega
   have hwr:=xdS hm.2.pos;obtain ⟨p,q,hp,hq,hpq,hqb⟩:∃ p q,sint v.num / 1000=p/\sint v.num % 1000*1000000=q/\wrap64 (wrap64 (p*1000)+q.tdiv 1000000)=sint v.num/\0<=q/\q < 1000000000:=⟨_,_,rfl,rfl,xgN _ hms.1 hms.2,by omega,by omega⟩
   have hcl:∀ u ∈ l,((raw u).cells.toList).length=2:=fun u hu=>by simp [raw,(HK.out u hu).1,tm,Value.cells]
   have hcx:(raw v).cells.toList=[.int .i64 p,.int .i64 q]:=by simp [raw,hm.1,tm,Value.cells,hp,hq]
   have x0:wr.cell? ⟨b,off+k*2,none⟩=some (.int .i64 p):=HN.out.kept.cell (hcell (k*2) _ (by rw [<- Nat.add_zero (k*2),xfb hcl hv (by omega),hcx];rfl)) (fun h=>h);have x1:wr.cell? ⟨b,off+k*2+1,none⟩=some (.int .i64 q):=HN.out.kept.cell (by have:=hcell (k*2+1) _ (by rw [xfb hcl hv (by omega),hcx];rfl);rw [<- Nat.add_assoc] at this;exact this) (fun h=>h);have HPQ:=hid (aI hpq (aI hqb hwr));have HV:=hid (aI hv hm);have htx:v.text=⟨#[]⟩:=hm.2.empty (by omega);have HTX:=hid htx;clear htx;have hp1:=hm.2.pos;have hvb:=hm.2.pos;clear hcell hv hm hcc hp hq hpq hqb hms hwr hcl hcx;go_wp2;have HW1:=hid ((kR Nope wr).alloc (.cells #[.int .i64 p,.int .i64 q] 109));have hB9:=Blk.new wr 109 #[.int .i64 p,.int .i64 q];generalize wr.alloc (.cells #[.int .i64 p,.int .i64 q] 109)=W1 at HW1 hB9 ⊢;obtain ⟨B9,hb9⟩:∃ b,wr.heap.size=b:=⟨_,rfl⟩
   rw [hb9] at hB9 ⊢;have cC1:=((HN.out.cell.kept HW1.out (fun h=>h))).cell 3;have b0:=hB9.cell 0;have b1:=hB9.cell 1;simp only [gt,gz,gs] at cC1 b0 b1;clear hB9 x0 x1 cC3 fC3 hb9
   go_region_law (first | (go_simp;go_at_call 82;refine (vl10_ok p q _ v.num _ HPQ.out.1 HPQ.out.2.1 HPQ.out.2.2).mono ?_;rintro e w3 ⟨rfl,hk3⟩;have hC3:=((HN.out.cell.kept HW1.out (fun h=>h)).kept (((kR Nope W1).drew).trans' hk3) (fun h=>h));have cC3:=hC3.cell 3;have cCa:∀ o,(w3.alloc o).cell? ⟨C,3,none⟩=some (.slice po la.length co):=fun o=>(hC3.alloc o).cell 3;simp only [gt,gz,gs] at cC3;have HS3:=hid (((kR Nope W1).drew).trans' hk3);clear hk3 hC3) | (refine xaG _ (.tmp 19) (.tmp 25) 23 rfl w.heap.size 25 i1 _ 6 88 underlying23 hi hz0 hz1 hz2 rfl (by decide) _ _ _ rfl (HN.out.row.nope (HW1.out.trans' (HS3.out.alloc (.cells (xau 16 v.num ⟨#[]⟩).cells.toArray 25)))).own Any_ _ 1 (xau 16 v.num ⟨#[]⟩).cells rfl (CSl.one_six (W:=w3) _ rfl) (xbt _ _ _) (by have:=HN.out.len;unfold maxLen;omega) (by have:=HN.out.len;omega) ((HN.out.kept.trans' HW1.out).trans' (HS3.out.alloc _)).size ?_;intro v4 w4 hown hgrow hblk;obtain ⟨p4,c4,rfl⟩:=ownsRow_form hown;have hC4:=(((HN.out.cell.kept HW1.out (fun h=>h)).kept (HS3.out.alloc (.cells (xau 16 v.num ⟨#[]⟩).cells.toArray 25)) (fun h=>h))).grown hgrow (fun e=>HN.out.ne e.symm);have cC4:=hC4.cell 3;have fC4:=hC4.frozen 3;simp only [gt,gz,gs] at cC4;have HO:=hid (aI hown (aI hgrow hblk));clear hown hgrow hblk hC4))
   all_goals
    have hst:=(HN.out.nope (HW1.out.trans' (HS3.out.alloc (.cells (xau 16 v.num ⟨#[]⟩).cells.toArray 25)))).step (t:=⟨#[]⟩) HV.out.1 HTX.out (by omega) (by omega) (by decide) HO.out.1 HO.out.2.1 HO.out.2.2;have HS:=hid hst;clear hst;go_wp2;go_roundw
    case rel=>exact ⟨k+1,_,_,by omega,by go_num,HS⟩
    case measure=>simp [RowKit.intOf];omega
  ·obtain rfl:k=n:=by omega
   have hlt:¬ (k:Int) < (k:Int):=by omega
   have rr:=HN.out.res;have r0:=rr.cell 0;have r1:=rr.cell 1;have r2:=rr.cell 2;have r3:=rr.cell 3;have r4:=rr.cell 4;have r5:=rr.cell 5;have g0:=rr.frozen 0;have g1:=rr.frozen 1;have g2:=rr.frozen 2;have g3:=rr.frozen 3;have g4:=rr.frozen 4;have g5:=rr.frozen 5;have q0:=hcc.cell 0;have q1:=hcc.cell 1;have q2:=hcc.cell 2;have q4:=hcc.cell 4;have q5:=hcc.cell 5;simp only [gt,gz,gs] at r0 r1 r2 r3 r4 r5 q0 q1 q2 q4 q5;have HRR:=hid rr;clear hcc rr;go_wp2;have hB2:=(((((HRR.out.set_ 0 (.int .i64 23)).set_ 1 (.int .u64 0)).set_ 2 (.string ⟨#[]⟩)).set_ 3 (.slice po la.length co)).set_ 4 (.int .i64 16)).set_ 5 (.slice none 0 0);have hks:Kept (Only w.heap.size) wr ((((((wr.setCell ⟨w.heap.size,0,none⟩ (.int .i64 23)).setCell ⟨w.heap.size,1,none⟩ (.int .u64 0)).setCell ⟨w.heap.size,2,none⟩ (.string ⟨#[]⟩)).setCell ⟨w.heap.size,3,none⟩ (.slice po la.length co)).setCell ⟨w.heap.size,4,none⟩ (.int .i64 16)).setCell ⟨w.heap.size,5,none⟩ (.slice none 0 0)):=((((((kR _ _).set1 0 _).set1 1 _).set1 2 _).set1 3 _).set1 4 _).set1 5 _;refine bodyPost_ret (v:=.agg #[.int .i64 23,.int .u64 0,.string ⟨#[]⟩,.slice po la.length co,.int .i64 16,.slice none 0 0]) (results_cell_row (P:=prog) rfl _ _ w.heap.size 25 _ _ _ rfl hB2 underlying25 rfl (by kernel_rfl)) rfl ⟨_,rfl,HN.out.kept.trans hks (fun b hb e=>by have e':b=w.heap.size:=e;omega),?_⟩;exact ((NInv.done (l:=l) (by rw [HL.out];exact HN.out) (by omega)).keep hks (fun b _ hb e=>by have e':b=w.heap.size:=e;omega)).mono fun b _ hb=>Nat.le_of_lt hb
theorem vl11_ok (bs:List UInt8) (w:World) (hl:bs.length=16):Calls prog 84 #[uid bs] w fun e w'=>e = .returned (.string ⟨bs.toArray⟩)/\Kept Nope w w':=by
 obtain ⟨b0,b1,b2,b3,b4,b5,b6,b7,b8,b9,b10,b11,b12,b13,b14,b15,rfl⟩:=sixteen hl;have hb:=BSl.blk (Blk.new w 112 ([b0,b1,b2,b3,b4,b5,b6,b7,b8,b9,b10,b11,b12,b13,b14,b15].map u8).toArray) (by simp);have hcv:=xbe 26 9 5 underlying26 underlying5 underlying9 hb;simp only [List.map_cons,List.map_nil,lC,List.length_nil,Nat.zero_add,Nat.reduceAdd] at hcv;unfold uid;simp only [List.map_cons,List.map_nil];unfold u8 at hcv ⊢;clear hb hl;go_enter func84,ntmps84;go_wp2;go_ret;exact ⟨rfl,(kR Nope w).alloc _⟩
theorem xmr (w:World) (s:Value) (l:List V) (hs:CSl Any_ w 16 s l.length (l.flatMap fun k=>(raw k).cells.toList)) (hk:∀ k ∈ l,k.kind=17/\Tidy k) (hn:l.length<=1000) :
  Calls prog 83 #[.int .i64 17,s,.func (.func 84) #[] #[]] w (Gives (xcx w 17 l)):=by
 obtain ⟨i1,hi,hz0,hz1,hz2⟩:=info_parts xbc;obtain ⟨hlx,A,c,rfl,hnc,hcm,hc⟩:=hs;have HK:=hid hk;have HC:=hid hc;clear hc hlx hk;unfold maxLen at hcm;obtain ⟨n,hnn⟩:∃ n,l.length=n:=⟨_,rfl⟩
 have HL:=hid hnn;rw [hnn] at hn hnc ⊢;clear hnn;go_enter func83,ntmps83;go_wp2;have HT:=Blk.two w #[.int .i64 0,.int .u64 0,.string ⟨#[]⟩,.slice none 0 0,.int .i64 0,.slice none 0 0] #[.int .i64 23,.int .u64 0,.string ⟨#[]⟩,.slice none 0 0,.int .i64 17,.slice none 0 0] 25;have HI:=hid (NInv.start (l:=l) (show w.heap.size < w.heap.size+1 by omega) HT.1 HT.2.2 HT.2.1);generalize (w.alloc (.cells #[.int .i64 0,.int .u64 0,.string ⟨#[]⟩,.slice none 0 0,.int .i64 0,.slice none 0 0] 25)).alloc (.cells #[.int .i64 23,.int .u64 0,.string ⟨#[]⟩,.slice none 0 0,.int .i64 17,.slice none 0 0] 25)=W2 at HT HI ⊢;generalize hC:w.heap.size+1=C at HT HI ⊢;clear HT hC
 go_loopw [14] (fun q w'=>∃ (k:Nat) (la:List Lay) (x:Value),k<=n/\q = .int .i64 k/\Hid (NInv w 17 l C k la x w')) (fun q _=>n - (RowKit.intOf q).toNat)
 case atStart=>exact ⟨0,[],_,by omega,rfl,HI⟩
 case round =>
  obtain ⟨k,la,x,hk,rfl,HN⟩:=hrel;obtain ⟨po,co,ho⟩:=HN.out.row.form;subst ho;have hcc:=HN.out.cell;have cC3:=hcc.cell 3;have fC3:=hcc.frozen 3;simp only [gt,gz,gs] at cC3
  by_cases hkn:k < n
  ·have hkn':(k:Int) < (n:Int):=by omega
   have hk0:(0:Int)<=(k:Int):=by omega
   have e1:IntKind.i64.wrap ((k:Int)+1)=(k:Int)+1:=IntWalk.i64_in _ (by omega);obtain ⟨v,hv⟩:∃ v,l[k]? = some v:=⟨l[k]'(by rw [HL.out];exact hkn),ge _⟩
   obtain ⟨b,off,rfl,hcell⟩:∃ b off,A=some ⟨b,off,none⟩/\∀ j u,(l.flatMap fun k=>(raw k).cells.toList)[j]? = some u->w.cell? ⟨b,off+j,none⟩=some u:=by
    rcases HC.out with h0 | ⟨b,off,h1,_,h2⟩
    ·rw [HL.out] at h0;omega
    ·exact ⟨b,off,h1,h2⟩
   have hm:=HK.out v (gm hv);have hcl:∀ u ∈ l,((raw u).cells.toList).length=16:=fun u hu=>by simp [raw,(HK.out u hu).1,uid,Value.cells,bytesOf_length,(HK.out u hu).2.uuid (HK.out u hu).1]
   have hcx:(raw v).cells.toList=(bytesOf v.text).map u8:=by simp [raw,hm.1,uid,Value.cells]
   have hbl:(bytesOf v.text).length=16:=by rw [bytesOf_length];exact hm.2.uuid hm.1
   have hrg:wr.rangeAt b (off+k*16) ((bytesOf v.text).map u8):=fun i u hu=>by
    have hi:i < 16:=by have:=(gi.1 hu).1;rw [lM,hbl] at this;exact this
    have:=hcell (k*16+i) u (by rw [xfb hcl hv hi,hcx];exact hu);rw [<- Nat.add_assoc] at this;exact HN.out.kept.cell this (fun h=>h)
   have HRG:=hid (aI hrg hbl);have HV:=hid (aI hv hm);have hz:v.num=0:=hm.2.zero (.inr (by omega));have HZ:=hid hz;clear hz;have HTS:=hid hm.2.size;have hp1:=hm.2.pos;clear hcell hv hm hcc hcl hcx hbl hrg;have hu2:(prog.info? 112).map (fun i=>i.size)=some 16:=by kernel_rfl
   have HU:=hid hu2;clear hu2;go_wp2_with (first | (refine xbl rfl 112 (.tmp 9) (.tmp 17) rfl wr.heap.size ((bytesOf v.text).map u8).toArray rfl rfl 112 z16 (Blk.new wr 112 z16) (by rw [HU.out,List.size_toArray,lM,HRG.out.2]) (by show 16=_;rw [List.size_toArray,lM,HRG.out.2]) (by exact xpx _) ?_;intro W1 hB9 hKs;have HW1:=hid (((kR Nope wr).alloc (.cells z16 112)).trans hKs (fun b hb e=>by have e':b=wr.heap.size:=e;omega));have HB9:=hid hB9;clear hB9 hKs) | (refine wpList_load_mid rfl 112 (.tmp 16) rfl b (off+k*16) rfl ((bytesOf v.text).map u8) _ HRG.out.1 underlying112 rfl (by rw [HU.out,lM,HRG.out.2]) ?_));obtain ⟨B9,hb9⟩:∃ b,wr.heap.size=b:=⟨_,rfl⟩
   rw [hb9] at HB9 ⊢;have cC1:=((HN.out.cell.kept HW1.out (fun h=>h))).cell 3;simp only [gt,gz,gs] at cC1;clear cC3 fC3 hb9;obtain ⟨b0,b1,b2,b3,b4,b5,b6,b7,b8,b9,b10,b11,b12,b13,b14,b15,hbs⟩:=sixteen HRG.out.2;have hB9:=HB9.out;rw [hbs] at hB9;have d0:W1.cell? ⟨B9,0,none⟩=some (.int .u8 b0.toNat):=hB9.cell 0;have d1:W1.cell? ⟨B9,1,none⟩=some (.int .u8 b1.toNat):=hB9.cell 1;have d2:W1.cell? ⟨B9,2,none⟩=some (.int .u8 b2.toNat):=hB9.cell 2;have d3:W1.cell? ⟨B9,3,none⟩=some (.int .u8 b3.toNat):=hB9.cell 3;have d4:W1.cell? ⟨B9,4,none⟩=some (.int .u8 b4.toNat):=hB9.cell 4;have d5:W1.cell? ⟨B9,5,none⟩=some (.int .u8 b5.toNat):=hB9.cell 5;have d6:W1.cell? ⟨B9,6,none⟩=some (.int .u8 b6.toNat):=hB9.cell 6;have d7:W1.cell? ⟨B9,7,none⟩=some (.int .u8 b7.toNat):=hB9.cell 7;have d8:W1.cell? ⟨B9,8,none⟩=some (.int .u8 b8.toNat):=hB9.cell 8;have d9:W1.cell? ⟨B9,9,none⟩=some (.int .u8 b9.toNat):=hB9.cell 9;have d10:W1.cell? ⟨B9,10,none⟩=some (.int .u8 b10.toNat):=hB9.cell 10;have d11:W1.cell? ⟨B9,11,none⟩=some (.int .u8 b11.toNat):=hB9.cell 11;have d12:W1.cell? ⟨B9,12,none⟩=some (.int .u8 b12.toNat):=hB9.cell 12;have d13:W1.cell? ⟨B9,13,none⟩=some (.int .u8 b13.toNat):=hB9.cell 13;have d14:W1.cell? ⟨B9,14,none⟩=some (.int .u8 b14.toNat):=hB9.cell 14;have d15:W1.cell? ⟨B9,15,none⟩=some (.int .u8 b15.toNat):=hB9.cell 15;have hte:(⟨[b0,b1,b2,b3,b4,b5,b6,b7,b8,b9,b10,b11,b12,b13,b14,b15].toArray⟩:ByteArray)=v.text:=by rw [<- hbs];exact bytes_eta _
   have HTE:=hid hte;clear hB9 hbs hte
   go_region_law (first | (go_simp;go_at_call 84;refine (vl11_ok [b0,b1,b2,b3,b4,b5,b6,b7,b8,b9,b10,b11,b12,b13,b14,b15] _ rfl).mono ?_;rintro e w3 ⟨rfl,hk3⟩;rw [HTE.out];have hC3:=((HN.out.cell.kept HW1.out (fun h=>h)).kept (((kR Nope W1).drew).trans' hk3) (fun h=>h));have cC3:=hC3.cell 3;have cCa:∀ o,(w3.alloc o).cell? ⟨C,3,none⟩=some (.slice po la.length co):=fun o=>(hC3.alloc o).cell 3;simp only [gt,gz,gs] at cC3;have HS3:=hid (((kR Nope W1).drew).trans' hk3);clear hk3 hC3) | (refine xaG _ (.tmp 19) (.tmp 25) 23 rfl w.heap.size 25 i1 _ 6 88 underlying23 hi hz0 hz1 hz2 rfl (by decide) _ _ _ rfl (HN.out.row.nope (HW1.out.trans' (HS3.out.alloc (.cells (xau 17 0 v.text).cells.toArray 25)))).own Any_ _ 1 (xau 17 0 v.text).cells rfl (CSl.one_six (W:=w3) _ rfl) (xbt _ _ _) (by have:=HN.out.len;unfold maxLen;omega) (by have:=HN.out.len;omega) ((HN.out.kept.trans' HW1.out).trans' (HS3.out.alloc _)).size ?_;intro v4 w4 hown hgrow hblk;obtain ⟨p4,c4,rfl⟩:=ownsRow_form hown;have hC4:=(((HN.out.cell.kept HW1.out (fun h=>h)).kept (HS3.out.alloc (.cells (xau 17 0 v.text).cells.toArray 25)) (fun h=>h))).grown hgrow (fun e=>HN.out.ne e.symm);have cC4:=hC4.cell 3;have fC4:=hC4.frozen 3;simp only [gt,gz,gs] at cC4;have HO:=hid (aI hown (aI hgrow hblk));clear hown hgrow hblk hC4))
   all_goals
    have hst:=(HN.out.nope (HW1.out.trans' (HS3.out.alloc (.cells (xau 17 0 v.text).cells.toArray 25)))).step (t:=v.text) HV.out.1 rfl (by omega) (by omega) (by have:=HTS.out;unfold maxLen;omega) (by rw [HZ.out];exact HO.out.1) HO.out.2.1 HO.out.2.2;have HS:=hid hst;clear hst;go_wp2;go_roundw
    case rel=>exact ⟨k+1,_,_,by omega,by go_num,HS⟩
    case measure=>simp [RowKit.intOf];omega
  ·obtain rfl:k=n:=by omega
   have hlt:¬ (k:Int) < (k:Int):=by omega
   have rr:=HN.out.res;have r0:=rr.cell 0;have r1:=rr.cell 1;have r2:=rr.cell 2;have r3:=rr.cell 3;have r4:=rr.cell 4;have r5:=rr.cell 5;have g0:=rr.frozen 0;have g1:=rr.frozen 1;have g2:=rr.frozen 2;have g3:=rr.frozen 3;have g4:=rr.frozen 4;have g5:=rr.frozen 5;have q0:=hcc.cell 0;have q1:=hcc.cell 1;have q2:=hcc.cell 2;have q4:=hcc.cell 4;have q5:=hcc.cell 5;simp only [gt,gz,gs] at r0 r1 r2 r3 r4 r5 q0 q1 q2 q4 q5;have HRR:=hid rr;clear hcc rr;go_wp2;have hB2:=(((((HRR.out.set_ 0 (.int .i64 23)).set_ 1 (.int .u64 0)).set_ 2 (.string ⟨#[]⟩)).set_ 3 (.slice po la.length co)).set_ 4 (.int .i64 17)).set_ 5 (.slice none 0 0);have hks:Kept (Only w.heap.size) wr ((((((wr.setCell ⟨w.heap.size,0,none⟩ (.int .i64 23)).setCell ⟨w.heap.size,1,none⟩ (.int .u64 0)).setCell ⟨w.heap.size,2,none⟩ (.string ⟨#[]⟩)).setCell ⟨w.heap.size,3,none⟩ (.slice po la.length co)).setCell ⟨w.heap.size,4,none⟩ (.int .i64 17)).setCell ⟨w.heap.size,5,none⟩ (.slice none 0 0)):=((((((kR _ _).set1 0 _).set1 1 _).set1 2 _).set1 3 _).set1 4 _).set1 5 _;refine bodyPost_ret (v:=.agg #[.int .i64 23,.int .u64 0,.string ⟨#[]⟩,.slice po la.length co,.int .i64 17,.slice none 0 0]) (results_cell_row (P:=prog) rfl _ _ w.heap.size 25 _ _ _ rfl hB2 underlying25 rfl (by kernel_rfl)) rfl ⟨_,rfl,HN.out.kept.trans hks (fun b hb e=>by have e':b=w.heap.size:=e;omega),?_⟩;exact ((NInv.done (l:=l) (by rw [HL.out];exact HN.out) (by omega)).keep hks (fun b _ hb e=>by have e':b=w.heap.size:=e;omega)).mono fun b _ hb=>Nat.le_of_lt hb
theorem xkB (v:V) (w:World) (s:Value) (hs:CSl Any_ w 2 s v.kids.length (v.kids.flatMap fun k=>(raw k).cells.toList)) (hk:∀ k ∈ v.kids,k.kind=16/\Tidy k) (hn:v.kids.length<=1000) (hlo:xao v (xai 16 v.kids)) :
  Calls prog 33 #[.iface 144 s] w (xac (xbE w v)):=by
 have hl:=xjM (w.alloc (.cells zVal 25)) s v.kids (hs.keep ((kR Nope w).alloc _) (fun _ _ _ h=>h)) hk hn;have HL:=hid hl;have HLO:=hid hlo;clear hl hs hk hn hlo;have f_bool:=fun W=>xad (T:=144) (s) W (by decide)
 have f_u8:=fun W=>xas (T:=144) (s) W (by decide)
 have f_u16:=fun W=>xam (T:=144) (s) W (by decide)
 have f_u32:=fun W=>xal (T:=144) (s) W (by decide)
 have f_u64:=fun W=>xak (T:=144) (s) W (by decide)
 have f_i8:=fun W=>xaF (T:=144) (s) W (by decide)
 have f_i16:=fun W=>xav (T:=144) (s) W (by decide)
 have f_i32:=fun W=>xaC (T:=144) (s) W (by decide)
 have f_i64:=fun W=>xaH (T:=144) (s) W (by decide)
 have f_f32:=fun W=>xaO (T:=144) (s) W (by decide)
 have f_f64:=fun W=>xaQ (T:=144) (s) W (by decide)
 have f_Time:=fun W=>xaJ (T:=144) (s) W (by decide)
 have f_UUID:=fun W=>xaM (T:=144) (s) W (by decide)
 have f_bytes:=fun W=>xaI (T:=144) (s) W (by decide)
 have f_string:=fun W=>xar (T:=144) (s) W (by decide)
 have f_Symbol:=fun W=>xaD (T:=144) (s) W (by decide)
 have f_sAny:=fun W=>xaV (T:=144) (s) W (by decide)
 have f_mAny:=fun W=>xbb (T:=144) (s) W (by decide)
 have f_mStr:=fun W=>xbk (T:=144) (s) W (by decide)
 have f_sBool:=fun W=>xaZ (T:=144) (s) W (by decide)
 have f_ArrayUByte:=fun W=>xat (T:=144) (s) W (by decide)
 have f_sU16:=fun W=>xbA (T:=144) (s) W (by decide)
 have f_sU32:=fun W=>xbH (T:=144) (s) W (by decide)
 have f_sU64:=fun W=>xbM (T:=144) (s) W (by decide)
 have f_sI8:=fun W=>xcp (T:=144) (s) W (by decide)
 have f_sI16:=fun W=>xck (T:=144) (s) W (by decide)
 have f_sI32:=fun W=>xcA (T:=144) (s) W (by decide)
 have f_sI64:=fun W=>xcL (T:=144) (s) W (by decide)
 have f_sF32:=fun W=>xdn (T:=144) (s) W (by decide)
 have f_sF64:=fun W=>xdX (T:=144) (s) W (by decide)
 have fy:=fun W=>xlH (s) W
 go_enter func33,ntmps33;go_wp2_with (go_at_call 81;go_must (refine HL.out.mono ?_;rintro e w1 ⟨y,rfl,hk,ks,ds,rfl,hvn,hv1,hv2⟩;obtain ⟨py,cy,rfl,_⟩:=hv1.form;obtain ⟨pd,cd,rfl,_⟩:=hv2.form;have HR:=hid ((Blk.new w 25 zVal).kept hk (fun h=>h));have H1:=hid (aI (((kR Nope w).alloc _).trans' hk) (aI (xaq hv1) (aI (xaq hv2) hvn)));clear hk hv1 hv2 hvn;unfold vagg;have rr:=HR.out;unfold zVal at rr;have r0:=rr.cell 0;have r1:=rr.cell 1;have r2:=rr.cell 2;have r3:=rr.cell 3;have r4:=rr.cell 4;have r5:=rr.cell 5;have g0:=rr.frozen 0;have g1:=rr.frozen 1;have g2:=rr.frozen 2;have g3:=rr.frozen 3;have g4:=rr.frozen 4;have g5:=rr.frozen 5;simp only [gt,gz,gs] at r0 r1 r2 r3 r4 r5;clear rr;simp only [xbp,xbB,xbo,xbS]))
 (try simp only [Exit.inBlock,Exit.then])
 have hB2:=(((((HR.out.set_ 0 (.int .i64 23)).set_ 1 (.int .u64 0)).set_ 2 (.string ⟨#[]⟩)).set_ 3 (.slice py (xai 16 v.kids).kids.length cy)).set_ 4 (.int .i64 16)).set_ 5 (.slice pd (xai 16 v.kids).desc.length cd);have hld:=run_loadVar_row (P:=prog) _ w.heap.size 25 25 _ _ _ hB2 underlying25 rfl (by kernel_rfl);have hks:Kept (Only w.heap.size) w1 ((((((w1.setCell ⟨w.heap.size,0,none⟩ (.int .i64 23)).setCell ⟨w.heap.size,1,none⟩ (.int .u64 0)).setCell ⟨w.heap.size,2,none⟩ (.string ⟨#[]⟩)).setCell ⟨w.heap.size,3,none⟩ (.slice py (xai 16 v.kids).kids.length cy)).setCell ⟨w.heap.size,4,none⟩ (.int .i64 16)).setCell ⟨w.heap.size,5,none⟩ (.slice pd (xai 16 v.kids).desc.length cd)):=((((((kR _ _).set1 0 _).set1 1 _).set1 2 _).set1 3 _).set1 4 _).set1 5 _;refine bodyPost_ret (v:=.tuple #[.agg #[.int .i64 23,.int .u64 0,.string ⟨#[]⟩,.slice py (xai 16 v.kids).kids.length cy,.int .i64 16,.slice pd (xai 16 v.kids).desc.length cd],.bool true]) ?_ rfl ⟨_,_,rfl,rfl,H1.out.1.trans hks (fun b hb e=>by have e':b=w.heap.size:=e;omega),?_⟩
 ·rw [results_cell_tmp rfl];simp only [Array.getD_eq_getD_getElem?,gt,gz,gs,Option.getD_some,asAddr,Sem.run_pure,Result.andThen_ok];rw [hld]
  rfl
 ·exact ⟨xai 16 v.kids,⟨_,_,rfl,H1.out.2.2.2,(H1.out.2.1.keep hks (fun b _ hb e=>by have e':b=w.heap.size:=e;omega)).mono fun b _ hb=>Nat.le_of_lt hb,(H1.out.2.2.1.keep hks (fun b _ hb e=>by have e':b=w.heap.size:=e;omega)).mono fun b _ hb=>Nat.le_of_lt hb⟩,HLO.out⟩
theorem xkA (v:V) (w:World) (s:Value) (hs:CSl Any_ w 16 s v.kids.length (v.kids.flatMap fun k=>(raw k).cells.toList)) (hk:∀ k ∈ v.kids,k.kind=17/\Tidy k) (hn:v.kids.length<=1000) (hlo:xao v (xai 17 v.kids)) :
  Calls prog 33 #[.iface 147 s] w (xac (xbE w v)):=by
 have hl:=xmr (w.alloc (.cells zVal 25)) s v.kids (hs.keep ((kR Nope w).alloc _) (fun _ _ _ h=>h)) hk hn;have HL:=hid hl;have HLO:=hid hlo;clear hl hs hk hn hlo;have f_bool:=fun W=>xad (T:=147) (s) W (by decide)
 have f_u8:=fun W=>xas (T:=147) (s) W (by decide)
 have f_u16:=fun W=>xam (T:=147) (s) W (by decide)
 have f_u32:=fun W=>xal (T:=147) (s) W (by decide)
 have f_u64:=fun W=>xak (T:=147) (s) W (by decide)
 have f_i8:=fun W=>xaF (T:=147) (s) W (by decide)
 have f_i16:=fun W=>xav (T:=147) (s) W (by decide)
 have f_i32:=fun W=>xaC (T:=147) (s) W (by decide)
 have f_i64:=fun W=>xaH (T:=147) (s) W (by decide)
 have f_f32:=fun W=>xaO (T:=147) (s) W (by decide)
 have f_f64:=fun W=>xaQ (T:=147) (s) W (by decide)
 have f_Time:=fun W=>xaJ (T:=147) (s) W (by decide)
 have f_UUID:=fun W=>xaM (T:=147) (s) W (by decide)
 have f_bytes:=fun W=>xaI (T:=147) (s) W (by decide)
 have f_string:=fun W=>xar (T:=147) (s) W (by decide)
 have f_Symbol:=fun W=>xaD (T:=147) (s) W (by decide)
 have f_sAny:=fun W=>xaV (T:=147) (s) W (by decide)
 have f_mAny:=fun W=>xbb (T:=147) (s) W (by decide)
 have f_mStr:=fun W=>xbk (T:=147) (s) W (by decide)
 have f_sBool:=fun W=>xaZ (T:=147) (s) W (by decide)
 have f_ArrayUByte:=fun W=>xat (T:=147) (s) W (by decide)
 have f_sU16:=fun W=>xbA (T:=147) (s) W (by decide)
 have f_sU32:=fun W=>xbH (T:=147) (s) W (by decide)
 have f_sU64:=fun W=>xbM (T:=147) (s) W (by decide)
 have f_sI8:=fun W=>xcp (T:=147) (s) W (by decide)
 have f_sI16:=fun W=>xck (T:=147) (s) W (by decide)
 have f_sI32:=fun W=>xcA (T:=147) (s) W (by decide)
 have f_sI64:=fun W=>xcL (T:=147) (s) W (by decide)
 have f_sF32:=fun W=>xdn (T:=147) (s) W (by decide)
 have f_sF64:=fun W=>xdX (T:=147) (s) W (by decide)
 have f_sTime:=fun W=>xel (T:=147) (s) W (by decide)
 have fy:=fun W=>xlG (s) W
 go_enter func33,ntmps33;go_wp2_with (go_at_call 83;go_must (refine HL.out.mono ?_;rintro e w1 ⟨y,rfl,hk,ks,ds,rfl,hvn,hv1,hv2⟩;obtain ⟨py,cy,rfl,_⟩:=hv1.form;obtain ⟨pd,cd,rfl,_⟩:=hv2.form;have HR:=hid ((Blk.new w 25 zVal).kept hk (fun h=>h));have H1:=hid (aI (((kR Nope w).alloc _).trans' hk) (aI (xaq hv1) (aI (xaq hv2) hvn)));clear hk hv1 hv2 hvn;unfold vagg;have rr:=HR.out;unfold zVal at rr;have r0:=rr.cell 0;have r1:=rr.cell 1;have r2:=rr.cell 2;have r3:=rr.cell 3;have r4:=rr.cell 4;have r5:=rr.cell 5;have g0:=rr.frozen 0;have g1:=rr.frozen 1;have g2:=rr.frozen 2;have g3:=rr.frozen 3;have g4:=rr.frozen 4;have g5:=rr.frozen 5;simp only [gt,gz,gs] at r0 r1 r2 r3 r4 r5;clear rr;simp only [xbp,xbB,xbo,xbS]))
 (try simp only [Exit.inBlock,Exit.then])
 have hB2:=(((((HR.out.set_ 0 (.int .i64 23)).set_ 1 (.int .u64 0)).set_ 2 (.string ⟨#[]⟩)).set_ 3 (.slice py (xai 17 v.kids).kids.length cy)).set_ 4 (.int .i64 17)).set_ 5 (.slice pd (xai 17 v.kids).desc.length cd);have hld:=run_loadVar_row (P:=prog) _ w.heap.size 25 25 _ _ _ hB2 underlying25 rfl (by kernel_rfl);have hks:Kept (Only w.heap.size) w1 ((((((w1.setCell ⟨w.heap.size,0,none⟩ (.int .i64 23)).setCell ⟨w.heap.size,1,none⟩ (.int .u64 0)).setCell ⟨w.heap.size,2,none⟩ (.string ⟨#[]⟩)).setCell ⟨w.heap.size,3,none⟩ (.slice py (xai 17 v.kids).kids.length cy)).setCell ⟨w.heap.size,4,none⟩ (.int .i64 17)).setCell ⟨w.heap.size,5,none⟩ (.slice pd (xai 17 v.kids).desc.length cd)):=((((((kR _ _).set1 0 _).set1 1 _).set1 2 _).set1 3 _).set1 4 _).set1 5 _;refine bodyPost_ret (v:=.tuple #[.agg #[.int .i64 23,.int .u64 0,.string ⟨#[]⟩,.slice py (xai 17 v.kids).kids.length cy,.int .i64 17,.slice pd (xai 17 v.kids).desc.length cd],.bool true]) ?_ rfl ⟨_,_,rfl,rfl,H1.out.1.trans hks (fun b hb e=>by have e':b=w.heap.size:=e;omega),?_⟩
 ·rw [results_cell_tmp rfl];simp only [Array.getD_eq_getD_getElem?,gt,gz,gs,Option.getD_some,asAddr,Sem.run_pure,Result.andThen_ok];rw [hld]
  rfl
 ·exact ⟨xai 17 v.kids,⟨_,_,rfl,H1.out.2.2.2,(H1.out.2.1.keep hks (fun b _ hb e=>by have e':b=w.heap.size:=e;omega)).mono fun b _ hb=>Nat.le_of_lt hb,(H1.out.2.2.1.keep hks (fun b _ hb e=>by have e':b=w.heap.size:=e;omega)).mono fun b _ hb=>Nat.le_of_lt hb⟩,HLO.out⟩
def strKey (e:Value × Value):Prop:=∃ t,e.1 = .iface 9 (.string t)
def StrKeys (es:List (Value × Value)) (vis:List Nat):Prop:=∀ i ∈ vis,∀ e,es[i]? = some e->strKey e
structure xgS (es:List (Value × Value)):Prop where
 form:∀ e ∈ es,∃ T x,e.1 = .iface T x/\T ∈ xej/\(T=9->∃ t,x = .string t)
 apart:∀ (i j:Nat) (e e':Value × Value) (t:ByteArray),es[i]? = some e->es[j]? = some e'->e.1 = .iface 9 (.string t)->e'.1 = .iface 9 (.string t)->i=j
def Copies (es es2:List (Value × Value)) (vis:List Nat):Prop :=
 es2.length=vis.length/\∀ (i:Nat) (e':Value × Value),es2[i]? = some e'->∃ j e t,vis[i]? = some j/\es[j]? = some e/\e.1 = .iface 9 (.string t)/\e'=(.string t,e.2)
def xir (w:World) (b:Nat) (es:List (Value × Value)) (x:Value) (w':World):Prop :=
 Kept Nope w w'/\(x = .iface 70 (.map (some b))\/∃ b2 es2 vis,x = .iface 84 (.map (some b2))/\w.heap.size<=b2/\MapAt w' b2 es2/\Copies es es2 vis/\vis.Nodup/\(∀ i ∈ vis,i < es.length)/\∀ i,i < es.length->i ∈ vis)
theorem xgD (w:World) (b:Nat) (hm:MapAt w b []):Calls prog 182 #[.map (some b)] w (xac fun x e w'=>e = .nilIface/\xir w b [] x w'):=by
 have HM:=hid hm;clear hm;go_enter func182,ntmps182;go_wp2
 go_step3
 go_wp2_with (at_len;go_must (refine xdN rfl (.tmp 11) 70 rfl rfl HM.out underlying70 ?_))
 (try rw [Exit.noGoto_ret])
 go_ret2;exact ⟨_,_,rfl,rfl,kR _ _,.inl rfl⟩
theorem xlv (t:ByteArray) (W:World):(Instr.checkKey false 10000 9 (.string t)).run prog W = .ok () W:=by kernel_rfl
structure CInv (w w':World) (b b2 r2:Nat) (es:List (Value × Value)) (vis:List Nat):Prop where
 rng:xby w' r2 b es vis
 kept:Kept Nope w w'
 map2:∃ es2,MapAt w' b2 es2/\Copies es es2 vis
 big:w.heap.size<=b2
 bigr:w.heap.size<=r2
 ne:b2≠r2
 lt:b < w.heap.size
theorem CInv.fresh {w w':World} {b b2 r2 i:Nat} {es:List (Value × Value)} {vis:List Nat} {e:Value × Value} {t:ByteArray} (h:CInv w w' b b2 r2 es vis) (hK:xgS es) (hi:i ∉ vis) (he:es[i]? = some e) (ht:e.1 = .iface 9 (.string t)) :
  ∃ es2,MapAt w' b2 es2/\Copies es es2 vis/\xeN 9 (.string t) es2:=by
 obtain ⟨es2,hm,hc⟩:=h.map2;refine ⟨es2,hm,hc,xeN.text underlying9 fun e' he' => ?_⟩;obtain ⟨k,hk⟩:=List.mem_iff_getElem?.1 he';obtain ⟨j,e0,t0,hv,hj,h0,rfl⟩:=hc.2 k e' hk;refine ⟨t0,rfl,fun e1 => ?_⟩;subst e1;have:=hK.apart j i e0 e t0 hj he h0 ht;subst this;exact hi (gm hv)
theorem CInv.step {w w1 w2 w3:World} {b b2 r2 i:Nat} {es es2:List (Value × Value)} {vis:List Nat} {e:Value × Value} {t:ByteArray} (h:CInv w w1 b b2 r2 es vis) (he:es[i]? = some e) (ht:e.1 = .iface 9 (.string t))
  (hR:xby w2 r2 b es (vis ++ [i])) (hk:Kept (Only r2) w1 w2) (hc:Copies es es2 vis) (hm:MapAt w3 b2 (es2 ++ [(.string t,e.2)])) (hk3:Kept (Only b2) w2 w3):CInv w w3 b b2 r2 es (vis ++ [i]):=by
 have hlt:=h.lt;have hb:=h.big;have hr:=h.bigr;have hn:=h.ne;refine ⟨hR.keep hk3 (fun e=>by have e':b=b2:=e;omega) (fun e=>hn (show r2=b2 from e).symm),?_,⟨_,hm,by simp [hc.1],fun k e' hk' => ?_⟩,h.big,h.bigr,h.ne,h.lt⟩
 ·exact (h.kept.trans hk fun k hk1 e=>by have e':k=r2:=e;omega).trans hk3 fun k hk1 e=>by have e':k=b2:=e;omega
 ·rcases Nat.lt_or_ge k es2.length with h1 | h1
  ·rw [List.getElem?_append_left h1] at hk';obtain ⟨j,e0,t0,hv,h2,h3,h4⟩:=hc.2 k e' hk';exact ⟨j,e0,t0,by rw [List.getElem?_append_left (by rw [<- hc.1];exact h1)];exact hv,h2,h3,h4⟩
  ·rw [List.getElem?_append_right h1] at hk'
   have hk0:k - es2.length=0:=by
    have:=(gi.1 hk').1;simp at this;omega
   rw [hk0] at hk';simp at hk';subst hk';refine ⟨i,e,t,?_,he,ht,rfl⟩;rw [List.getElem?_append_right (by rw [<- hc.1];exact h1),<- hc.1,hk0]
   rfl
theorem xgS.kind {es:List (Value × Value)} (h:xgS es) {i:Nat} {e:Value × Value} (he:es[i]? = some e):(∃ t,e.1 = .iface 9 (.string t))\/∃ T x,e.1 = .iface T x/\T≠9/\T≠83:=by
 obtain ⟨T,x,h1,h2,h3⟩:=h.form e (gm he)
 by_cases hT:T=9
 ·obtain ⟨t,rfl⟩:=h3 hT;exact .inl ⟨t,by rw [h1,hT]⟩
 ·exact .inr ⟨T,x,h1,hT,xaz h2 (by decide)⟩
theorem xgC (w:World) (b:Nat) (es:List (Value × Value)) (hm:MapAt w b es) (hz:0 < es.length) (hK:xgS es) (hsm:es.length<=65536):Calls prog 182 #[.map (some b)] w (xac fun x e w'=>e = .nilIface/\xir w b es x w'):=by
 have HM:=hid hm;have HK:=hid hK;have hz':((es.length:Int) == 0)=false:=by rw [beq_eq_false_iff_ne];omega
 have hbl:=hm.lt;clear hm hK;go_enter func182,ntmps182;go_wp2
 go_step3
 go_wp2_with (at_len;go_must (refine xdN rfl (.tmp 11) 70 rfl rfl HM.out underlying70 ?_))
 go_step3
 go_wp2_with (at_range;go_must (refine xbT rfl (.tmp 16) 70 rfl rfl HM.out underlying70 ?_;intro w1 hR hk1;have H1:=hid (aI hR hk1);clear hR hk1))
 (try go_simp)
 go_loopw [4] (fun c w'=>c = .bool true/\∃ vis,Hid (xby w' w.heap.size b es vis/\StrKeys es vis/\Kept Nope w w')) (fun _ w'=>es.length - xdd w' w.heap.size)
 case atStart=>exact ⟨rfl,[],hid ⟨H1.out.1,fun i hi=>by simp at hi,H1.out.2⟩⟩
 case round =>
  obtain ⟨rfl,vis,HI⟩:=hrel;clear H1;go_wp2_with (at_next;go_must (refine xcb rfl (.tmp 17) rfl rfl HI.out.1 ?_ ?_))
  ·intro hall;have hstr:∀ i e,es[i]? = some e->strKey e:=fun i e he=>HI.out.2.1 i (hall i (gi.1 he).1) e he
   have HE:=hid hstr;have HKw:=hid HI.out.2.2;have HMw:=hid (HI.out.1.map_);have hmk:=fun W=>xdq underlying84 .i64 (es.length:Int) W
   clear hstr hall HI HM;have hma:MapAt (wr.alloc (.map #[] 0)) b es:=HMw.out.keep ((kR Nope wr).alloc _) (fun h=>h);have HMa:=hid hma;have hsz0:(wr.alloc (.map #[] 0)).heap.size=wr.heap.size+1:=by simp
   have HZ:=hid hsz0;clear hma hsz0;go_wp2_with (first | (at_len;go_must (refine xdN rfl (.tmp 30) 70 rfl rfl HMw.out underlying70 ?_)) | (at_range;go_must (refine xbT rfl (.tmp 33) 70 rfl rfl HMa.out underlying70 ?_;rw [HZ.out];intro w3 hR hk3;have H3:=hid (aI hR hk3);clear hR hk3)));clear hmk;have hC:CInv w w3 b wr.heap.size (wr.heap.size+1) es []:=⟨H3.out.1,(HKw.out.alloc _).trans' H3.out.2,⟨[],(MapAt.new wr).keep H3.out.2 (fun h=>h),rfl,fun i e he=>by simp at he⟩,HKw.out.size,Nat.le_succ_of_le HKw.out.size,Nat.ne_of_lt (Nat.lt_succ_self _),hbl⟩;have HC:=hid hC;clear hC
   (try go_simp)
   obtain ⟨B,hB⟩:∃ B,wr.heap.size=B:=⟨_,rfl⟩
   rw [hB] at HC ⊢;clear H3 HMa HZ HMw HKw hB
   go_loopw [7] (fun _ w'=>∃ vis,Hid (CInv w w' b B (B+1) es vis)) (fun _ w'=>es.length - xdd w' (B+1))
   case atStart=>exact ⟨[],HC⟩
   case round =>
    obtain ⟨vis2,HI⟩:=hrel;clear HC;go_wp2_with (at_next;go_must (refine xcb rfl (.tmp 34) rfl rfl HI.out.rng ?_ ?_))
    ·intro hall;have HA:=hid hall;clear hall;go_wp2_with (fail)
     (try rw [Exit.noGoto_ret])
     go_ret2;obtain ⟨es2,hm2,hc2⟩:=HI.out.map2;exact ⟨_,_,rfl,rfl,HI.out.kept,.inr ⟨B,es2,vis2,rfl,HI.out.big,hm2,hc2,HI.out.rng.nodup,HI.out.rng.below,HA.out⟩⟩
    ·intro i a v w4 hi he hR hk;obtain ⟨t,ht⟩:=HE.out i _ he;simp only at ht;subst ht;obtain ⟨es2,hm2,hc2,hno⟩:=HI.out.fresh HK.out hi he rfl;have hB2:¬ Only (B+1) B:=fun e=>by have e':B=B+1:=e;omega
     have H4:=hid (aI hR (aI he (aI hk (aI hc2 (aI (hm2.keep hk hB2) hno)))));have hsz:=HI.out.rng.size_;have hsz2:=hR.size_;have hfew:=hR.few;rw [lA,List.length_singleton] at hsz2 hfew;have HM2:=hid (aI hsz (aI hsz2 hfew));have hf:=fun W=>xdh (.string t) W
     clear hR hk hi he hsz hsz2 hfew hm2 hc2 hno;go_wp2_with (first | (refine xbG rfl (.tmp 34) rfl rfl H4.out.1 H4.out.2.1 ?_) | (at_mapUpdate;go_must (refine xbw rfl (.tmp 44) (.tmp 45) (.tmp 46) 84 rfl rfl rfl rfl H4.out.2.2.2.2.1 underlying84 (fun W=>xlv t W) H4.out.2.2.2.2.2 ?_;intro w6 hm6 hk6;have hst:=HI.out.step H4.out.2.1 rfl H4.out.1 H4.out.2.2.1 H4.out.2.2.2.1 hm6 hk6;have H6:=hid hst;clear hm6 hk6 hst)));have hs6:=H6.out.rng.size_;rw [lA,List.length_singleton] at hs6;have h7:=HM2.out
     (try go_simp)
     go_roundw
     case rel=>exact ⟨_,H6⟩
     case measure=>omega
  ·intro i a v w2 hi he hR hk;have H2:=hid (aI hR (aI (HI.out.2.2.trans hk fun k hk e=>by have e':k=w.heap.size:=e;omega) he));have hsz:=HI.out.1.size_;have hsz2:=hR.size_;have hfew:=hR.few;rw [lA,List.length_singleton] at hsz2 hfew;have HM2:=hid (show es.length - xdd w2 w.heap.size < es.length - xdd wr w.heap.size by omega)
   rcases HK.out.kind he with ⟨t,ht⟩ | ⟨T,x,ht,hT,hT2⟩
   ·simp only at ht;subst ht
    have HS:=hid (show StrKeys es (vis ++ [i]) from fun j hj e hje=>by
     rcases List.mem_append.1 hj with hj | hj
     ·exact HI.out.2.1 j hj e hje
     ·have:j=i:=by simpa using hj
      subst this;rw [he] at hje;cases hje
      exact ⟨t,rfl⟩)
    have hf:=fun W=>xdh (.string t) W
    clear hR hk hi he hsz hsz2 hfew;go_wp2_with (refine xbG rfl (.tmp 17) rfl rfl H2.out.1 H2.out.2.2 ?_);exact ⟨⟨rfl,_,hid ⟨H2.out.1,HS.out,H2.out.2.1⟩⟩,HM2.out⟩
   ·simp only at ht;subst ht;have hf:=fun W=>xar (T:=T) x W hT
    have hf2:=fun W=>xaD (T:=T) x W hT2
    clear hR hk hi he hsz hsz2 hfew;go_wp2_with (refine xbG rfl (.tmp 17) rfl rfl H2.out.1 H2.out.2.2 ?_);rw [Exit.noGoto_ret];go_ret2;exact ⟨_,_,rfl,rfl,H2.out.2.1,.inl rfl⟩
end Go.Proofs.YtmdpodeegdjkeaaGreatDoor
