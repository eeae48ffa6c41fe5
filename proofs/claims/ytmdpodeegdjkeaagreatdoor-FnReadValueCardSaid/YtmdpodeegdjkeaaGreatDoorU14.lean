/- Part 14 of the proof of the readers and the guards. No conditions. -/
import Derived.Test.YtmdpodeegdjkeaaGreatDoorU0
import Derived.Test.YtmdpodeegdjkeaaGreatDoorU12
set_option maxRecDepth 100000
set_option maxHeartbeats 3200000
namespace Go.Proofs.YtmdpodeegdjkeaaGreatDoor
open Go Go.RowKit Go.Lib Tryz
theorem xdS {n:Int} (h:0<=n/\n < 18446744073709551616):IntKind.u64.wrap (sint n)=n:=by
 unfold sint;simp only [IntKind.wrap,IntKind.bits,IntKind.signed]
 split <;> simp <;> omega
theorem vl5_ok (n:Int) (w:World) (h:0<=n/\n < 18446744073709551616):Calls prog 71 #[.int .i8 (sint n)] w fun e w'=>e = .returned (.int .u64 n)/\w=w':=by
 have hw:=xdS h;generalize sint n=m at hw ⊢;go_enter func71,ntmps71;go_wp2;go_ret;exact ⟨rfl,rfl⟩
theorem vl6_ok (n:Int) (w:World) (h:0<=n/\n < 18446744073709551616):Calls prog 73 #[.int .i16 (sint n)] w fun e w'=>e = .returned (.int .u64 n)/\w=w':=by
 have hw:=xdS h;generalize sint n=m at hw ⊢;go_enter func73,ntmps73;go_wp2;go_ret;exact ⟨rfl,rfl⟩
theorem vl7_ok (n:Int) (w:World) (h:0<=n/\n < 18446744073709551616):Calls prog 75 #[.int .i32 (sint n)] w fun e w'=>e = .returned (.int .u64 n)/\w=w':=by
 have hw:=xdS h;generalize sint n=m at hw ⊢;go_enter func75,ntmps75;go_wp2;go_ret;exact ⟨rfl,rfl⟩
theorem vl8_ok (n:Int) (w:World) (h:0<=n/\n < 18446744073709551616):Calls prog 77 #[.int .i64 (sint n)] w fun e w'=>e = .returned (.int .u64 n)/\w=w':=by
 have hw:=xdS h;generalize sint n=m at hw ⊢;go_enter func77,ntmps77;go_wp2;go_ret;exact ⟨rfl,rfl⟩
theorem xmU (w:World) (s:Value) (l:List V) (hs:CSl Any_ w 1 s l.length (l.flatMap fun k=>(raw k).cells.toList)) (hk:∀ k ∈ l,k.kind=6/\Tidy k) (hn:l.length<=1000) :
  Calls prog 70 #[.int .i64 6,s,.func (.func 71) #[] #[]] w (Gives (xcx w 6 l)):=by
 obtain ⟨i1,hi,hz0,hz1,hz2⟩:=info_parts xbc;obtain ⟨hlx,A,c,rfl,hnc,hcm,hc⟩:=hs;rw [flatMap_one (g:=raw) (fun a ha=>by simp [raw,(hk a ha).1,Value.cells])] at hlx hc;have HK:=hid hk;have HC:=hid hc;clear hc hlx hk;unfold maxLen at hcm;obtain ⟨n,hnn⟩:∃ n,l.length=n:=⟨_,rfl⟩
 have HL:=hid hnn;rw [hnn] at hn hnc ⊢;clear hnn;go_enter func70,ntmps70;go_wp2;have HT:=Blk.two w #[.int .i64 0,.int .u64 0,.string ⟨#[]⟩,.slice none 0 0,.int .i64 0,.slice none 0 0] #[.int .i64 23,.int .u64 0,.string ⟨#[]⟩,.slice none 0 0,.int .i64 6,.slice none 0 0] 25;have HI:=hid (NInv.start (l:=l) (show w.heap.size < w.heap.size+1 by omega) HT.1 HT.2.2 HT.2.1);generalize (w.alloc (.cells #[.int .i64 0,.int .u64 0,.string ⟨#[]⟩,.slice none 0 0,.int .i64 0,.slice none 0 0] 25)).alloc (.cells #[.int .i64 23,.int .u64 0,.string ⟨#[]⟩,.slice none 0 0,.int .i64 6,.slice none 0 0] 25)=W2 at HT HI ⊢;generalize hC:w.heap.size+1=C at HT HI ⊢;clear HT hC
 go_loopw [14] (fun q w'=>∃ (k:Nat) (la:List Lay) (x:Value),k<=n/\q = .int .i64 k/\Hid (NInv w 6 l C k la x w')) (fun q _=>n - (RowKit.intOf q).toNat)
 case atStart=>exact ⟨0,[],_,by omega,rfl,HI⟩
 case round =>
  obtain ⟨k,la,x,hk,rfl,HN⟩:=hrel;obtain ⟨po,co,ho⟩:=HN.out.row.form;subst ho;have hcc:=HN.out.cell;have cC3:=hcc.cell 3;have fC3:=hcc.frozen 3;simp only [gt,gz,gs] at cC3
  by_cases hkn:k < n
  ·have hkn':(k:Int) < (n:Int):=by omega
   have hk0:(0:Int)<=(k:Int):=by omega
   have e1:IntKind.i64.wrap ((k:Int)+1)=(k:Int)+1:=IntWalk.i64_in _ (by omega);obtain ⟨v,hv⟩:∃ v,l[k]? = some v:=⟨l[k]'(by rw [HL.out];exact hkn),ge _⟩
   obtain ⟨b,off,rfl,hcell⟩:∃ b off,A=some ⟨b,off,none⟩/\∀ j u,(l.map raw)[j]? = some u->w.cell? ⟨b,off+j,none⟩=some u:=by
    rcases HC.out with h0 | ⟨b,off,h1,_,h2⟩
    ·rw [HL.out] at h0;omega
    ·exact ⟨b,off,h1,h2⟩
   have hm:=HK.out v (gm hv);have hrw:raw v = .int .i8 (sint v.num):=by simp [raw,hm.1]
   have cx:wr.cell? ⟨b,off+k,none⟩=some (.int .i8 (sint v.num)):=HN.out.kept.cell (hrw ▸ hcell k _ (by rw [gM,hv];rfl)) (fun h=>h);have HV:=hid (aI hv hm);have htx:v.text=⟨#[]⟩:=hm.2.empty (by omega);have HTX:=hid htx;clear htx;have hp1:=hm.2.pos;have cCa:∀ o,(wr.alloc o).drew.cell? ⟨C,3,none⟩=some (.slice po la.length co):=fun o=>by have h:=((HN.out.cell.alloc o).drew).cell 3;exact h
   clear hcell hv hm hcc hrw;go_wp2
   go_region_law (first | (go_simp;go_at_call 71;refine (vl5_ok _ _ (by omega)).mono ?_;rintro e w3 ⟨rfl,rfl⟩) | (refine xaG _ (.tmp 19) (.tmp 25) 23 rfl w.heap.size 25 i1 _ 6 88 underlying23 hi hz0 hz1 hz2 rfl (by decide) _ _ _ rfl (HN.out.row.nope (((kR Nope wr).drew).alloc (.cells (xau 6 v.num ⟨#[]⟩).cells.toArray 25))).own Any_ _ 1 (xau 6 v.num ⟨#[]⟩).cells rfl (CSl.one_six (W:=wr.drew) _ rfl) (xbt _ _ _) (by have:=HN.out.len;unfold maxLen;omega) (by have:=HN.out.len;omega) ((HN.out.kept.alloc (.cells (xau 6 v.num ⟨#[]⟩).cells.toArray 25)).drew).size ?_;intro v4 w4 hown hgrow hblk;obtain ⟨p4,c4,rfl⟩:=ownsRow_form hown;have hC4:=((HN.out.cell.alloc (.cells (xau 6 v.num ⟨#[]⟩).cells.toArray 25)).drew).grown hgrow (fun e=>HN.out.ne e.symm);have cC4:=hC4.cell 3;have fC4:=hC4.frozen 3;simp only [gt,gz,gs] at cC4;have HO:=hid (aI hown (aI hgrow hblk));clear hown hgrow hblk hC4))
   all_goals
    have hst:=(HN.out.nope (((kR Nope wr).alloc (.cells (xau 6 v.num ⟨#[]⟩).cells.toArray 25)).drew)).step (t:=⟨#[]⟩) HV.out.1 HTX.out (by omega) (by omega) (by decide) HO.out.1 HO.out.2.1 HO.out.2.2;have HS:=hid hst;clear hst;go_wp2;go_roundw
    case rel=>exact ⟨k+1,_,_,by omega,by go_num,HS⟩
    case measure=>simp [RowKit.intOf];omega
  ·obtain rfl:k=n:=by omega
   have hlt:¬ (k:Int) < (k:Int):=by omega
   have rr:=HN.out.res;have r0:=rr.cell 0;have r1:=rr.cell 1;have r2:=rr.cell 2;have r3:=rr.cell 3;have r4:=rr.cell 4;have r5:=rr.cell 5;have g0:=rr.frozen 0;have g1:=rr.frozen 1;have g2:=rr.frozen 2;have g3:=rr.frozen 3;have g4:=rr.frozen 4;have g5:=rr.frozen 5;have q0:=hcc.cell 0;have q1:=hcc.cell 1;have q2:=hcc.cell 2;have q4:=hcc.cell 4;have q5:=hcc.cell 5;simp only [gt,gz,gs] at r0 r1 r2 r3 r4 r5 q0 q1 q2 q4 q5;have HRR:=hid rr;clear hcc rr;go_wp2;have hB2:=(((((HRR.out.set_ 0 (.int .i64 23)).set_ 1 (.int .u64 0)).set_ 2 (.string ⟨#[]⟩)).set_ 3 (.slice po la.length co)).set_ 4 (.int .i64 6)).set_ 5 (.slice none 0 0);have hks:Kept (Only w.heap.size) wr ((((((wr.setCell ⟨w.heap.size,0,none⟩ (.int .i64 23)).setCell ⟨w.heap.size,1,none⟩ (.int .u64 0)).setCell ⟨w.heap.size,2,none⟩ (.string ⟨#[]⟩)).setCell ⟨w.heap.size,3,none⟩ (.slice po la.length co)).setCell ⟨w.heap.size,4,none⟩ (.int .i64 6)).setCell ⟨w.heap.size,5,none⟩ (.slice none 0 0)):=((((((kR _ _).set1 0 _).set1 1 _).set1 2 _).set1 3 _).set1 4 _).set1 5 _;refine bodyPost_ret (v:=.agg #[.int .i64 23,.int .u64 0,.string ⟨#[]⟩,.slice po la.length co,.int .i64 6,.slice none 0 0]) (results_cell_row (P:=prog) rfl _ _ w.heap.size 25 _ _ _ rfl hB2 underlying25 rfl (by kernel_rfl)) rfl ⟨_,rfl,HN.out.kept.trans hks (fun b hb e=>by have e':b=w.heap.size:=e;omega),?_⟩;exact ((NInv.done (l:=l) (by rw [HL.out];exact HN.out) (by omega)).keep hks (fun b _ hb e=>by have e':b=w.heap.size:=e;omega)).mono fun b _ hb=>Nat.le_of_lt hb
theorem xlc (w:World) (s:Value) (l:List V) (hs:CSl Any_ w 1 s l.length (l.flatMap fun k=>(raw k).cells.toList)) (hk:∀ k ∈ l,k.kind=7/\Tidy k) (hn:l.length<=1000) :
  Calls prog 72 #[.int .i64 7,s,.func (.func 73) #[] #[]] w (Gives (xcx w 7 l)):=by
 obtain ⟨i1,hi,hz0,hz1,hz2⟩:=info_parts xbc;obtain ⟨hlx,A,c,rfl,hnc,hcm,hc⟩:=hs;rw [flatMap_one (g:=raw) (fun a ha=>by simp [raw,(hk a ha).1,Value.cells])] at hlx hc;have HK:=hid hk;have HC:=hid hc;clear hc hlx hk;unfold maxLen at hcm;obtain ⟨n,hnn⟩:∃ n,l.length=n:=⟨_,rfl⟩
 have HL:=hid hnn;rw [hnn] at hn hnc ⊢;clear hnn;go_enter func72,ntmps72;go_wp2;have HT:=Blk.two w #[.int .i64 0,.int .u64 0,.string ⟨#[]⟩,.slice none 0 0,.int .i64 0,.slice none 0 0] #[.int .i64 23,.int .u64 0,.string ⟨#[]⟩,.slice none 0 0,.int .i64 7,.slice none 0 0] 25;have HI:=hid (NInv.start (l:=l) (show w.heap.size < w.heap.size+1 by omega) HT.1 HT.2.2 HT.2.1);generalize (w.alloc (.cells #[.int .i64 0,.int .u64 0,.string ⟨#[]⟩,.slice none 0 0,.int .i64 0,.slice none 0 0] 25)).alloc (.cells #[.int .i64 23,.int .u64 0,.string ⟨#[]⟩,.slice none 0 0,.int .i64 7,.slice none 0 0] 25)=W2 at HT HI ⊢;generalize hC:w.heap.size+1=C at HT HI ⊢;clear HT hC
 go_loopw [14] (fun q w'=>∃ (k:Nat) (la:List Lay) (x:Value),k<=n/\q = .int .i64 k/\Hid (NInv w 7 l C k la x w')) (fun q _=>n - (RowKit.intOf q).toNat)
 case atStart=>exact ⟨0,[],_,by omega,rfl,HI⟩
 case round =>
  obtain ⟨k,la,x,hk,rfl,HN⟩:=hrel;obtain ⟨po,co,ho⟩:=HN.out.row.form;subst ho;have hcc:=HN.out.cell;have cC3:=hcc.cell 3;have fC3:=hcc.frozen 3;simp only [gt,gz,gs] at cC3
  by_cases hkn:k < n
  ·have hkn':(k:Int) < (n:Int):=by omega
   have hk0:(0:Int)<=(k:Int):=by omega
   have e1:IntKind.i64.wrap ((k:Int)+1)=(k:Int)+1:=IntWalk.i64_in _ (by omega);obtain ⟨v,hv⟩:∃ v,l[k]? = some v:=⟨l[k]'(by rw [HL.out];exact hkn),ge _⟩
   obtain ⟨b,off,rfl,hcell⟩:∃ b off,A=some ⟨b,off,none⟩/\∀ j u,(l.map raw)[j]? = some u->w.cell? ⟨b,off+j,none⟩=some u:=by
    rcases HC.out with h0 | ⟨b,off,h1,_,h2⟩
    ·rw [HL.out] at h0;omega
    ·exact ⟨b,off,h1,h2⟩
   have hm:=HK.out v (gm hv);have hrw:raw v = .int .i16 (sint v.num):=by simp [raw,hm.1]
   have cx:wr.cell? ⟨b,off+k,none⟩=some (.int .i16 (sint v.num)):=HN.out.kept.cell (hrw ▸ hcell k _ (by rw [gM,hv];rfl)) (fun h=>h);have HV:=hid (aI hv hm);have htx:v.text=⟨#[]⟩:=hm.2.empty (by omega);have HTX:=hid htx;clear htx;have hp1:=hm.2.pos;have cCa:∀ o,(wr.alloc o).drew.cell? ⟨C,3,none⟩=some (.slice po la.length co):=fun o=>by have h:=((HN.out.cell.alloc o).drew).cell 3;exact h
   clear hcell hv hm hcc hrw;go_wp2
   go_region_law (first | (go_simp;go_at_call 73;refine (vl6_ok _ _ (by omega)).mono ?_;rintro e w3 ⟨rfl,rfl⟩) | (refine xaG _ (.tmp 19) (.tmp 25) 23 rfl w.heap.size 25 i1 _ 6 88 underlying23 hi hz0 hz1 hz2 rfl (by decide) _ _ _ rfl (HN.out.row.nope (((kR Nope wr).drew).alloc (.cells (xau 7 v.num ⟨#[]⟩).cells.toArray 25))).own Any_ _ 1 (xau 7 v.num ⟨#[]⟩).cells rfl (CSl.one_six (W:=wr.drew) _ rfl) (xbt _ _ _) (by have:=HN.out.len;unfold maxLen;omega) (by have:=HN.out.len;omega) ((HN.out.kept.alloc (.cells (xau 7 v.num ⟨#[]⟩).cells.toArray 25)).drew).size ?_;intro v4 w4 hown hgrow hblk;obtain ⟨p4,c4,rfl⟩:=ownsRow_form hown;have hC4:=((HN.out.cell.alloc (.cells (xau 7 v.num ⟨#[]⟩).cells.toArray 25)).drew).grown hgrow (fun e=>HN.out.ne e.symm);have cC4:=hC4.cell 3;have fC4:=hC4.frozen 3;simp only [gt,gz,gs] at cC4;have HO:=hid (aI hown (aI hgrow hblk));clear hown hgrow hblk hC4))
   all_goals
    have hst:=(HN.out.nope (((kR Nope wr).alloc (.cells (xau 7 v.num ⟨#[]⟩).cells.toArray 25)).drew)).step (t:=⟨#[]⟩) HV.out.1 HTX.out (by omega) (by omega) (by decide) HO.out.1 HO.out.2.1 HO.out.2.2;have HS:=hid hst;clear hst;go_wp2;go_roundw
    case rel=>exact ⟨k+1,_,_,by omega,by go_num,HS⟩
    case measure=>simp [RowKit.intOf];omega
  ·obtain rfl:k=n:=by omega
   have hlt:¬ (k:Int) < (k:Int):=by omega
   have rr:=HN.out.res;have r0:=rr.cell 0;have r1:=rr.cell 1;have r2:=rr.cell 2;have r3:=rr.cell 3;have r4:=rr.cell 4;have r5:=rr.cell 5;have g0:=rr.frozen 0;have g1:=rr.frozen 1;have g2:=rr.frozen 2;have g3:=rr.frozen 3;have g4:=rr.frozen 4;have g5:=rr.frozen 5;have q0:=hcc.cell 0;have q1:=hcc.cell 1;have q2:=hcc.cell 2;have q4:=hcc.cell 4;have q5:=hcc.cell 5;simp only [gt,gz,gs] at r0 r1 r2 r3 r4 r5 q0 q1 q2 q4 q5;have HRR:=hid rr;clear hcc rr;go_wp2;have hB2:=(((((HRR.out.set_ 0 (.int .i64 23)).set_ 1 (.int .u64 0)).set_ 2 (.string ⟨#[]⟩)).set_ 3 (.slice po la.length co)).set_ 4 (.int .i64 7)).set_ 5 (.slice none 0 0);have hks:Kept (Only w.heap.size) wr ((((((wr.setCell ⟨w.heap.size,0,none⟩ (.int .i64 23)).setCell ⟨w.heap.size,1,none⟩ (.int .u64 0)).setCell ⟨w.heap.size,2,none⟩ (.string ⟨#[]⟩)).setCell ⟨w.heap.size,3,none⟩ (.slice po la.length co)).setCell ⟨w.heap.size,4,none⟩ (.int .i64 7)).setCell ⟨w.heap.size,5,none⟩ (.slice none 0 0)):=((((((kR _ _).set1 0 _).set1 1 _).set1 2 _).set1 3 _).set1 4 _).set1 5 _;refine bodyPost_ret (v:=.agg #[.int .i64 23,.int .u64 0,.string ⟨#[]⟩,.slice po la.length co,.int .i64 7,.slice none 0 0]) (results_cell_row (P:=prog) rfl _ _ w.heap.size 25 _ _ _ rfl hB2 underlying25 rfl (by kernel_rfl)) rfl ⟨_,rfl,HN.out.kept.trans hks (fun b hb e=>by have e':b=w.heap.size:=e;omega),?_⟩;exact ((NInv.done (l:=l) (by rw [HL.out];exact HN.out) (by omega)).keep hks (fun b _ hb e=>by have e':b=w.heap.size:=e;omega)).mono fun b _ hb=>Nat.le_of_lt hb
theorem xlb (w:World) (s:Value) (l:List V) (hs:CSl Any_ w 1 s l.length (l.flatMap fun k=>(raw k).cells.toList)) (hk:∀ k ∈ l,k.kind=8/\Tidy k) (hn:l.length<=1000) :
  Calls prog 74 #[.int .i64 8,s,.func (.func 75) #[] #[]] w (Gives (xcx w 8 l)):=by
 obtain ⟨i1,hi,hz0,hz1,hz2⟩:=info_parts xbc;obtain ⟨hlx,A,c,rfl,hnc,hcm,hc⟩:=hs;rw [flatMap_one (g:=raw) (fun a ha=>by simp [raw,(hk a ha).1,Value.cells])] at hlx hc;have HK:=hid hk;have HC:=hid hc;clear hc hlx hk;unfold maxLen at hcm;obtain ⟨n,hnn⟩:∃ n,l.length=n:=⟨_,rfl⟩
 have HL:=hid hnn;rw [hnn] at hn hnc ⊢;clear hnn;go_enter func74,ntmps74;go_wp2;have HT:=Blk.two w #[.int .i64 0,.int .u64 0,.string ⟨#[]⟩,.slice none 0 0,.int .i64 0,.slice none 0 0] #[.int .i64 23,.int .u64 0,.string ⟨#[]⟩,.slice none 0 0,.int .i64 8,.slice none 0 0] 25;have HI:=hid (NInv.start (l:=l) (show w.heap.size < w.heap.size+1 by omega) HT.1 HT.2.2 HT.2.1);generalize (w.alloc (.cells #[.int .i64 0,.int .u64 0,.string ⟨#[]⟩,.slice none 0 0,.int .i64 0,.slice none 0 0] 25)).alloc (.cells #[.int .i64 23,.int .u64 0,.string ⟨#[]⟩,.slice none 0 0,.int .i64 8,.slice none 0 0] 25)=W2 at HT HI ⊢;generalize hC:w.heap.size+1=C at HT HI ⊢;clear HT hC
 go_loopw [14] (fun q w'=>∃ (k:Nat) (la:List Lay) (x:Value),k<=n/\q = .int .i64 k/\Hid (NInv w 8 l C k la x w')) (fun q _=>n - (RowKit.intOf q).toNat)
 case atStart=>exact ⟨0,[],_,by omega,rfl,HI⟩
 case round =>
  obtain ⟨k,la,x,hk,rfl,HN⟩:=hrel;obtain ⟨po,co,ho⟩:=HN.out.row.form;subst ho;have hcc:=HN.out.cell;have cC3:=hcc.cell 3;have fC3:=hcc.frozen 3;simp only [gt,gz,gs] at cC3
  by_cases hkn:k < n
  ·have hkn':(k:Int) < (n:Int):=by omega
   have hk0:(0:Int)<=(k:Int):=by omega
   have e1:IntKind.i64.wrap ((k:Int)+1)=(k:Int)+1:=IntWalk.i64_in _ (by omega);obtain ⟨v,hv⟩:∃ v,l[k]? = some v:=⟨l[k]'(by rw [HL.out];exact hkn),ge _⟩
   obtain ⟨b,off,rfl,hcell⟩:∃ b off,A=some ⟨b,off,none⟩/\∀ j u,(l.map raw)[j]? = some u->w.cell? ⟨b,off+j,none⟩=some u:=by
    rcases HC.out with h0 | ⟨b,off,h1,_,h2⟩
    ·rw [HL.out] at h0;omega
    ·exact ⟨b,off,h1,h2⟩
   have hm:=HK.out v (gm hv);have hrw:raw v = .int .i32 (sint v.num):=by simp [raw,hm.1]
   have cx:wr.cell? ⟨b,off+k,none⟩=some (.int .i32 (sint v.num)):=HN.out.kept.cell (hrw ▸ hcell k _ (by rw [gM,hv];rfl)) (fun h=>h);have HV:=hid (aI hv hm);have htx:v.text=⟨#[]⟩:=hm.2.empty (by omega);have HTX:=hid htx;clear htx;have hp1:=hm.2.pos;have cCa:∀ o,(wr.alloc o).drew.cell? ⟨C,3,none⟩=some (.slice po la.length co):=fun o=>by have h:=((HN.out.cell.alloc o).drew).cell 3;exact h
   clear hcell hv hm hcc hrw;go_wp2
   go_region_law (first | (go_simp;go_at_call 75;refine (vl7_ok _ _ (by omega)).mono ?_;rintro e w3 ⟨rfl,rfl⟩) | (refine xaG _ (.tmp 19) (.tmp 25) 23 rfl w.heap.size 25 i1 _ 6 88 underlying23 hi hz0 hz1 hz2 rfl (by decide) _ _ _ rfl (HN.out.row.nope (((kR Nope wr).drew).alloc (.cells (xau 8 v.num ⟨#[]⟩).cells.toArray 25))).own Any_ _ 1 (xau 8 v.num ⟨#[]⟩).cells rfl (CSl.one_six (W:=wr.drew) _ rfl) (xbt _ _ _) (by have:=HN.out.len;unfold maxLen;omega) (by have:=HN.out.len;omega) ((HN.out.kept.alloc (.cells (xau 8 v.num ⟨#[]⟩).cells.toArray 25)).drew).size ?_;intro v4 w4 hown hgrow hblk;obtain ⟨p4,c4,rfl⟩:=ownsRow_form hown;have hC4:=((HN.out.cell.alloc (.cells (xau 8 v.num ⟨#[]⟩).cells.toArray 25)).drew).grown hgrow (fun e=>HN.out.ne e.symm);have cC4:=hC4.cell 3;have fC4:=hC4.frozen 3;simp only [gt,gz,gs] at cC4;have HO:=hid (aI hown (aI hgrow hblk));clear hown hgrow hblk hC4))
   all_goals
    have hst:=(HN.out.nope (((kR Nope wr).alloc (.cells (xau 8 v.num ⟨#[]⟩).cells.toArray 25)).drew)).step (t:=⟨#[]⟩) HV.out.1 HTX.out (by omega) (by omega) (by decide) HO.out.1 HO.out.2.1 HO.out.2.2;have HS:=hid hst;clear hst;go_wp2;go_roundw
    case rel=>exact ⟨k+1,_,_,by omega,by go_num,HS⟩
    case measure=>simp [RowKit.intOf];omega
  ·obtain rfl:k=n:=by omega
   have hlt:¬ (k:Int) < (k:Int):=by omega
   have rr:=HN.out.res;have r0:=rr.cell 0;have r1:=rr.cell 1;have r2:=rr.cell 2;have r3:=rr.cell 3;have r4:=rr.cell 4;have r5:=rr.cell 5;have g0:=rr.frozen 0;have g1:=rr.frozen 1;have g2:=rr.frozen 2;have g3:=rr.frozen 3;have g4:=rr.frozen 4;have g5:=rr.frozen 5;have q0:=hcc.cell 0;have q1:=hcc.cell 1;have q2:=hcc.cell 2;have q4:=hcc.cell 4;have q5:=hcc.cell 5;simp only [gt,gz,gs] at r0 r1 r2 r3 r4 r5 q0 q1 q2 q4 q5;have HRR:=hid rr;clear hcc rr;go_wp2;have hB2:=(((((HRR.out.set_ 0 (.int .i64 23)).set_ 1 (.int .u64 0)).set_ 2 (.string ⟨#[]⟩)).set_ 3 (.slice po la.length co)).set_ 4 (.int .i64 8)).set_ 5 (.slice none 0 0);have hks:Kept (Only w.heap.size) wr ((((((wr.setCell ⟨w.heap.size,0,none⟩ (.int .i64 23)).setCell ⟨w.heap.size,1,none⟩ (.int .u64 0)).setCell ⟨w.heap.size,2,none⟩ (.string ⟨#[]⟩)).setCell ⟨w.heap.size,3,none⟩ (.slice po la.length co)).setCell ⟨w.heap.size,4,none⟩ (.int .i64 8)).setCell ⟨w.heap.size,5,none⟩ (.slice none 0 0)):=((((((kR _ _).set1 0 _).set1 1 _).set1 2 _).set1 3 _).set1 4 _).set1 5 _;refine bodyPost_ret (v:=.agg #[.int .i64 23,.int .u64 0,.string ⟨#[]⟩,.slice po la.length co,.int .i64 8,.slice none 0 0]) (results_cell_row (P:=prog) rfl _ _ w.heap.size 25 _ _ _ rfl hB2 underlying25 rfl (by kernel_rfl)) rfl ⟨_,rfl,HN.out.kept.trans hks (fun b hb e=>by have e':b=w.heap.size:=e;omega),?_⟩;exact ((NInv.done (l:=l) (by rw [HL.out];exact HN.out) (by omega)).keep hks (fun b _ hb e=>by have e':b=w.heap.size:=e;omega)).mono fun b _ hb=>Nat.le_of_lt hb
theorem xla (w:World) (s:Value) (l:List V) (hs:CSl Any_ w 1 s l.length (l.flatMap fun k=>(raw k).cells.toList)) (hk:∀ k ∈ l,k.kind=9/\Tidy k) (hn:l.length<=1000) :
  Calls prog 76 #[.int .i64 9,s,.func (.func 77) #[] #[]] w (Gives (xcx w 9 l)):=by
 obtain ⟨i1,hi,hz0,hz1,hz2⟩:=info_parts xbc;obtain ⟨hlx,A,c,rfl,hnc,hcm,hc⟩:=hs;rw [flatMap_one (g:=raw) (fun a ha=>by simp [raw,(hk a ha).1,Value.cells])] at hlx hc;have HK:=hid hk;have HC:=hid hc;clear hc hlx hk;unfold maxLen at hcm;obtain ⟨n,hnn⟩:∃ n,l.length=n:=⟨_,rfl⟩
 have HL:=hid hnn;rw [hnn] at hn hnc ⊢;clear hnn;go_enter func76,ntmps76;go_wp2;have HT:=Blk.two w #[.int .i64 0,.int .u64 0,.string ⟨#[]⟩,.slice none 0 0,.int .i64 0,.slice none 0 0] #[.int .i64 23,.int .u64 0,.string ⟨#[]⟩,.slice none 0 0,.int .i64 9,.slice none 0 0] 25;have HI:=hid (NInv.start (l:=l) (show w.heap.size < w.heap.size+1 by omega) HT.1 HT.2.2 HT.2.1);generalize (w.alloc (.cells #[.int .i64 0,.int .u64 0,.string ⟨#[]⟩,.slice none 0 0,.int .i64 0,.slice none 0 0] 25)).alloc (.cells #[.int .i64 23,.int .u64 0,.string ⟨#[]⟩,.slice none 0 0,.int .i64 9,.slice none 0 0] 25)=W2 at HT HI ⊢;generalize hC:w.heap.size+1=C at HT HI ⊢;clear HT hC
 go_loopw [14] (fun q w'=>∃ (k:Nat) (la:List Lay) (x:Value),k<=n/\q = .int .i64 k/\Hid (NInv w 9 l C k la x w')) (fun q _=>n - (RowKit.intOf q).toNat)
 case atStart=>exact ⟨0,[],_,by omega,rfl,HI⟩
 case round =>
  obtain ⟨k,la,x,hk,rfl,HN⟩:=hrel;obtain ⟨po,co,ho⟩:=HN.out.row.form;subst ho;have hcc:=HN.out.cell;have cC3:=hcc.cell 3;have fC3:=hcc.frozen 3;simp only [gt,gz,gs] at cC3
  by_cases hkn:k < n
  ·have hkn':(k:Int) < (n:Int):=by omega
   have hk0:(0:Int)<=(k:Int):=by omega
   have e1:IntKind.i64.wrap ((k:Int)+1)=(k:Int)+1:=IntWalk.i64_in _ (by omega);obtain ⟨v,hv⟩:∃ v,l[k]? = some v:=⟨l[k]'(by rw [HL.out];exact hkn),ge _⟩
   obtain ⟨b,off,rfl,hcell⟩:∃ b off,A=some ⟨b,off,none⟩/\∀ j u,(l.map raw)[j]? = some u->w.cell? ⟨b,off+j,none⟩=some u:=by
    rcases HC.out with h0 | ⟨b,off,h1,_,h2⟩
    ·rw [HL.out] at h0;omega
    ·exact ⟨b,off,h1,h2⟩
   have hm:=HK.out v (gm hv);have hrw:raw v = .int .i64 (sint v.num):=by simp [raw,hm.1]
   have cx:wr.cell? ⟨b,off+k,none⟩=some (.int .i64 (sint v.num)):=HN.out.kept.cell (hrw ▸ hcell k _ (by rw [gM,hv];rfl)) (fun h=>h);have HV:=hid (aI hv hm);have htx:v.text=⟨#[]⟩:=hm.2.empty (by omega);have HTX:=hid htx;clear htx;have hp1:=hm.2.pos;have cCa:∀ o,(wr.alloc o).drew.cell? ⟨C,3,none⟩=some (.slice po la.length co):=fun o=>by have h:=((HN.out.cell.alloc o).drew).cell 3;exact h
   clear hcell hv hm hcc hrw;go_wp2
   go_region_law (first | (go_simp;go_at_call 77;refine (vl8_ok _ _ (by omega)).mono ?_;rintro e w3 ⟨rfl,rfl⟩) | (refine xaG _ (.tmp 19) (.tmp 25) 23 rfl w.heap.size 25 i1 _ 6 88 underlying23 hi hz0 hz1 hz2 rfl (by decide) _ _ _ rfl (HN.out.row.nope (((kR Nope wr).drew).alloc (.cells (xau 9 v.num ⟨#[]⟩).cells.toArray 25))).own Any_ _ 1 (xau 9 v.num ⟨#[]⟩).cells rfl (CSl.one_six (W:=wr.drew) _ rfl) (xbt _ _ _) (by have:=HN.out.len;unfold maxLen;omega) (by have:=HN.out.len;omega) ((HN.out.kept.alloc (.cells (xau 9 v.num ⟨#[]⟩).cells.toArray 25)).drew).size ?_;intro v4 w4 hown hgrow hblk;obtain ⟨p4,c4,rfl⟩:=ownsRow_form hown;have hC4:=((HN.out.cell.alloc (.cells (xau 9 v.num ⟨#[]⟩).cells.toArray 25)).drew).grown hgrow (fun e=>HN.out.ne e.symm);have cC4:=hC4.cell 3;have fC4:=hC4.frozen 3;simp only [gt,gz,gs] at cC4;have HO:=hid (aI hown (aI hgrow hblk));clear hown hgrow hblk hC4))
   all_goals
    have hst:=(HN.out.nope (((kR Nope wr).alloc (.cells (xau 9 v.num ⟨#[]⟩).cells.toArray 25)).drew)).step (t:=⟨#[]⟩) HV.out.1 HTX.out (by omega) (by omega) (by decide) HO.out.1 HO.out.2.1 HO.out.2.2;have HS:=hid hst;clear hst;go_wp2;go_roundw
    case rel=>exact ⟨k+1,_,_,by omega,by go_num,HS⟩
    case measure=>simp [RowKit.intOf];omega
  ·obtain rfl:k=n:=by omega
   have hlt:¬ (k:Int) < (k:Int):=by omega
   have rr:=HN.out.res;have r0:=rr.cell 0;have r1:=rr.cell 1;have r2:=rr.cell 2;have r3:=rr.cell 3;have r4:=rr.cell 4;have r5:=rr.cell 5;have g0:=rr.frozen 0;have g1:=rr.frozen 1;have g2:=rr.frozen 2;have g3:=rr.frozen 3;have g4:=rr.frozen 4;have g5:=rr.frozen 5;have q0:=hcc.cell 0;have q1:=hcc.cell 1;have q2:=hcc.cell 2;have q4:=hcc.cell 4;have q5:=hcc.cell 5;simp only [gt,gz,gs] at r0 r1 r2 r3 r4 r5 q0 q1 q2 q4 q5;have HRR:=hid rr;clear hcc rr;go_wp2;have hB2:=(((((HRR.out.set_ 0 (.int .i64 23)).set_ 1 (.int .u64 0)).set_ 2 (.string ⟨#[]⟩)).set_ 3 (.slice po la.length co)).set_ 4 (.int .i64 9)).set_ 5 (.slice none 0 0);have hks:Kept (Only w.heap.size) wr ((((((wr.setCell ⟨w.heap.size,0,none⟩ (.int .i64 23)).setCell ⟨w.heap.size,1,none⟩ (.int .u64 0)).setCell ⟨w.heap.size,2,none⟩ (.string ⟨#[]⟩)).setCell ⟨w.heap.size,3,none⟩ (.slice po la.length co)).setCell ⟨w.heap.size,4,none⟩ (.int .i64 9)).setCell ⟨w.heap.size,5,none⟩ (.slice none 0 0)):=((((((kR _ _).set1 0 _).set1 1 _).set1 2 _).set1 3 _).set1 4 _).set1 5 _;refine bodyPost_ret (v:=.agg #[.int .i64 23,.int .u64 0,.string ⟨#[]⟩,.slice po la.length co,.int .i64 9,.slice none 0 0]) (results_cell_row (P:=prog) rfl _ _ w.heap.size 25 _ _ _ rfl hB2 underlying25 rfl (by kernel_rfl)) rfl ⟨_,rfl,HN.out.kept.trans hks (fun b hb e=>by have e':b=w.heap.size:=e;omega),?_⟩;exact ((NInv.done (l:=l) (by rw [HL.out];exact HN.out) (by omega)).keep hks (fun b _ hb e=>by have e':b=w.heap.size:=e;omega)).mono fun b _ hb=>Nat.le_of_lt hb
theorem flag_q (q:Bool) (n:Int) (w:World) (h:n=if q=true then 1 else 0):Calls prog 57 #[.bool q] w fun e w'=>e = .returned (.int .u64 n)/\w=w':=by
 subst h;exact (xjU q w).mono fun e w' h=>⟨h.1,h.2.symm⟩
theorem vl9_ok (n:Int) (w:World) (h:0<=n/\n < 4294967296):Calls prog 79 #[.float .f32 n.toNat] w fun e w'=>e = .returned (.int .u64 n)/\w=w':=by
 have hf:∀ W,(callFunc 58 #[.float .f32 n.toNat]).run prog W = .ok (.value (.int .u32 n)) W:=fun W=>by
  have h1:=xic n.toNat W;rw [Int.toNat_of_nonneg h.1] at h1;exact h1
 have hw:IntKind.u64.wrap n=n:=by simp [IntKind.wrap,IntKind.bits,IntKind.signed];omega
 generalize n.toNat=m at hf ⊢;go_enter func79,ntmps79;go_wp2;go_ret;exact ⟨rfl,rfl⟩
theorem xjN (w:World) (s:Value) (l:List V) (hs:CSl Any_ w 1 s l.length (l.flatMap fun k=>(raw k).cells.toList)) (hk:∀ k ∈ l,k.kind=1/\Tidy k) (hn:l.length<=1000) :
  Calls prog 61 #[.int .i64 1,s,.func (.func 57) #[] #[]] w (Gives (xcx w 1 l)):=by
 obtain ⟨i1,hi,hz0,hz1,hz2⟩:=info_parts xbc;obtain ⟨hlx,A,c,rfl,hnc,hcm,hc⟩:=hs;rw [flatMap_one (g:=raw) (fun a ha=>by simp [raw,(hk a ha).1,Value.cells])] at hlx hc;have HK:=hid hk;have HC:=hid hc;clear hc hlx hk;unfold maxLen at hcm;obtain ⟨n,hnn⟩:∃ n,l.length=n:=⟨_,rfl⟩
 have HL:=hid hnn;rw [hnn] at hn hnc ⊢;clear hnn;go_enter func61,ntmps61;go_wp2;have HT:=Blk.two w #[.int .i64 0,.int .u64 0,.string ⟨#[]⟩,.slice none 0 0,.int .i64 0,.slice none 0 0] #[.int .i64 23,.int .u64 0,.string ⟨#[]⟩,.slice none 0 0,.int .i64 1,.slice none 0 0] 25;have HI:=hid (NInv.start (l:=l) (show w.heap.size < w.heap.size+1 by omega) HT.1 HT.2.2 HT.2.1);generalize (w.alloc (.cells #[.int .i64 0,.int .u64 0,.string ⟨#[]⟩,.slice none 0 0,.int .i64 0,.slice none 0 0] 25)).alloc (.cells #[.int .i64 23,.int .u64 0,.string ⟨#[]⟩,.slice none 0 0,.int .i64 1,.slice none 0 0] 25)=W2 at HT HI ⊢;generalize hC:w.heap.size+1=C at HT HI ⊢;clear HT hC
 go_loopw [14] (fun q w'=>∃ (k:Nat) (la:List Lay) (x:Value),k<=n/\q = .int .i64 k/\Hid (NInv w 1 l C k la x w')) (fun q _=>n - (RowKit.intOf q).toNat)
 case atStart=>exact ⟨0,[],_,by omega,rfl,HI⟩
 case round =>
  obtain ⟨k,la,x,hk,rfl,HN⟩:=hrel;obtain ⟨po,co,ho⟩:=HN.out.row.form;subst ho;have hcc:=HN.out.cell;have cC3:=hcc.cell 3;have fC3:=hcc.frozen 3;simp only [gt,gz,gs] at cC3
  by_cases hkn:k < n
  ·have hkn':(k:Int) < (n:Int):=by omega
   have hk0:(0:Int)<=(k:Int):=by omega
   have e1:IntKind.i64.wrap ((k:Int)+1)=(k:Int)+1:=IntWalk.i64_in _ (by omega);obtain ⟨v,hv⟩:∃ v,l[k]? = some v:=⟨l[k]'(by rw [HL.out];exact hkn),ge _⟩
   obtain ⟨b,off,rfl,hcell⟩:∃ b off,A=some ⟨b,off,none⟩/\∀ j u,(l.map raw)[j]? = some u->w.cell? ⟨b,off+j,none⟩=some u:=by
    rcases HC.out with h0 | ⟨b,off,h1,_,h2⟩
    ·rw [HL.out] at h0;omega
    ·exact ⟨b,off,h1,h2⟩
   have hm:=HK.out v (gm hv);have hrw:raw v = .bool (decide (v.num≠0)):=by simp [raw,hm.1]
   have cx:wr.cell? ⟨b,off+k,none⟩=some (.bool (decide (v.num≠0))):=HN.out.kept.cell (hrw ▸ hcell k _ (by rw [gM,hv];rfl)) (fun h=>h);have HV:=hid (aI hv hm);have htx:v.text=⟨#[]⟩:=hm.2.empty (by omega);have HTX:=hid htx;clear htx;obtain ⟨q,hq⟩:∃ q,decide (v.num≠0)=q:=⟨_,rfl⟩
   rw [hq] at cx;have hqn:v.num=if q=true then 1 else 0:=by have h1:=hm.2.flag hm.1;have h2:=hm.2.pos;subst hq;by_cases h0:v.num=0 <;> simp [h0];omega
   have HQ:=hid hqn;clear hqn hq;have hp1:=hm.2.pos;have cCa:∀ o,(wr.alloc o).drew.cell? ⟨C,3,none⟩=some (.slice po la.length co):=fun o=>by have h:=((HN.out.cell.alloc o).drew).cell 3;exact h
   clear hcell hv hm hcc hrw;go_wp2
   go_region_law (first | (go_simp;go_at_call 57;refine (flag_q q _ _ HQ.out).mono ?_;rintro e w3 ⟨rfl,rfl⟩) | (refine xaG _ (.tmp 19) (.tmp 25) 23 rfl w.heap.size 25 i1 _ 6 88 underlying23 hi hz0 hz1 hz2 rfl (by decide) _ _ _ rfl (HN.out.row.nope (((kR Nope wr).drew).alloc (.cells (xau 1 v.num ⟨#[]⟩).cells.toArray 25))).own Any_ _ 1 (xau 1 v.num ⟨#[]⟩).cells rfl (CSl.one_six (W:=wr.drew) _ rfl) (xbt _ _ _) (by have:=HN.out.len;unfold maxLen;omega) (by have:=HN.out.len;omega) ((HN.out.kept.alloc (.cells (xau 1 v.num ⟨#[]⟩).cells.toArray 25)).drew).size ?_;intro v4 w4 hown hgrow hblk;obtain ⟨p4,c4,rfl⟩:=ownsRow_form hown;have hC4:=((HN.out.cell.alloc (.cells (xau 1 v.num ⟨#[]⟩).cells.toArray 25)).drew).grown hgrow (fun e=>HN.out.ne e.symm);have cC4:=hC4.cell 3;have fC4:=hC4.frozen 3;simp only [gt,gz,gs] at cC4;have HO:=hid (aI hown (aI hgrow hblk));clear hown hgrow hblk hC4))
   all_goals
    have hst:=(HN.out.nope (((kR Nope wr).alloc (.cells (xau 1 v.num ⟨#[]⟩).cells.toArray 25)).drew)).step (t:=⟨#[]⟩) HV.out.1 HTX.out (by omega) (by omega) (by decide) HO.out.1 HO.out.2.1 HO.out.2.2;have HS:=hid hst;clear hst;go_wp2;go_roundw
    case rel=>exact ⟨k+1,_,_,by omega,by go_num,HS⟩
    case measure=>simp [RowKit.intOf];omega
  ·obtain rfl:k=n:=by omega
   have hlt:¬ (k:Int) < (k:Int):=by omega
   have rr:=HN.out.res;have r0:=rr.cell 0;have r1:=rr.cell 1;have r2:=rr.cell 2;have r3:=rr.cell 3;have r4:=rr.cell 4;have r5:=rr.cell 5;have g0:=rr.frozen 0;have g1:=rr.frozen 1;have g2:=rr.frozen 2;have g3:=rr.frozen 3;have g4:=rr.frozen 4;have g5:=rr.frozen 5;have q0:=hcc.cell 0;have q1:=hcc.cell 1;have q2:=hcc.cell 2;have q4:=hcc.cell 4;have q5:=hcc.cell 5;simp only [gt,gz,gs] at r0 r1 r2 r3 r4 r5 q0 q1 q2 q4 q5;have HRR:=hid rr;clear hcc rr;go_wp2;have hB2:=(((((HRR.out.set_ 0 (.int .i64 23)).set_ 1 (.int .u64 0)).set_ 2 (.string ⟨#[]⟩)).set_ 3 (.slice po la.length co)).set_ 4 (.int .i64 1)).set_ 5 (.slice none 0 0);have hks:Kept (Only w.heap.size) wr ((((((wr.setCell ⟨w.heap.size,0,none⟩ (.int .i64 23)).setCell ⟨w.heap.size,1,none⟩ (.int .u64 0)).setCell ⟨w.heap.size,2,none⟩ (.string ⟨#[]⟩)).setCell ⟨w.heap.size,3,none⟩ (.slice po la.length co)).setCell ⟨w.heap.size,4,none⟩ (.int .i64 1)).setCell ⟨w.heap.size,5,none⟩ (.slice none 0 0)):=((((((kR _ _).set1 0 _).set1 1 _).set1 2 _).set1 3 _).set1 4 _).set1 5 _;refine bodyPost_ret (v:=.agg #[.int .i64 23,.int .u64 0,.string ⟨#[]⟩,.slice po la.length co,.int .i64 1,.slice none 0 0]) (results_cell_row (P:=prog) rfl _ _ w.heap.size 25 _ _ _ rfl hB2 underlying25 rfl (by kernel_rfl)) rfl ⟨_,rfl,HN.out.kept.trans hks (fun b hb e=>by have e':b=w.heap.size:=e;omega),?_⟩;exact ((NInv.done (l:=l) (by rw [HL.out];exact HN.out) (by omega)).keep hks (fun b _ hb e=>by have e':b=w.heap.size:=e;omega)).mono fun b _ hb=>Nat.le_of_lt hb
theorem xle (w:World) (s:Value) (l:List V) (hs:CSl Any_ w 1 s l.length (l.flatMap fun k=>(raw k).cells.toList)) (hk:∀ k ∈ l,k.kind=10/\Tidy k) (hn:l.length<=1000) :
  Calls prog 78 #[.int .i64 10,s,.func (.func 79) #[] #[]] w (Gives (xcx w 10 l)):=by
 obtain ⟨i1,hi,hz0,hz1,hz2⟩:=info_parts xbc;obtain ⟨hlx,A,c,rfl,hnc,hcm,hc⟩:=hs;rw [flatMap_one (g:=raw) (fun a ha=>by simp [raw,(hk a ha).1,Value.cells])] at hlx hc;have HK:=hid hk;have HC:=hid hc;clear hc hlx hk;unfold maxLen at hcm;obtain ⟨n,hnn⟩:∃ n,l.length=n:=⟨_,rfl⟩
 have HL:=hid hnn;rw [hnn] at hn hnc ⊢;clear hnn;go_enter func78,ntmps78;go_wp2;have HT:=Blk.two w #[.int .i64 0,.int .u64 0,.string ⟨#[]⟩,.slice none 0 0,.int .i64 0,.slice none 0 0] #[.int .i64 23,.int .u64 0,.string ⟨#[]⟩,.slice none 0 0,.int .i64 10,.slice none 0 0] 25;have HI:=hid (NInv.start (l:=l) (show w.heap.size < w.heap.size+1 by omega) HT.1 HT.2.2 HT.2.1);generalize (w.alloc (.cells #[.int .i64 0,.int .u64 0,.string ⟨#[]⟩,.slice none 0 0,.int .i64 0,.slice none 0 0] 25)).alloc (.cells #[.int .i64 23,.int .u64 0,.string ⟨#[]⟩,.slice none 0 0,.int .i64 10,.slice none 0 0] 25)=W2 at HT HI ⊢;generalize hC:w.heap.size+1=C at HT HI ⊢;clear HT hC
 go_loopw [14] (fun q w'=>∃ (k:Nat) (la:List Lay) (x:Value),k<=n/\q = .int .i64 k/\Hid (NInv w 10 l C k la x w')) (fun q _=>n - (RowKit.intOf q).toNat)
 case atStart=>exact ⟨0,[],_,by omega,rfl,HI⟩
 case round =>
  obtain ⟨k,la,x,hk,rfl,HN⟩:=hrel;obtain ⟨po,co,ho⟩:=HN.out.row.form;subst ho;have hcc:=HN.out.cell;have cC3:=hcc.cell 3;have fC3:=hcc.frozen 3;simp only [gt,gz,gs] at cC3
  by_cases hkn:k < n
  ·have hkn':(k:Int) < (n:Int):=by omega
   have hk0:(0:Int)<=(k:Int):=by omega
   have e1:IntKind.i64.wrap ((k:Int)+1)=(k:Int)+1:=IntWalk.i64_in _ (by omega);obtain ⟨v,hv⟩:∃ v,l[k]? = some v:=⟨l[k]'(by rw [HL.out];exact hkn),ge _⟩
   obtain ⟨b,off,rfl,hcell⟩:∃ b off,A=some ⟨b,off,none⟩/\∀ j u,(l.map raw)[j]? = some u->w.cell? ⟨b,off+j,none⟩=some u:=by
    rcases HC.out with h0 | ⟨b,off,h1,_,h2⟩
    ·rw [HL.out] at h0;omega
    ·exact ⟨b,off,h1,h2⟩
   have hm:=HK.out v (gm hv);have hrw:raw v = .float .f32 v.num.toNat:=by simp [raw,hm.1]
   have cx:wr.cell? ⟨b,off+k,none⟩=some (.float .f32 v.num.toNat):=HN.out.kept.cell (hrw ▸ hcell k _ (by rw [gM,hv];rfl)) (fun h=>h);have HV:=hid (aI hv hm);have htx:v.text=⟨#[]⟩:=hm.2.empty (by omega);have HTX:=hid htx;clear htx;have hn1:=hm.2.n4 (.inr hm.1);have hp1:=hm.2.pos;have cCa:∀ o,(wr.alloc o).drew.cell? ⟨C,3,none⟩=some (.slice po la.length co):=fun o=>by have h:=((HN.out.cell.alloc o).drew).cell 3;exact h
   clear hcell hv hm hcc hrw;go_wp2
   go_region_law (first | (go_simp;go_at_call 79;refine (vl9_ok _ _ (by omega)).mono ?_;rintro e w3 ⟨rfl,rfl⟩) | (refine xaG _ (.tmp 19) (.tmp 25) 23 rfl w.heap.size 25 i1 _ 6 88 underlying23 hi hz0 hz1 hz2 rfl (by decide) _ _ _ rfl (HN.out.row.nope (((kR Nope wr).drew).alloc (.cells (xau 10 v.num ⟨#[]⟩).cells.toArray 25))).own Any_ _ 1 (xau 10 v.num ⟨#[]⟩).cells rfl (CSl.one_six (W:=wr.drew) _ rfl) (xbt _ _ _) (by have:=HN.out.len;unfold maxLen;omega) (by have:=HN.out.len;omega) ((HN.out.kept.alloc (.cells (xau 10 v.num ⟨#[]⟩).cells.toArray 25)).drew).size ?_;intro v4 w4 hown hgrow hblk;obtain ⟨p4,c4,rfl⟩:=ownsRow_form hown;have hC4:=((HN.out.cell.alloc (.cells (xau 10 v.num ⟨#[]⟩).cells.toArray 25)).drew).grown hgrow (fun e=>HN.out.ne e.symm);have cC4:=hC4.cell 3;have fC4:=hC4.frozen 3;simp only [gt,gz,gs] at cC4;have HO:=hid (aI hown (aI hgrow hblk));clear hown hgrow hblk hC4))
   all_goals
    have hst:=(HN.out.nope (((kR Nope wr).alloc (.cells (xau 10 v.num ⟨#[]⟩).cells.toArray 25)).drew)).step (t:=⟨#[]⟩) HV.out.1 HTX.out (by omega) (by omega) (by decide) HO.out.1 HO.out.2.1 HO.out.2.2;have HS:=hid hst;clear hst;go_wp2;go_roundw
    case rel=>exact ⟨k+1,_,_,by omega,by go_num,HS⟩
    case measure=>simp [RowKit.intOf];omega
  ·obtain rfl:k=n:=by omega
   have hlt:¬ (k:Int) < (k:Int):=by omega
   have rr:=HN.out.res;have r0:=rr.cell 0;have r1:=rr.cell 1;have r2:=rr.cell 2;have r3:=rr.cell 3;have r4:=rr.cell 4;have r5:=rr.cell 5;have g0:=rr.frozen 0;have g1:=rr.frozen 1;have g2:=rr.frozen 2;have g3:=rr.frozen 3;have g4:=rr.frozen 4;have g5:=rr.frozen 5;have q0:=hcc.cell 0;have q1:=hcc.cell 1;have q2:=hcc.cell 2;have q4:=hcc.cell 4;have q5:=hcc.cell 5;simp only [gt,gz,gs] at r0 r1 r2 r3 r4 r5 q0 q1 q2 q4 q5;have HRR:=hid rr;clear hcc rr;go_wp2;have hB2:=(((((HRR.out.set_ 0 (.int .i64 23)).set_ 1 (.int .u64 0)).set_ 2 (.string ⟨#[]⟩)).set_ 3 (.slice po la.length co)).set_ 4 (.int .i64 10)).set_ 5 (.slice none 0 0);have hks:Kept (Only w.heap.size) wr ((((((wr.setCell ⟨w.heap.size,0,none⟩ (.int .i64 23)).setCell ⟨w.heap.size,1,none⟩ (.int .u64 0)).setCell ⟨w.heap.size,2,none⟩ (.string ⟨#[]⟩)).setCell ⟨w.heap.size,3,none⟩ (.slice po la.length co)).setCell ⟨w.heap.size,4,none⟩ (.int .i64 10)).setCell ⟨w.heap.size,5,none⟩ (.slice none 0 0)):=((((((kR _ _).set1 0 _).set1 1 _).set1 2 _).set1 3 _).set1 4 _).set1 5 _;refine bodyPost_ret (v:=.agg #[.int .i64 23,.int .u64 0,.string ⟨#[]⟩,.slice po la.length co,.int .i64 10,.slice none 0 0]) (results_cell_row (P:=prog) rfl _ _ w.heap.size 25 _ _ _ rfl hB2 underlying25 rfl (by kernel_rfl)) rfl ⟨_,rfl,HN.out.kept.trans hks (fun b hb e=>by have e':b=w.heap.size:=e;omega),?_⟩;exact ((NInv.done (l:=l) (by rw [HL.out];exact HN.out) (by omega)).keep hks (fun b _ hb e=>by have e':b=w.heap.size:=e;omega)).mono fun b _ hb=>Nat.le_of_lt hb
theorem xld (w:World) (s:Value) (l:List V) (hs:CSl Any_ w 1 s l.length (l.flatMap fun k=>(raw k).cells.toList)) (hk:∀ k ∈ l,k.kind=11/\Tidy k) (hn:l.length<=1000) :
  Calls prog 80 #[.int .i64 11,s,.func (.func 59) #[] #[]] w (Gives (xcx w 11 l)):=by
 obtain ⟨i1,hi,hz0,hz1,hz2⟩:=info_parts xbc;obtain ⟨hlx,A,c,rfl,hnc,hcm,hc⟩:=hs;rw [flatMap_one (g:=raw) (fun a ha=>by simp [raw,(hk a ha).1,Value.cells])] at hlx hc;have HK:=hid hk;have HC:=hid hc;clear hc hlx hk;unfold maxLen at hcm;obtain ⟨n,hnn⟩:∃ n,l.length=n:=⟨_,rfl⟩
 have HL:=hid hnn;rw [hnn] at hn hnc ⊢;clear hnn;go_enter func80,ntmps80;go_wp2;have HT:=Blk.two w #[.int .i64 0,.int .u64 0,.string ⟨#[]⟩,.slice none 0 0,.int .i64 0,.slice none 0 0] #[.int .i64 23,.int .u64 0,.string ⟨#[]⟩,.slice none 0 0,.int .i64 11,.slice none 0 0] 25;have HI:=hid (NInv.start (l:=l) (show w.heap.size < w.heap.size+1 by omega) HT.1 HT.2.2 HT.2.1);generalize (w.alloc (.cells #[.int .i64 0,.int .u64 0,.string ⟨#[]⟩,.slice none 0 0,.int .i64 0,.slice none 0 0] 25)).alloc (.cells #[.int .i64 23,.int .u64 0,.string ⟨#[]⟩,.slice none 0 0,.int .i64 11,.slice none 0 0] 25)=W2 at HT HI ⊢;generalize hC:w.heap.size+1=C at HT HI ⊢;clear HT hC
 go_loopw [14] (fun q w'=>∃ (k:Nat) (la:List Lay) (x:Value),k<=n/\q = .int .i64 k/\Hid (NInv w 11 l C k la x w')) (fun q _=>n - (RowKit.intOf q).toNat)
 case atStart=>exact ⟨0,[],_,by omega,rfl,HI⟩
 case round =>
  obtain ⟨k,la,x,hk,rfl,HN⟩:=hrel;obtain ⟨po,co,ho⟩:=HN.out.row.form;subst ho;have hcc:=HN.out.cell;have cC3:=hcc.cell 3;have fC3:=hcc.frozen 3;simp only [gt,gz,gs] at cC3
  by_cases hkn:k < n
  ·have hkn':(k:Int) < (n:Int):=by omega
   have hk0:(0:Int)<=(k:Int):=by omega
   have e1:IntKind.i64.wrap ((k:Int)+1)=(k:Int)+1:=IntWalk.i64_in _ (by omega);obtain ⟨v,hv⟩:∃ v,l[k]? = some v:=⟨l[k]'(by rw [HL.out];exact hkn),ge _⟩
   obtain ⟨b,off,rfl,hcell⟩:∃ b off,A=some ⟨b,off,none⟩/\∀ j u,(l.map raw)[j]? = some u->w.cell? ⟨b,off+j,none⟩=some u:=by
    rcases HC.out with h0 | ⟨b,off,h1,_,h2⟩
    ·rw [HL.out] at h0;omega
    ·exact ⟨b,off,h1,h2⟩
   have hm:=HK.out v (gm hv);have hrw:raw v = .float .f64 v.num.toNat:=by simp [raw,hm.1]
   have cx:wr.cell? ⟨b,off+k,none⟩=some (.float .f64 v.num.toNat):=HN.out.kept.cell (hrw ▸ hcell k _ (by rw [gM,hv];rfl)) (fun h=>h);have HV:=hid (aI hv hm);have htx:v.text=⟨#[]⟩:=hm.2.empty (by omega);have HTX:=hid htx;clear htx;have hfl:∀ W,(callFunc 59 #[.float .f64 v.num.toNat]).run prog W = .ok (.value (.int .u64 v.num)) W:=fun W=>by have h:=xib v.num.toNat W;rw [Int.toNat_of_nonneg hm.2.pos.1] at h;exact h
   have hp1:=hm.2.pos;have cCa:∀ o,(wr.alloc o).drew.cell? ⟨C,3,none⟩=some (.slice po la.length co):=fun o=>by have h:=((HN.out.cell.alloc o).drew).cell 3;exact h
   clear hcell hv hm hcc hrw;go_wp2
   go_region_law (first | fail | (refine xaG _ (.tmp 19) (.tmp 25) 23 rfl w.heap.size 25 i1 _ 6 88 underlying23 hi hz0 hz1 hz2 rfl (by decide) _ _ _ rfl (HN.out.row.nope (((kR Nope wr).drew).alloc (.cells (xau 11 v.num ⟨#[]⟩).cells.toArray 25))).own Any_ _ 1 (xau 11 v.num ⟨#[]⟩).cells rfl (CSl.one_six (W:=wr.drew) _ rfl) (xbt _ _ _) (by have:=HN.out.len;unfold maxLen;omega) (by have:=HN.out.len;omega) ((HN.out.kept.alloc (.cells (xau 11 v.num ⟨#[]⟩).cells.toArray 25)).drew).size ?_;intro v4 w4 hown hgrow hblk;obtain ⟨p4,c4,rfl⟩:=ownsRow_form hown;have hC4:=((HN.out.cell.alloc (.cells (xau 11 v.num ⟨#[]⟩).cells.toArray 25)).drew).grown hgrow (fun e=>HN.out.ne e.symm);have cC4:=hC4.cell 3;have fC4:=hC4.frozen 3;simp only [gt,gz,gs] at cC4;have HO:=hid (aI hown (aI hgrow hblk));clear hown hgrow hblk hC4))
   all_goals
    have hst:=(HN.out.nope (((kR Nope wr).alloc (.cells (xau 11 v.num ⟨#[]⟩).cells.toArray 25)).drew)).step (t:=⟨#[]⟩) HV.out.1 HTX.out (by omega) (by omega) (by decide) HO.out.1 HO.out.2.1 HO.out.2.2;have HS:=hid hst;clear hst;go_wp2;go_roundw
    case rel=>exact ⟨k+1,_,_,by omega,by go_num,HS⟩
    case measure=>simp [RowKit.intOf];omega
  ·obtain rfl:k=n:=by omega
   have hlt:¬ (k:Int) < (k:Int):=by omega
   have rr:=HN.out.res;have r0:=rr.cell 0;have r1:=rr.cell 1;have r2:=rr.cell 2;have r3:=rr.cell 3;have r4:=rr.cell 4;have r5:=rr.cell 5;have g0:=rr.frozen 0;have g1:=rr.frozen 1;have g2:=rr.frozen 2;have g3:=rr.frozen 3;have g4:=rr.frozen 4;have g5:=rr.frozen 5;have q0:=hcc.cell 0;have q1:=hcc.cell 1;have q2:=hcc.cell 2;have q4:=hcc.cell 4;have q5:=hcc.cell 5;simp only [gt,gz,gs] at r0 r1 r2 r3 r4 r5 q0 q1 q2 q4 q5;have HRR:=hid rr;clear hcc rr;go_wp2;have hB2:=(((((HRR.out.set_ 0 (.int .i64 23)).set_ 1 (.int .u64 0)).set_ 2 (.string ⟨#[]⟩)).set_ 3 (.slice po la.length co)).set_ 4 (.int .i64 11)).set_ 5 (.slice none 0 0);have hks:Kept (Only w.heap.size) wr ((((((wr.setCell ⟨w.heap.size,0,none⟩ (.int .i64 23)).setCell ⟨w.heap.size,1,none⟩ (.int .u64 0)).setCell ⟨w.heap.size,2,none⟩ (.string ⟨#[]⟩)).setCell ⟨w.heap.size,3,none⟩ (.slice po la.length co)).setCell ⟨w.heap.size,4,none⟩ (.int .i64 11)).setCell ⟨w.heap.size,5,none⟩ (.slice none 0 0)):=((((((kR _ _).set1 0 _).set1 1 _).set1 2 _).set1 3 _).set1 4 _).set1 5 _;refine bodyPost_ret (v:=.agg #[.int .i64 23,.int .u64 0,.string ⟨#[]⟩,.slice po la.length co,.int .i64 11,.slice none 0 0]) (results_cell_row (P:=prog) rfl _ _ w.heap.size 25 _ _ _ rfl hB2 underlying25 rfl (by kernel_rfl)) rfl ⟨_,rfl,HN.out.kept.trans hks (fun b hb e=>by have e':b=w.heap.size:=e;omega),?_⟩;exact ((NInv.done (l:=l) (by rw [HL.out];exact HN.out) (by omega)).keep hks (fun b _ hb e=>by have e':b=w.heap.size:=e;omega)).mono fun b _ hb=>Nat.le_of_lt hb
end Go.Proofs.YtmdpodeegdjkeaaGreatDoor
