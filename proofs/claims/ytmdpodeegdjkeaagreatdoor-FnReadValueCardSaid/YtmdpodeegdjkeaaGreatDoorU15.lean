/- Part 15 of the proof of the readers and the guards. No conditions. -/
import Derived.Test.YtmdpodeegdjkeaaGreatDoorU0
import Derived.Test.YtmdpodeegdjkeaaGreatDoorU12
import Derived.Test.YtmdpodeegdjkeaaGreatDoorU13
import Derived.Test.YtmdpodeegdjkeaaGreatDoorU14
set_option maxRecDepth 100000
set_option maxHeartbeats 3200000
namespace Go.Proofs.YtmdpodeegdjkeaaGreatDoor
open Go Go.RowKit Go.Lib Tryz
theorem xbp (ek:Int) (l:List V):(xai ek l).kind=23:=rfl
theorem xbB (ek:Int) (l:List V):(xai ek l).num=0:=rfl
theorem xbo (ek:Int) (l:List V):(xai ek l).text=⟨#[]⟩:=rfl
theorem xbS (ek:Int) (l:List V):(xai ek l).of_=ek:=rfl
theorem xij {v k0:V} (hg:Good v) (h23:v.kind=23) (h0:v.kids[0]? = some k0):xao v (xai k0.kind v.kids):=by
 have t:=hg.tidy;refine .leaf (by omega) (by omega) (.mk h23 (t.zero (by omega)) (t.empty (by omega)) (by simp [xai]) (by rw [hg.desc];rfl) (fun i x y hx hy => ?_) (fun x y hx=>by rw [hg.desc] at hx;simp at hx));simp only [xai,V.kids_mk,gM,hx,Option.map_some] at hy;cases hy;have hm:=gm hx;have hgx:=hg.kid hm
 have hkk:x.kind=k0.kind/\xaK k0.kind:=by
  cases hg with
  | mk _ _ _ _ h5 =>
   obtain ⟨k1,g0,g1,_,g2,_⟩:=h5 h23;rw [h0] at g0;cases g0;exact ⟨g2 x hm,g1⟩
 have hl:x.kids=[]:=hgx.tidy.leaf (by have h1:=hkk.1;have h2:=hkk.2;unfold xaK at h2;omega);exact Same.of_fields hkk.1 rfl rfl hl rfl hgx.desc rfl
theorem xkC (v:V) (w:World) (s:Value) (hs:CSl Any_ w 1 s v.kids.length (v.kids.flatMap fun k=>(raw k).cells.toList)) (hk:∀ k ∈ v.kids,k.kind=1/\Tidy k) (hn:v.kids.length<=1000) (hlo:xao v (xai 1 v.kids)) :
  Calls prog 33 #[.iface 113 s] w (xac (xbE w v)):=by
 have hl:=xjN (w.alloc (.cells zVal 25)) s v.kids (hs.keep ((kR Nope w).alloc _) (fun _ _ _ h=>h)) hk hn;have HL:=hid hl;have HLO:=hid hlo;clear hl hs hk hn hlo;have f_bool:=fun W=>xad (T:=113) (s) W (by decide)
 have f_u8:=fun W=>xas (T:=113) (s) W (by decide)
 have f_u16:=fun W=>xam (T:=113) (s) W (by decide)
 have f_u32:=fun W=>xal (T:=113) (s) W (by decide)
 have f_u64:=fun W=>xak (T:=113) (s) W (by decide)
 have f_i8:=fun W=>xaF (T:=113) (s) W (by decide)
 have f_i16:=fun W=>xav (T:=113) (s) W (by decide)
 have f_i32:=fun W=>xaC (T:=113) (s) W (by decide)
 have f_i64:=fun W=>xaH (T:=113) (s) W (by decide)
 have f_f32:=fun W=>xaO (T:=113) (s) W (by decide)
 have f_f64:=fun W=>xaQ (T:=113) (s) W (by decide)
 have f_Time:=fun W=>xaJ (T:=113) (s) W (by decide)
 have f_UUID:=fun W=>xaM (T:=113) (s) W (by decide)
 have f_bytes:=fun W=>xaI (T:=113) (s) W (by decide)
 have f_string:=fun W=>xar (T:=113) (s) W (by decide)
 have f_Symbol:=fun W=>xaD (T:=113) (s) W (by decide)
 have f_sAny:=fun W=>xaV (T:=113) (s) W (by decide)
 have f_mAny:=fun W=>xbb (T:=113) (s) W (by decide)
 have f_mStr:=fun W=>xbk (T:=113) (s) W (by decide)
 have fy:=fun W=>xlI (s) W
 go_enter func33,ntmps33;go_wp2_with (go_at_call 61;go_must (refine HL.out.mono ?_;rintro e w1 ⟨y,rfl,hk,ks,ds,rfl,hvn,hv1,hv2⟩;obtain ⟨py,cy,rfl,_⟩:=hv1.form;obtain ⟨pd,cd,rfl,_⟩:=hv2.form;have HR:=hid ((Blk.new w 25 zVal).kept hk (fun h=>h));have H1:=hid (aI (((kR Nope w).alloc _).trans' hk) (aI (xaq hv1) (aI (xaq hv2) hvn)));clear hk hv1 hv2 hvn;unfold vagg;have rr:=HR.out;unfold zVal at rr;have r0:=rr.cell 0;have r1:=rr.cell 1;have r2:=rr.cell 2;have r3:=rr.cell 3;have r4:=rr.cell 4;have r5:=rr.cell 5;have g0:=rr.frozen 0;have g1:=rr.frozen 1;have g2:=rr.frozen 2;have g3:=rr.frozen 3;have g4:=rr.frozen 4;have g5:=rr.frozen 5;simp only [gt,gz,gs] at r0 r1 r2 r3 r4 r5;clear rr;simp only [xbp,xbB,xbo,xbS]))
 (try simp only [Exit.inBlock,Exit.then])
 have hB2:=(((((HR.out.set_ 0 (.int .i64 23)).set_ 1 (.int .u64 0)).set_ 2 (.string ⟨#[]⟩)).set_ 3 (.slice py (xai 1 v.kids).kids.length cy)).set_ 4 (.int .i64 1)).set_ 5 (.slice pd (xai 1 v.kids).desc.length cd);have hld:=run_loadVar_row (P:=prog) _ w.heap.size 25 25 _ _ _ hB2 underlying25 rfl (by kernel_rfl);have hks:Kept (Only w.heap.size) w1 ((((((w1.setCell ⟨w.heap.size,0,none⟩ (.int .i64 23)).setCell ⟨w.heap.size,1,none⟩ (.int .u64 0)).setCell ⟨w.heap.size,2,none⟩ (.string ⟨#[]⟩)).setCell ⟨w.heap.size,3,none⟩ (.slice py (xai 1 v.kids).kids.length cy)).setCell ⟨w.heap.size,4,none⟩ (.int .i64 1)).setCell ⟨w.heap.size,5,none⟩ (.slice pd (xai 1 v.kids).desc.length cd)):=((((((kR _ _).set1 0 _).set1 1 _).set1 2 _).set1 3 _).set1 4 _).set1 5 _;refine bodyPost_ret (v:=.tuple #[.agg #[.int .i64 23,.int .u64 0,.string ⟨#[]⟩,.slice py (xai 1 v.kids).kids.length cy,.int .i64 1,.slice pd (xai 1 v.kids).desc.length cd],.bool true]) ?_ rfl ⟨_,_,rfl,rfl,H1.out.1.trans hks (fun b hb e=>by have e':b=w.heap.size:=e;omega),?_⟩
 ·rw [results_cell_tmp rfl];simp only [Array.getD_eq_getD_getElem?,gt,gz,gs,Option.getD_some,asAddr,Sem.run_pure,Result.andThen_ok];rw [hld]
  rfl
 ·exact ⟨xai 1 v.kids,⟨_,_,rfl,H1.out.2.2.2,(H1.out.2.1.keep hks (fun b _ hb e=>by have e':b=w.heap.size:=e;omega)).mono fun b _ hb=>Nat.le_of_lt hb,(H1.out.2.2.1.keep hks (fun b _ hb e=>by have e':b=w.heap.size:=e;omega)).mono fun b _ hb=>Nat.le_of_lt hb⟩,HLO.out⟩
theorem xgv (v:V) (w:World) (s:Value) (hs:CSl Any_ w 1 s v.kids.length (v.kids.flatMap fun k=>(raw k).cells.toList)) (hk:∀ k ∈ v.kids,k.kind=2/\Tidy k) (hn:v.kids.length<=1000) (hlo:xao v (xai 2 v.kids)) :
  Calls prog 33 #[.iface 115 s] w (xac (xbE w v)):=by
 have hl:=xmS (w.alloc (.cells zVal 25)) s v.kids (hs.keep ((kR Nope w).alloc _) (fun _ _ _ h=>h)) hk hn;have HL:=hid hl;have HLO:=hid hlo;clear hl hs hk hn hlo;have f_bool:=fun W=>xad (T:=115) (s) W (by decide)
 have f_u8:=fun W=>xas (T:=115) (s) W (by decide)
 have f_u16:=fun W=>xam (T:=115) (s) W (by decide)
 have f_u32:=fun W=>xal (T:=115) (s) W (by decide)
 have f_u64:=fun W=>xak (T:=115) (s) W (by decide)
 have f_i8:=fun W=>xaF (T:=115) (s) W (by decide)
 have f_i16:=fun W=>xav (T:=115) (s) W (by decide)
 have f_i32:=fun W=>xaC (T:=115) (s) W (by decide)
 have f_i64:=fun W=>xaH (T:=115) (s) W (by decide)
 have f_f32:=fun W=>xaO (T:=115) (s) W (by decide)
 have f_f64:=fun W=>xaQ (T:=115) (s) W (by decide)
 have f_Time:=fun W=>xaJ (T:=115) (s) W (by decide)
 have f_UUID:=fun W=>xaM (T:=115) (s) W (by decide)
 have f_bytes:=fun W=>xaI (T:=115) (s) W (by decide)
 have f_string:=fun W=>xar (T:=115) (s) W (by decide)
 have f_Symbol:=fun W=>xaD (T:=115) (s) W (by decide)
 have f_sAny:=fun W=>xaV (T:=115) (s) W (by decide)
 have f_mAny:=fun W=>xbb (T:=115) (s) W (by decide)
 have f_mStr:=fun W=>xbk (T:=115) (s) W (by decide)
 have f_sBool:=fun W=>xaZ (T:=115) (s) W (by decide)
 have fy:=fun W=>xgQ (s) W
 go_enter func33,ntmps33;go_wp2_with (go_at_call 62;go_must (refine HL.out.mono ?_;rintro e w1 ⟨y,rfl,hk,ks,ds,rfl,hvn,hv1,hv2⟩;obtain ⟨py,cy,rfl,_⟩:=hv1.form;obtain ⟨pd,cd,rfl,_⟩:=hv2.form;have HR:=hid ((Blk.new w 25 zVal).kept hk (fun h=>h));have H1:=hid (aI (((kR Nope w).alloc _).trans' hk) (aI (xaq hv1) (aI (xaq hv2) hvn)));clear hk hv1 hv2 hvn;unfold vagg;have rr:=HR.out;unfold zVal at rr;have r0:=rr.cell 0;have r1:=rr.cell 1;have r2:=rr.cell 2;have r3:=rr.cell 3;have r4:=rr.cell 4;have r5:=rr.cell 5;have g0:=rr.frozen 0;have g1:=rr.frozen 1;have g2:=rr.frozen 2;have g3:=rr.frozen 3;have g4:=rr.frozen 4;have g5:=rr.frozen 5;simp only [gt,gz,gs] at r0 r1 r2 r3 r4 r5;clear rr;simp only [xbp,xbB,xbo,xbS]))
 (try simp only [Exit.inBlock,Exit.then])
 have hB2:=(((((HR.out.set_ 0 (.int .i64 23)).set_ 1 (.int .u64 0)).set_ 2 (.string ⟨#[]⟩)).set_ 3 (.slice py (xai 2 v.kids).kids.length cy)).set_ 4 (.int .i64 2)).set_ 5 (.slice pd (xai 2 v.kids).desc.length cd);have hld:=run_loadVar_row (P:=prog) _ w.heap.size 25 25 _ _ _ hB2 underlying25 rfl (by kernel_rfl);have hks:Kept (Only w.heap.size) w1 ((((((w1.setCell ⟨w.heap.size,0,none⟩ (.int .i64 23)).setCell ⟨w.heap.size,1,none⟩ (.int .u64 0)).setCell ⟨w.heap.size,2,none⟩ (.string ⟨#[]⟩)).setCell ⟨w.heap.size,3,none⟩ (.slice py (xai 2 v.kids).kids.length cy)).setCell ⟨w.heap.size,4,none⟩ (.int .i64 2)).setCell ⟨w.heap.size,5,none⟩ (.slice pd (xai 2 v.kids).desc.length cd)):=((((((kR _ _).set1 0 _).set1 1 _).set1 2 _).set1 3 _).set1 4 _).set1 5 _;refine bodyPost_ret (v:=.tuple #[.agg #[.int .i64 23,.int .u64 0,.string ⟨#[]⟩,.slice py (xai 2 v.kids).kids.length cy,.int .i64 2,.slice pd (xai 2 v.kids).desc.length cd],.bool true]) ?_ rfl ⟨_,_,rfl,rfl,H1.out.1.trans hks (fun b hb e=>by have e':b=w.heap.size:=e;omega),?_⟩
 ·rw [results_cell_tmp rfl];simp only [Array.getD_eq_getD_getElem?,gt,gz,gs,Option.getD_some,asAddr,Sem.run_pure,Result.andThen_ok];rw [hld]
  rfl
 ·exact ⟨xai 2 v.kids,⟨_,_,rfl,H1.out.2.2.2,(H1.out.2.1.keep hks (fun b _ hb e=>by have e':b=w.heap.size:=e;omega)).mono fun b _ hb=>Nat.le_of_lt hb,(H1.out.2.2.1.keep hks (fun b _ hb e=>by have e':b=w.heap.size:=e;omega)).mono fun b _ hb=>Nat.le_of_lt hb⟩,HLO.out⟩
theorem xmw (v:V) (w:World) (s:Value) (hs:CSl Any_ w 1 s v.kids.length (v.kids.flatMap fun k=>(raw k).cells.toList)) (hk:∀ k ∈ v.kids,k.kind=3/\Tidy k) (hn:v.kids.length<=1000) (hlo:xao v (xai 3 v.kids)) :
  Calls prog 33 #[.iface 118 s] w (xac (xbE w v)):=by
 have hl:=xkZ (w.alloc (.cells zVal 25)) s v.kids (hs.keep ((kR Nope w).alloc _) (fun _ _ _ h=>h)) hk hn;have HL:=hid hl;have HLO:=hid hlo;clear hl hs hk hn hlo;have f_bool:=fun W=>xad (T:=118) (s) W (by decide)
 have f_u8:=fun W=>xas (T:=118) (s) W (by decide)
 have f_u16:=fun W=>xam (T:=118) (s) W (by decide)
 have f_u32:=fun W=>xal (T:=118) (s) W (by decide)
 have f_u64:=fun W=>xak (T:=118) (s) W (by decide)
 have f_i8:=fun W=>xaF (T:=118) (s) W (by decide)
 have f_i16:=fun W=>xav (T:=118) (s) W (by decide)
 have f_i32:=fun W=>xaC (T:=118) (s) W (by decide)
 have f_i64:=fun W=>xaH (T:=118) (s) W (by decide)
 have f_f32:=fun W=>xaO (T:=118) (s) W (by decide)
 have f_f64:=fun W=>xaQ (T:=118) (s) W (by decide)
 have f_Time:=fun W=>xaJ (T:=118) (s) W (by decide)
 have f_UUID:=fun W=>xaM (T:=118) (s) W (by decide)
 have f_bytes:=fun W=>xaI (T:=118) (s) W (by decide)
 have f_string:=fun W=>xar (T:=118) (s) W (by decide)
 have f_Symbol:=fun W=>xaD (T:=118) (s) W (by decide)
 have f_sAny:=fun W=>xaV (T:=118) (s) W (by decide)
 have f_mAny:=fun W=>xbb (T:=118) (s) W (by decide)
 have f_mStr:=fun W=>xbk (T:=118) (s) W (by decide)
 have f_sBool:=fun W=>xaZ (T:=118) (s) W (by decide)
 have f_ArrayUByte:=fun W=>xat (T:=118) (s) W (by decide)
 have fy:=fun W=>xnl (s) W
 go_enter func33,ntmps33;go_wp2_with (go_at_call 64;go_must (refine HL.out.mono ?_;rintro e w1 ⟨y,rfl,hk,ks,ds,rfl,hvn,hv1,hv2⟩;obtain ⟨py,cy,rfl,_⟩:=hv1.form;obtain ⟨pd,cd,rfl,_⟩:=hv2.form;have HR:=hid ((Blk.new w 25 zVal).kept hk (fun h=>h));have H1:=hid (aI (((kR Nope w).alloc _).trans' hk) (aI (xaq hv1) (aI (xaq hv2) hvn)));clear hk hv1 hv2 hvn;unfold vagg;have rr:=HR.out;unfold zVal at rr;have r0:=rr.cell 0;have r1:=rr.cell 1;have r2:=rr.cell 2;have r3:=rr.cell 3;have r4:=rr.cell 4;have r5:=rr.cell 5;have g0:=rr.frozen 0;have g1:=rr.frozen 1;have g2:=rr.frozen 2;have g3:=rr.frozen 3;have g4:=rr.frozen 4;have g5:=rr.frozen 5;simp only [gt,gz,gs] at r0 r1 r2 r3 r4 r5;clear rr;simp only [xbp,xbB,xbo,xbS]))
 (try simp only [Exit.inBlock,Exit.then])
 have hB2:=(((((HR.out.set_ 0 (.int .i64 23)).set_ 1 (.int .u64 0)).set_ 2 (.string ⟨#[]⟩)).set_ 3 (.slice py (xai 3 v.kids).kids.length cy)).set_ 4 (.int .i64 3)).set_ 5 (.slice pd (xai 3 v.kids).desc.length cd);have hld:=run_loadVar_row (P:=prog) _ w.heap.size 25 25 _ _ _ hB2 underlying25 rfl (by kernel_rfl);have hks:Kept (Only w.heap.size) w1 ((((((w1.setCell ⟨w.heap.size,0,none⟩ (.int .i64 23)).setCell ⟨w.heap.size,1,none⟩ (.int .u64 0)).setCell ⟨w.heap.size,2,none⟩ (.string ⟨#[]⟩)).setCell ⟨w.heap.size,3,none⟩ (.slice py (xai 3 v.kids).kids.length cy)).setCell ⟨w.heap.size,4,none⟩ (.int .i64 3)).setCell ⟨w.heap.size,5,none⟩ (.slice pd (xai 3 v.kids).desc.length cd)):=((((((kR _ _).set1 0 _).set1 1 _).set1 2 _).set1 3 _).set1 4 _).set1 5 _;refine bodyPost_ret (v:=.tuple #[.agg #[.int .i64 23,.int .u64 0,.string ⟨#[]⟩,.slice py (xai 3 v.kids).kids.length cy,.int .i64 3,.slice pd (xai 3 v.kids).desc.length cd],.bool true]) ?_ rfl ⟨_,_,rfl,rfl,H1.out.1.trans hks (fun b hb e=>by have e':b=w.heap.size:=e;omega),?_⟩
 ·rw [results_cell_tmp rfl];simp only [Array.getD_eq_getD_getElem?,gt,gz,gs,Option.getD_some,asAddr,Sem.run_pure,Result.andThen_ok];rw [hld]
  rfl
 ·exact ⟨xai 3 v.kids,⟨_,_,rfl,H1.out.2.2.2,(H1.out.2.1.keep hks (fun b _ hb e=>by have e':b=w.heap.size:=e;omega)).mono fun b _ hb=>Nat.le_of_lt hb,(H1.out.2.2.1.keep hks (fun b _ hb e=>by have e':b=w.heap.size:=e;omega)).mono fun b _ hb=>Nat.le_of_lt hb⟩,HLO.out⟩
theorem xmv (v:V) (w:World) (s:Value) (hs:CSl Any_ w 1 s v.kids.length (v.kids.flatMap fun k=>(raw k).cells.toList)) (hk:∀ k ∈ v.kids,k.kind=4/\Tidy k) (hn:v.kids.length<=1000) (hlo:xao v (xai 4 v.kids)) :
  Calls prog 33 #[.iface 121 s] w (xac (xbE w v)):=by
 have hl:=xkY (w.alloc (.cells zVal 25)) s v.kids (hs.keep ((kR Nope w).alloc _) (fun _ _ _ h=>h)) hk hn;have HL:=hid hl;have HLO:=hid hlo;clear hl hs hk hn hlo;have f_bool:=fun W=>xad (T:=121) (s) W (by decide)
 have f_u8:=fun W=>xas (T:=121) (s) W (by decide)
 have f_u16:=fun W=>xam (T:=121) (s) W (by decide)
 have f_u32:=fun W=>xal (T:=121) (s) W (by decide)
 have f_u64:=fun W=>xak (T:=121) (s) W (by decide)
 have f_i8:=fun W=>xaF (T:=121) (s) W (by decide)
 have f_i16:=fun W=>xav (T:=121) (s) W (by decide)
 have f_i32:=fun W=>xaC (T:=121) (s) W (by decide)
 have f_i64:=fun W=>xaH (T:=121) (s) W (by decide)
 have f_f32:=fun W=>xaO (T:=121) (s) W (by decide)
 have f_f64:=fun W=>xaQ (T:=121) (s) W (by decide)
 have f_Time:=fun W=>xaJ (T:=121) (s) W (by decide)
 have f_UUID:=fun W=>xaM (T:=121) (s) W (by decide)
 have f_bytes:=fun W=>xaI (T:=121) (s) W (by decide)
 have f_string:=fun W=>xar (T:=121) (s) W (by decide)
 have f_Symbol:=fun W=>xaD (T:=121) (s) W (by decide)
 have f_sAny:=fun W=>xaV (T:=121) (s) W (by decide)
 have f_mAny:=fun W=>xbb (T:=121) (s) W (by decide)
 have f_mStr:=fun W=>xbk (T:=121) (s) W (by decide)
 have f_sBool:=fun W=>xaZ (T:=121) (s) W (by decide)
 have f_ArrayUByte:=fun W=>xat (T:=121) (s) W (by decide)
 have f_sU16:=fun W=>xbA (T:=121) (s) W (by decide)
 have fy:=fun W=>xnk (s) W
 go_enter func33,ntmps33;go_wp2_with (go_at_call 66;go_must (refine HL.out.mono ?_;rintro e w1 ⟨y,rfl,hk,ks,ds,rfl,hvn,hv1,hv2⟩;obtain ⟨py,cy,rfl,_⟩:=hv1.form;obtain ⟨pd,cd,rfl,_⟩:=hv2.form;have HR:=hid ((Blk.new w 25 zVal).kept hk (fun h=>h));have H1:=hid (aI (((kR Nope w).alloc _).trans' hk) (aI (xaq hv1) (aI (xaq hv2) hvn)));clear hk hv1 hv2 hvn;unfold vagg;have rr:=HR.out;unfold zVal at rr;have r0:=rr.cell 0;have r1:=rr.cell 1;have r2:=rr.cell 2;have r3:=rr.cell 3;have r4:=rr.cell 4;have r5:=rr.cell 5;have g0:=rr.frozen 0;have g1:=rr.frozen 1;have g2:=rr.frozen 2;have g3:=rr.frozen 3;have g4:=rr.frozen 4;have g5:=rr.frozen 5;simp only [gt,gz,gs] at r0 r1 r2 r3 r4 r5;clear rr;simp only [xbp,xbB,xbo,xbS]))
 (try simp only [Exit.inBlock,Exit.then])
 have hB2:=(((((HR.out.set_ 0 (.int .i64 23)).set_ 1 (.int .u64 0)).set_ 2 (.string ⟨#[]⟩)).set_ 3 (.slice py (xai 4 v.kids).kids.length cy)).set_ 4 (.int .i64 4)).set_ 5 (.slice pd (xai 4 v.kids).desc.length cd);have hld:=run_loadVar_row (P:=prog) _ w.heap.size 25 25 _ _ _ hB2 underlying25 rfl (by kernel_rfl);have hks:Kept (Only w.heap.size) w1 ((((((w1.setCell ⟨w.heap.size,0,none⟩ (.int .i64 23)).setCell ⟨w.heap.size,1,none⟩ (.int .u64 0)).setCell ⟨w.heap.size,2,none⟩ (.string ⟨#[]⟩)).setCell ⟨w.heap.size,3,none⟩ (.slice py (xai 4 v.kids).kids.length cy)).setCell ⟨w.heap.size,4,none⟩ (.int .i64 4)).setCell ⟨w.heap.size,5,none⟩ (.slice pd (xai 4 v.kids).desc.length cd)):=((((((kR _ _).set1 0 _).set1 1 _).set1 2 _).set1 3 _).set1 4 _).set1 5 _;refine bodyPost_ret (v:=.tuple #[.agg #[.int .i64 23,.int .u64 0,.string ⟨#[]⟩,.slice py (xai 4 v.kids).kids.length cy,.int .i64 4,.slice pd (xai 4 v.kids).desc.length cd],.bool true]) ?_ rfl ⟨_,_,rfl,rfl,H1.out.1.trans hks (fun b hb e=>by have e':b=w.heap.size:=e;omega),?_⟩
 ·rw [results_cell_tmp rfl];simp only [Array.getD_eq_getD_getElem?,gt,gz,gs,Option.getD_some,asAddr,Sem.run_pure,Result.andThen_ok];rw [hld]
  rfl
 ·exact ⟨xai 4 v.kids,⟨_,_,rfl,H1.out.2.2.2,(H1.out.2.1.keep hks (fun b _ hb e=>by have e':b=w.heap.size:=e;omega)).mono fun b _ hb=>Nat.le_of_lt hb,(H1.out.2.2.1.keep hks (fun b _ hb e=>by have e':b=w.heap.size:=e;omega)).mono fun b _ hb=>Nat.le_of_lt hb⟩,HLO.out⟩
theorem xmu (v:V) (w:World) (s:Value) (hs:CSl Any_ w 1 s v.kids.length (v.kids.flatMap fun k=>(raw k).cells.toList)) (hk:∀ k ∈ v.kids,k.kind=5/\Tidy k) (hn:v.kids.length<=1000) (hlo:xao v (xai 5 v.kids)) :
  Calls prog 33 #[.iface 124 s] w (xac (xbE w v)):=by
 have hl:=xkX (w.alloc (.cells zVal 25)) s v.kids (hs.keep ((kR Nope w).alloc _) (fun _ _ _ h=>h)) hk hn;have HL:=hid hl;have HLO:=hid hlo;clear hl hs hk hn hlo;have f_bool:=fun W=>xad (T:=124) (s) W (by decide)
 have f_u8:=fun W=>xas (T:=124) (s) W (by decide)
 have f_u16:=fun W=>xam (T:=124) (s) W (by decide)
 have f_u32:=fun W=>xal (T:=124) (s) W (by decide)
 have f_u64:=fun W=>xak (T:=124) (s) W (by decide)
 have f_i8:=fun W=>xaF (T:=124) (s) W (by decide)
 have f_i16:=fun W=>xav (T:=124) (s) W (by decide)
 have f_i32:=fun W=>xaC (T:=124) (s) W (by decide)
 have f_i64:=fun W=>xaH (T:=124) (s) W (by decide)
 have f_f32:=fun W=>xaO (T:=124) (s) W (by decide)
 have f_f64:=fun W=>xaQ (T:=124) (s) W (by decide)
 have f_Time:=fun W=>xaJ (T:=124) (s) W (by decide)
 have f_UUID:=fun W=>xaM (T:=124) (s) W (by decide)
 have f_bytes:=fun W=>xaI (T:=124) (s) W (by decide)
 have f_string:=fun W=>xar (T:=124) (s) W (by decide)
 have f_Symbol:=fun W=>xaD (T:=124) (s) W (by decide)
 have f_sAny:=fun W=>xaV (T:=124) (s) W (by decide)
 have f_mAny:=fun W=>xbb (T:=124) (s) W (by decide)
 have f_mStr:=fun W=>xbk (T:=124) (s) W (by decide)
 have f_sBool:=fun W=>xaZ (T:=124) (s) W (by decide)
 have f_ArrayUByte:=fun W=>xat (T:=124) (s) W (by decide)
 have f_sU16:=fun W=>xbA (T:=124) (s) W (by decide)
 have f_sU32:=fun W=>xbH (T:=124) (s) W (by decide)
 have fy:=fun W=>xnj (s) W
 go_enter func33,ntmps33;go_wp2_with (go_at_call 68;go_must (refine HL.out.mono ?_;rintro e w1 ⟨y,rfl,hk,ks,ds,rfl,hvn,hv1,hv2⟩;obtain ⟨py,cy,rfl,_⟩:=hv1.form;obtain ⟨pd,cd,rfl,_⟩:=hv2.form;have HR:=hid ((Blk.new w 25 zVal).kept hk (fun h=>h));have H1:=hid (aI (((kR Nope w).alloc _).trans' hk) (aI (xaq hv1) (aI (xaq hv2) hvn)));clear hk hv1 hv2 hvn;unfold vagg;have rr:=HR.out;unfold zVal at rr;have r0:=rr.cell 0;have r1:=rr.cell 1;have r2:=rr.cell 2;have r3:=rr.cell 3;have r4:=rr.cell 4;have r5:=rr.cell 5;have g0:=rr.frozen 0;have g1:=rr.frozen 1;have g2:=rr.frozen 2;have g3:=rr.frozen 3;have g4:=rr.frozen 4;have g5:=rr.frozen 5;simp only [gt,gz,gs] at r0 r1 r2 r3 r4 r5;clear rr;simp only [xbp,xbB,xbo,xbS]))
 (try simp only [Exit.inBlock,Exit.then])
 have hB2:=(((((HR.out.set_ 0 (.int .i64 23)).set_ 1 (.int .u64 0)).set_ 2 (.string ⟨#[]⟩)).set_ 3 (.slice py (xai 5 v.kids).kids.length cy)).set_ 4 (.int .i64 5)).set_ 5 (.slice pd (xai 5 v.kids).desc.length cd);have hld:=run_loadVar_row (P:=prog) _ w.heap.size 25 25 _ _ _ hB2 underlying25 rfl (by kernel_rfl);have hks:Kept (Only w.heap.size) w1 ((((((w1.setCell ⟨w.heap.size,0,none⟩ (.int .i64 23)).setCell ⟨w.heap.size,1,none⟩ (.int .u64 0)).setCell ⟨w.heap.size,2,none⟩ (.string ⟨#[]⟩)).setCell ⟨w.heap.size,3,none⟩ (.slice py (xai 5 v.kids).kids.length cy)).setCell ⟨w.heap.size,4,none⟩ (.int .i64 5)).setCell ⟨w.heap.size,5,none⟩ (.slice pd (xai 5 v.kids).desc.length cd)):=((((((kR _ _).set1 0 _).set1 1 _).set1 2 _).set1 3 _).set1 4 _).set1 5 _;refine bodyPost_ret (v:=.tuple #[.agg #[.int .i64 23,.int .u64 0,.string ⟨#[]⟩,.slice py (xai 5 v.kids).kids.length cy,.int .i64 5,.slice pd (xai 5 v.kids).desc.length cd],.bool true]) ?_ rfl ⟨_,_,rfl,rfl,H1.out.1.trans hks (fun b hb e=>by have e':b=w.heap.size:=e;omega),?_⟩
 ·rw [results_cell_tmp rfl];simp only [Array.getD_eq_getD_getElem?,gt,gz,gs,Option.getD_some,asAddr,Sem.run_pure,Result.andThen_ok];rw [hld]
  rfl
 ·exact ⟨xai 5 v.kids,⟨_,_,rfl,H1.out.2.2.2,(H1.out.2.1.keep hks (fun b _ hb e=>by have e':b=w.heap.size:=e;omega)).mono fun b _ hb=>Nat.le_of_lt hb,(H1.out.2.2.1.keep hks (fun b _ hb e=>by have e':b=w.heap.size:=e;omega)).mono fun b _ hb=>Nat.le_of_lt hb⟩,HLO.out⟩
theorem xoA (v:V) (w:World) (s:Value) (hs:CSl Any_ w 1 s v.kids.length (v.kids.flatMap fun k=>(raw k).cells.toList)) (hk:∀ k ∈ v.kids,k.kind=6/\Tidy k) (hn:v.kids.length<=1000) (hlo:xao v (xai 6 v.kids)) :
  Calls prog 33 #[.iface 127 s] w (xac (xbE w v)):=by
 have hl:=xmU (w.alloc (.cells zVal 25)) s v.kids (hs.keep ((kR Nope w).alloc _) (fun _ _ _ h=>h)) hk hn;have HL:=hid hl;have HLO:=hid hlo;clear hl hs hk hn hlo;have f_bool:=fun W=>xad (T:=127) (s) W (by decide)
 have f_u8:=fun W=>xas (T:=127) (s) W (by decide)
 have f_u16:=fun W=>xam (T:=127) (s) W (by decide)
 have f_u32:=fun W=>xal (T:=127) (s) W (by decide)
 have f_u64:=fun W=>xak (T:=127) (s) W (by decide)
 have f_i8:=fun W=>xaF (T:=127) (s) W (by decide)
 have f_i16:=fun W=>xav (T:=127) (s) W (by decide)
 have f_i32:=fun W=>xaC (T:=127) (s) W (by decide)
 have f_i64:=fun W=>xaH (T:=127) (s) W (by decide)
 have f_f32:=fun W=>xaO (T:=127) (s) W (by decide)
 have f_f64:=fun W=>xaQ (T:=127) (s) W (by decide)
 have f_Time:=fun W=>xaJ (T:=127) (s) W (by decide)
 have f_UUID:=fun W=>xaM (T:=127) (s) W (by decide)
 have f_bytes:=fun W=>xaI (T:=127) (s) W (by decide)
 have f_string:=fun W=>xar (T:=127) (s) W (by decide)
 have f_Symbol:=fun W=>xaD (T:=127) (s) W (by decide)
 have f_sAny:=fun W=>xaV (T:=127) (s) W (by decide)
 have f_mAny:=fun W=>xbb (T:=127) (s) W (by decide)
 have f_mStr:=fun W=>xbk (T:=127) (s) W (by decide)
 have f_sBool:=fun W=>xaZ (T:=127) (s) W (by decide)
 have f_ArrayUByte:=fun W=>xat (T:=127) (s) W (by decide)
 have f_sU16:=fun W=>xbA (T:=127) (s) W (by decide)
 have f_sU32:=fun W=>xbH (T:=127) (s) W (by decide)
 have f_sU64:=fun W=>xbM (T:=127) (s) W (by decide)
 have fy:=fun W=>xoV (s) W
 go_enter func33,ntmps33;go_wp2_with (go_at_call 70;go_must (refine HL.out.mono ?_;rintro e w1 ⟨y,rfl,hk,ks,ds,rfl,hvn,hv1,hv2⟩;obtain ⟨py,cy,rfl,_⟩:=hv1.form;obtain ⟨pd,cd,rfl,_⟩:=hv2.form;have HR:=hid ((Blk.new w 25 zVal).kept hk (fun h=>h));have H1:=hid (aI (((kR Nope w).alloc _).trans' hk) (aI (xaq hv1) (aI (xaq hv2) hvn)));clear hk hv1 hv2 hvn;unfold vagg;have rr:=HR.out;unfold zVal at rr;have r0:=rr.cell 0;have r1:=rr.cell 1;have r2:=rr.cell 2;have r3:=rr.cell 3;have r4:=rr.cell 4;have r5:=rr.cell 5;have g0:=rr.frozen 0;have g1:=rr.frozen 1;have g2:=rr.frozen 2;have g3:=rr.frozen 3;have g4:=rr.frozen 4;have g5:=rr.frozen 5;simp only [gt,gz,gs] at r0 r1 r2 r3 r4 r5;clear rr;simp only [xbp,xbB,xbo,xbS]))
 (try simp only [Exit.inBlock,Exit.then])
 have hB2:=(((((HR.out.set_ 0 (.int .i64 23)).set_ 1 (.int .u64 0)).set_ 2 (.string ⟨#[]⟩)).set_ 3 (.slice py (xai 6 v.kids).kids.length cy)).set_ 4 (.int .i64 6)).set_ 5 (.slice pd (xai 6 v.kids).desc.length cd);have hld:=run_loadVar_row (P:=prog) _ w.heap.size 25 25 _ _ _ hB2 underlying25 rfl (by kernel_rfl);have hks:Kept (Only w.heap.size) w1 ((((((w1.setCell ⟨w.heap.size,0,none⟩ (.int .i64 23)).setCell ⟨w.heap.size,1,none⟩ (.int .u64 0)).setCell ⟨w.heap.size,2,none⟩ (.string ⟨#[]⟩)).setCell ⟨w.heap.size,3,none⟩ (.slice py (xai 6 v.kids).kids.length cy)).setCell ⟨w.heap.size,4,none⟩ (.int .i64 6)).setCell ⟨w.heap.size,5,none⟩ (.slice pd (xai 6 v.kids).desc.length cd)):=((((((kR _ _).set1 0 _).set1 1 _).set1 2 _).set1 3 _).set1 4 _).set1 5 _;refine bodyPost_ret (v:=.tuple #[.agg #[.int .i64 23,.int .u64 0,.string ⟨#[]⟩,.slice py (xai 6 v.kids).kids.length cy,.int .i64 6,.slice pd (xai 6 v.kids).desc.length cd],.bool true]) ?_ rfl ⟨_,_,rfl,rfl,H1.out.1.trans hks (fun b hb e=>by have e':b=w.heap.size:=e;omega),?_⟩
 ·rw [results_cell_tmp rfl];simp only [Array.getD_eq_getD_getElem?,gt,gz,gs,Option.getD_some,asAddr,Sem.run_pure,Result.andThen_ok];rw [hld]
  rfl
 ·exact ⟨xai 6 v.kids,⟨_,_,rfl,H1.out.2.2.2,(H1.out.2.1.keep hks (fun b _ hb e=>by have e':b=w.heap.size:=e;omega)).mono fun b _ hb=>Nat.le_of_lt hb,(H1.out.2.2.1.keep hks (fun b _ hb e=>by have e':b=w.heap.size:=e;omega)).mono fun b _ hb=>Nat.le_of_lt hb⟩,HLO.out⟩
end Go.Proofs.YtmdpodeegdjkeaaGreatDoor
