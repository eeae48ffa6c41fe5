/- Part 16 of the proof of the readers and the guards. No conditions. -/
import Derived.Test.YtmdpodeegdjkeaaGreatDoorU0
import Derived.Test.YtmdpodeegdjkeaaGreatDoorU12
import Derived.Test.YtmdpodeegdjkeaaGreatDoorU15
set_option maxRecDepth 100000
set_option maxHeartbeats 3200000
namespace Go.Proofs.YtmdpodeegdjkeaaGreatDoor
open Go Go.RowKit Go.Lib Tryz
theorem xmA (v:V) (w:World) (s:Value) (hs:CSl Any_ w 1 s v.kids.length (v.kids.flatMap fun k=>(raw k).cells.toList)) (hk:∀ k ∈ v.kids,k.kind=7/\Tidy k) (hn:v.kids.length<=1000) (hlo:xao v (xai 7 v.kids)) :
  Calls prog 33 #[.iface 130 s] w (xac (xbE w v)):=by
 have hl:=xlc (w.alloc (.cells zVal 25)) s v.kids (hs.keep ((kR Nope w).alloc _) (fun _ _ _ h=>h)) hk hn;have HL:=hid hl;have HLO:=hid hlo;clear hl hs hk hn hlo;have f_bool:=fun W=>xad (T:=130) (s) W (by decide)
 have f_u8:=fun W=>xas (T:=130) (s) W (by decide)
 have f_u16:=fun W=>xam (T:=130) (s) W (by decide)
 have f_u32:=fun W=>xal (T:=130) (s) W (by decide)
 have f_u64:=fun W=>xak (T:=130) (s) W (by decide)
 have f_i8:=fun W=>xaF (T:=130) (s) W (by decide)
 have f_i16:=fun W=>xav (T:=130) (s) W (by decide)
 have f_i32:=fun W=>xaC (T:=130) (s) W (by decide)
 have f_i64:=fun W=>xaH (T:=130) (s) W (by decide)
 have f_f32:=fun W=>xaO (T:=130) (s) W (by decide)
 have f_f64:=fun W=>xaQ (T:=130) (s) W (by decide)
 have f_Time:=fun W=>xaJ (T:=130) (s) W (by decide)
 have f_UUID:=fun W=>xaM (T:=130) (s) W (by decide)
 have f_bytes:=fun W=>xaI (T:=130) (s) W (by decide)
 have f_string:=fun W=>xar (T:=130) (s) W (by decide)
 have f_Symbol:=fun W=>xaD (T:=130) (s) W (by decide)
 have f_sAny:=fun W=>xaV (T:=130) (s) W (by decide)
 have f_mAny:=fun W=>xbb (T:=130) (s) W (by decide)
 have f_mStr:=fun W=>xbk (T:=130) (s) W (by decide)
 have f_sBool:=fun W=>xaZ (T:=130) (s) W (by decide)
 have f_ArrayUByte:=fun W=>xat (T:=130) (s) W (by decide)
 have f_sU16:=fun W=>xbA (T:=130) (s) W (by decide)
 have f_sU32:=fun W=>xbH (T:=130) (s) W (by decide)
 have f_sU64:=fun W=>xbM (T:=130) (s) W (by decide)
 have f_sI8:=fun W=>xcp (T:=130) (s) W (by decide)
 have fy:=fun W=>xnp (s) W
 go_enter func33,ntmps33;go_wp2_with (go_at_call 72;go_must (refine HL.out.mono ?_;rintro e w1 ⟨y,rfl,hk,ks,ds,rfl,hvn,hv1,hv2⟩;obtain ⟨py,cy,rfl,_⟩:=hv1.form;obtain ⟨pd,cd,rfl,_⟩:=hv2.form;have HR:=hid ((Blk.new w 25 zVal).kept hk (fun h=>h));have H1:=hid (aI (((kR Nope w).alloc _).trans' hk) (aI (xaq hv1) (aI (xaq hv2) hvn)));clear hk hv1 hv2 hvn;unfold vagg;have rr:=HR.out;unfold zVal at rr;have r0:=rr.cell 0;have r1:=rr.cell 1;have r2:=rr.cell 2;have r3:=rr.cell 3;have r4:=rr.cell 4;have r5:=rr.cell 5;have g0:=rr.frozen 0;have g1:=rr.frozen 1;have g2:=rr.frozen 2;have g3:=rr.frozen 3;have g4:=rr.frozen 4;have g5:=rr.frozen 5;simp only [gt,gz,gs] at r0 r1 r2 r3 r4 r5;clear rr;simp only [xbp,xbB,xbo,xbS]))
 (try simp only [Exit.inBlock,Exit.then])
 have hB2:=(((((HR.out.set_ 0 (.int .i64 23)).set_ 1 (.int .u64 0)).set_ 2 (.string ⟨#[]⟩)).set_ 3 (.slice py (xai 7 v.kids).kids.length cy)).set_ 4 (.int .i64 7)).set_ 5 (.slice pd (xai 7 v.kids).desc.length cd);have hld:=run_loadVar_row (P:=prog) _ w.heap.size 25 25 _ _ _ hB2 underlying25 rfl (by kernel_rfl);have hks:Kept (Only w.heap.size) w1 ((((((w1.setCell ⟨w.heap.size,0,none⟩ (.int .i64 23)).setCell ⟨w.heap.size,1,none⟩ (.int .u64 0)).setCell ⟨w.heap.size,2,none⟩ (.string ⟨#[]⟩)).setCell ⟨w.heap.size,3,none⟩ (.slice py (xai 7 v.kids).kids.length cy)).setCell ⟨w.heap.size,4,none⟩ (.int .i64 7)).setCell ⟨w.heap.size,5,none⟩ (.slice pd (xai 7 v.kids).desc.length cd)):=((((((kR _ _).set1 0 _).set1 1 _).set1 2 _).set1 3 _).set1 4 _).set1 5 _;refine bodyPost_ret (v:=.tuple #[.agg #[.int .i64 23,.int .u64 0,.string ⟨#[]⟩,.slice py (xai 7 v.kids).kids.length cy,.int .i64 7,.slice pd (xai 7 v.kids).desc.length cd],.bool true]) ?_ rfl ⟨_,_,rfl,rfl,H1.out.1.trans hks (fun b hb e=>by have e':b=w.heap.size:=e;omega),?_⟩
 ·rw [results_cell_tmp rfl];simp only [Array.getD_eq_getD_getElem?,gt,gz,gs,Option.getD_some,asAddr,Sem.run_pure,Result.andThen_ok];rw [hld]
  rfl
 ·exact ⟨xai 7 v.kids,⟨_,_,rfl,H1.out.2.2.2,(H1.out.2.1.keep hks (fun b _ hb e=>by have e':b=w.heap.size:=e;omega)).mono fun b _ hb=>Nat.le_of_lt hb,(H1.out.2.2.1.keep hks (fun b _ hb e=>by have e':b=w.heap.size:=e;omega)).mono fun b _ hb=>Nat.le_of_lt hb⟩,HLO.out⟩
theorem xmz (v:V) (w:World) (s:Value) (hs:CSl Any_ w 1 s v.kids.length (v.kids.flatMap fun k=>(raw k).cells.toList)) (hk:∀ k ∈ v.kids,k.kind=8/\Tidy k) (hn:v.kids.length<=1000) (hlo:xao v (xai 8 v.kids)) :
  Calls prog 33 #[.iface 133 s] w (xac (xbE w v)):=by
 have hl:=xlb (w.alloc (.cells zVal 25)) s v.kids (hs.keep ((kR Nope w).alloc _) (fun _ _ _ h=>h)) hk hn;have HL:=hid hl;have HLO:=hid hlo;clear hl hs hk hn hlo;have f_bool:=fun W=>xad (T:=133) (s) W (by decide)
 have f_u8:=fun W=>xas (T:=133) (s) W (by decide)
 have f_u16:=fun W=>xam (T:=133) (s) W (by decide)
 have f_u32:=fun W=>xal (T:=133) (s) W (by decide)
 have f_u64:=fun W=>xak (T:=133) (s) W (by decide)
 have f_i8:=fun W=>xaF (T:=133) (s) W (by decide)
 have f_i16:=fun W=>xav (T:=133) (s) W (by decide)
 have f_i32:=fun W=>xaC (T:=133) (s) W (by decide)
 have f_i64:=fun W=>xaH (T:=133) (s) W (by decide)
 have f_f32:=fun W=>xaO (T:=133) (s) W (by decide)
 have f_f64:=fun W=>xaQ (T:=133) (s) W (by decide)
 have f_Time:=fun W=>xaJ (T:=133) (s) W (by decide)
 have f_UUID:=fun W=>xaM (T:=133) (s) W (by decide)
 have f_bytes:=fun W=>xaI (T:=133) (s) W (by decide)
 have f_string:=fun W=>xar (T:=133) (s) W (by decide)
 have f_Symbol:=fun W=>xaD (T:=133) (s) W (by decide)
 have f_sAny:=fun W=>xaV (T:=133) (s) W (by decide)
 have f_mAny:=fun W=>xbb (T:=133) (s) W (by decide)
 have f_mStr:=fun W=>xbk (T:=133) (s) W (by decide)
 have f_sBool:=fun W=>xaZ (T:=133) (s) W (by decide)
 have f_ArrayUByte:=fun W=>xat (T:=133) (s) W (by decide)
 have f_sU16:=fun W=>xbA (T:=133) (s) W (by decide)
 have f_sU32:=fun W=>xbH (T:=133) (s) W (by decide)
 have f_sU64:=fun W=>xbM (T:=133) (s) W (by decide)
 have f_sI8:=fun W=>xcp (T:=133) (s) W (by decide)
 have f_sI16:=fun W=>xck (T:=133) (s) W (by decide)
 have fy:=fun W=>xno (s) W
 go_enter func33,ntmps33;go_wp2_with (go_at_call 74;go_must (refine HL.out.mono ?_;rintro e w1 ⟨y,rfl,hk,ks,ds,rfl,hvn,hv1,hv2⟩;obtain ⟨py,cy,rfl,_⟩:=hv1.form;obtain ⟨pd,cd,rfl,_⟩:=hv2.form;have HR:=hid ((Blk.new w 25 zVal).kept hk (fun h=>h));have H1:=hid (aI (((kR Nope w).alloc _).trans' hk) (aI (xaq hv1) (aI (xaq hv2) hvn)));clear hk hv1 hv2 hvn;unfold vagg;have rr:=HR.out;unfold zVal at rr;have r0:=rr.cell 0;have r1:=rr.cell 1;have r2:=rr.cell 2;have r3:=rr.cell 3;have r4:=rr.cell 4;have r5:=rr.cell 5;have g0:=rr.frozen 0;have g1:=rr.frozen 1;have g2:=rr.frozen 2;have g3:=rr.frozen 3;have g4:=rr.frozen 4;have g5:=rr.frozen 5;simp only [gt,gz,gs] at r0 r1 r2 r3 r4 r5;clear rr;simp only [xbp,xbB,xbo,xbS]))
 (try simp only [Exit.inBlock,Exit.then])
 have hB2:=(((((HR.out.set_ 0 (.int .i64 23)).set_ 1 (.int .u64 0)).set_ 2 (.string ⟨#[]⟩)).set_ 3 (.slice py (xai 8 v.kids).kids.length cy)).set_ 4 (.int .i64 8)).set_ 5 (.slice pd (xai 8 v.kids).desc.length cd);have hld:=run_loadVar_row (P:=prog) _ w.heap.size 25 25 _ _ _ hB2 underlying25 rfl (by kernel_rfl);have hks:Kept (Only w.heap.size) w1 ((((((w1.setCell ⟨w.heap.size,0,none⟩ (.int .i64 23)).setCell ⟨w.heap.size,1,none⟩ (.int .u64 0)).setCell ⟨w.heap.size,2,none⟩ (.string ⟨#[]⟩)).setCell ⟨w.heap.size,3,none⟩ (.slice py (xai 8 v.kids).kids.length cy)).setCell ⟨w.heap.size,4,none⟩ (.int .i64 8)).setCell ⟨w.heap.size,5,none⟩ (.slice pd (xai 8 v.kids).desc.length cd)):=((((((kR _ _).set1 0 _).set1 1 _).set1 2 _).set1 3 _).set1 4 _).set1 5 _;refine bodyPost_ret (v:=.tuple #[.agg #[.int .i64 23,.int .u64 0,.string ⟨#[]⟩,.slice py (xai 8 v.kids).kids.length cy,.int .i64 8,.slice pd (xai 8 v.kids).desc.length cd],.bool true]) ?_ rfl ⟨_,_,rfl,rfl,H1.out.1.trans hks (fun b hb e=>by have e':b=w.heap.size:=e;omega),?_⟩
 ·rw [results_cell_tmp rfl];simp only [Array.getD_eq_getD_getElem?,gt,gz,gs,Option.getD_some,asAddr,Sem.run_pure,Result.andThen_ok];rw [hld]
  rfl
 ·exact ⟨xai 8 v.kids,⟨_,_,rfl,H1.out.2.2.2,(H1.out.2.1.keep hks (fun b _ hb e=>by have e':b=w.heap.size:=e;omega)).mono fun b _ hb=>Nat.le_of_lt hb,(H1.out.2.2.1.keep hks (fun b _ hb e=>by have e':b=w.heap.size:=e;omega)).mono fun b _ hb=>Nat.le_of_lt hb⟩,HLO.out⟩
theorem xmy (v:V) (w:World) (s:Value) (hs:CSl Any_ w 1 s v.kids.length (v.kids.flatMap fun k=>(raw k).cells.toList)) (hk:∀ k ∈ v.kids,k.kind=9/\Tidy k) (hn:v.kids.length<=1000) (hlo:xao v (xai 9 v.kids)) :
  Calls prog 33 #[.iface 136 s] w (xac (xbE w v)):=by
 have hl:=xla (w.alloc (.cells zVal 25)) s v.kids (hs.keep ((kR Nope w).alloc _) (fun _ _ _ h=>h)) hk hn;have HL:=hid hl;have HLO:=hid hlo;clear hl hs hk hn hlo;have f_bool:=fun W=>xad (T:=136) (s) W (by decide)
 have f_u8:=fun W=>xas (T:=136) (s) W (by decide)
 have f_u16:=fun W=>xam (T:=136) (s) W (by decide)
 have f_u32:=fun W=>xal (T:=136) (s) W (by decide)
 have f_u64:=fun W=>xak (T:=136) (s) W (by decide)
 have f_i8:=fun W=>xaF (T:=136) (s) W (by decide)
 have f_i16:=fun W=>xav (T:=136) (s) W (by decide)
 have f_i32:=fun W=>xaC (T:=136) (s) W (by decide)
 have f_i64:=fun W=>xaH (T:=136) (s) W (by decide)
 have f_f32:=fun W=>xaO (T:=136) (s) W (by decide)
 have f_f64:=fun W=>xaQ (T:=136) (s) W (by decide)
 have f_Time:=fun W=>xaJ (T:=136) (s) W (by decide)
 have f_UUID:=fun W=>xaM (T:=136) (s) W (by decide)
 have f_bytes:=fun W=>xaI (T:=136) (s) W (by decide)
 have f_string:=fun W=>xar (T:=136) (s) W (by decide)
 have f_Symbol:=fun W=>xaD (T:=136) (s) W (by decide)
 have f_sAny:=fun W=>xaV (T:=136) (s) W (by decide)
 have f_mAny:=fun W=>xbb (T:=136) (s) W (by decide)
 have f_mStr:=fun W=>xbk (T:=136) (s) W (by decide)
 have f_sBool:=fun W=>xaZ (T:=136) (s) W (by decide)
 have f_ArrayUByte:=fun W=>xat (T:=136) (s) W (by decide)
 have f_sU16:=fun W=>xbA (T:=136) (s) W (by decide)
 have f_sU32:=fun W=>xbH (T:=136) (s) W (by decide)
 have f_sU64:=fun W=>xbM (T:=136) (s) W (by decide)
 have f_sI8:=fun W=>xcp (T:=136) (s) W (by decide)
 have f_sI16:=fun W=>xck (T:=136) (s) W (by decide)
 have f_sI32:=fun W=>xcA (T:=136) (s) W (by decide)
 have fy:=fun W=>xnn (s) W
 go_enter func33,ntmps33;go_wp2_with (go_at_call 76;go_must (refine HL.out.mono ?_;rintro e w1 ⟨y,rfl,hk,ks,ds,rfl,hvn,hv1,hv2⟩;obtain ⟨py,cy,rfl,_⟩:=hv1.form;obtain ⟨pd,cd,rfl,_⟩:=hv2.form;have HR:=hid ((Blk.new w 25 zVal).kept hk (fun h=>h));have H1:=hid (aI (((kR Nope w).alloc _).trans' hk) (aI (xaq hv1) (aI (xaq hv2) hvn)));clear hk hv1 hv2 hvn;unfold vagg;have rr:=HR.out;unfold zVal at rr;have r0:=rr.cell 0;have r1:=rr.cell 1;have r2:=rr.cell 2;have r3:=rr.cell 3;have r4:=rr.cell 4;have r5:=rr.cell 5;have g0:=rr.frozen 0;have g1:=rr.frozen 1;have g2:=rr.frozen 2;have g3:=rr.frozen 3;have g4:=rr.frozen 4;have g5:=rr.frozen 5;simp only [gt,gz,gs] at r0 r1 r2 r3 r4 r5;clear rr;simp only [xbp,xbB,xbo,xbS]))
 (try simp only [Exit.inBlock,Exit.then])
 have hB2:=(((((HR.out.set_ 0 (.int .i64 23)).set_ 1 (.int .u64 0)).set_ 2 (.string ⟨#[]⟩)).set_ 3 (.slice py (xai 9 v.kids).kids.length cy)).set_ 4 (.int .i64 9)).set_ 5 (.slice pd (xai 9 v.kids).desc.length cd);have hld:=run_loadVar_row (P:=prog) _ w.heap.size 25 25 _ _ _ hB2 underlying25 rfl (by kernel_rfl);have hks:Kept (Only w.heap.size) w1 ((((((w1.setCell ⟨w.heap.size,0,none⟩ (.int .i64 23)).setCell ⟨w.heap.size,1,none⟩ (.int .u64 0)).setCell ⟨w.heap.size,2,none⟩ (.string ⟨#[]⟩)).setCell ⟨w.heap.size,3,none⟩ (.slice py (xai 9 v.kids).kids.length cy)).setCell ⟨w.heap.size,4,none⟩ (.int .i64 9)).setCell ⟨w.heap.size,5,none⟩ (.slice pd (xai 9 v.kids).desc.length cd)):=((((((kR _ _).set1 0 _).set1 1 _).set1 2 _).set1 3 _).set1 4 _).set1 5 _;refine bodyPost_ret (v:=.tuple #[.agg #[.int .i64 23,.int .u64 0,.string ⟨#[]⟩,.slice py (xai 9 v.kids).kids.length cy,.int .i64 9,.slice pd (xai 9 v.kids).desc.length cd],.bool true]) ?_ rfl ⟨_,_,rfl,rfl,H1.out.1.trans hks (fun b hb e=>by have e':b=w.heap.size:=e;omega),?_⟩
 ·rw [results_cell_tmp rfl];simp only [Array.getD_eq_getD_getElem?,gt,gz,gs,Option.getD_some,asAddr,Sem.run_pure,Result.andThen_ok];rw [hld]
  rfl
 ·exact ⟨xai 9 v.kids,⟨_,_,rfl,H1.out.2.2.2,(H1.out.2.1.keep hks (fun b _ hb e=>by have e':b=w.heap.size:=e;omega)).mono fun b _ hb=>Nat.le_of_lt hb,(H1.out.2.2.1.keep hks (fun b _ hb e=>by have e':b=w.heap.size:=e;omega)).mono fun b _ hb=>Nat.le_of_lt hb⟩,HLO.out⟩
theorem xmC (v:V) (w:World) (s:Value) (hs:CSl Any_ w 1 s v.kids.length (v.kids.flatMap fun k=>(raw k).cells.toList)) (hk:∀ k ∈ v.kids,k.kind=10/\Tidy k) (hn:v.kids.length<=1000) (hlo:xao v (xai 10 v.kids)) :
  Calls prog 33 #[.iface 139 s] w (xac (xbE w v)):=by
 have hl:=xle (w.alloc (.cells zVal 25)) s v.kids (hs.keep ((kR Nope w).alloc _) (fun _ _ _ h=>h)) hk hn;have HL:=hid hl;have HLO:=hid hlo;clear hl hs hk hn hlo;have f_bool:=fun W=>xad (T:=139) (s) W (by decide)
 have f_u8:=fun W=>xas (T:=139) (s) W (by decide)
 have f_u16:=fun W=>xam (T:=139) (s) W (by decide)
 have f_u32:=fun W=>xal (T:=139) (s) W (by decide)
 have f_u64:=fun W=>xak (T:=139) (s) W (by decide)
 have f_i8:=fun W=>xaF (T:=139) (s) W (by decide)
 have f_i16:=fun W=>xav (T:=139) (s) W (by decide)
 have f_i32:=fun W=>xaC (T:=139) (s) W (by decide)
 have f_i64:=fun W=>xaH (T:=139) (s) W (by decide)
 have f_f32:=fun W=>xaO (T:=139) (s) W (by decide)
 have f_f64:=fun W=>xaQ (T:=139) (s) W (by decide)
 have f_Time:=fun W=>xaJ (T:=139) (s) W (by decide)
 have f_UUID:=fun W=>xaM (T:=139) (s) W (by decide)
 have f_bytes:=fun W=>xaI (T:=139) (s) W (by decide)
 have f_string:=fun W=>xar (T:=139) (s) W (by decide)
 have f_Symbol:=fun W=>xaD (T:=139) (s) W (by decide)
 have f_sAny:=fun W=>xaV (T:=139) (s) W (by decide)
 have f_mAny:=fun W=>xbb (T:=139) (s) W (by decide)
 have f_mStr:=fun W=>xbk (T:=139) (s) W (by decide)
 have f_sBool:=fun W=>xaZ (T:=139) (s) W (by decide)
 have f_ArrayUByte:=fun W=>xat (T:=139) (s) W (by decide)
 have f_sU16:=fun W=>xbA (T:=139) (s) W (by decide)
 have f_sU32:=fun W=>xbH (T:=139) (s) W (by decide)
 have f_sU64:=fun W=>xbM (T:=139) (s) W (by decide)
 have f_sI8:=fun W=>xcp (T:=139) (s) W (by decide)
 have f_sI16:=fun W=>xck (T:=139) (s) W (by decide)
 have f_sI32:=fun W=>xcA (T:=139) (s) W (by decide)
 have f_sI64:=fun W=>xcL (T:=139) (s) W (by decide)
 have fy:=fun W=>xnr (s) W
 go_enter func33,ntmps33;go_wp2_with (go_at_call 78;go_must (refine HL.out.mono ?_;rintro e w1 ⟨y,rfl,hk,ks,ds,rfl,hvn,hv1,hv2⟩;obtain ⟨py,cy,rfl,_⟩:=hv1.form;obtain ⟨pd,cd,rfl,_⟩:=hv2.form;have HR:=hid ((Blk.new w 25 zVal).kept hk (fun h=>h));have H1:=hid (aI (((kR Nope w).alloc _).trans' hk) (aI (xaq hv1) (aI (xaq hv2) hvn)));clear hk hv1 hv2 hvn;unfold vagg;have rr:=HR.out;unfold zVal at rr;have r0:=rr.cell 0;have r1:=rr.cell 1;have r2:=rr.cell 2;have r3:=rr.cell 3;have r4:=rr.cell 4;have r5:=rr.cell 5;have g0:=rr.frozen 0;have g1:=rr.frozen 1;have g2:=rr.frozen 2;have g3:=rr.frozen 3;have g4:=rr.frozen 4;have g5:=rr.frozen 5;simp only [gt,gz,gs] at r0 r1 r2 r3 r4 r5;clear rr;simp only [xbp,xbB,xbo,xbS]))
 (try simp only [Exit.inBlock,Exit.then])
 have hB2:=(((((HR.out.set_ 0 (.int .i64 23)).set_ 1 (.int .u64 0)).set_ 2 (.string ⟨#[]⟩)).set_ 3 (.slice py (xai 10 v.kids).kids.length cy)).set_ 4 (.int .i64 10)).set_ 5 (.slice pd (xai 10 v.kids).desc.length cd);have hld:=run_loadVar_row (P:=prog) _ w.heap.size 25 25 _ _ _ hB2 underlying25 rfl (by kernel_rfl);have hks:Kept (Only w.heap.size) w1 ((((((w1.setCell ⟨w.heap.size,0,none⟩ (.int .i64 23)).setCell ⟨w.heap.size,1,none⟩ (.int .u64 0)).setCell ⟨w.heap.size,2,none⟩ (.string ⟨#[]⟩)).setCell ⟨w.heap.size,3,none⟩ (.slice py (xai 10 v.kids).kids.length cy)).setCell ⟨w.heap.size,4,none⟩ (.int .i64 10)).setCell ⟨w.heap.size,5,none⟩ (.slice pd (xai 10 v.kids).desc.length cd)):=((((((kR _ _).set1 0 _).set1 1 _).set1 2 _).set1 3 _).set1 4 _).set1 5 _;refine bodyPost_ret (v:=.tuple #[.agg #[.int .i64 23,.int .u64 0,.string ⟨#[]⟩,.slice py (xai 10 v.kids).kids.length cy,.int .i64 10,.slice pd (xai 10 v.kids).desc.length cd],.bool true]) ?_ rfl ⟨_,_,rfl,rfl,H1.out.1.trans hks (fun b hb e=>by have e':b=w.heap.size:=e;omega),?_⟩
 ·rw [results_cell_tmp rfl];simp only [Array.getD_eq_getD_getElem?,gt,gz,gs,Option.getD_some,asAddr,Sem.run_pure,Result.andThen_ok];rw [hld]
  rfl
 ·exact ⟨xai 10 v.kids,⟨_,_,rfl,H1.out.2.2.2,(H1.out.2.1.keep hks (fun b _ hb e=>by have e':b=w.heap.size:=e;omega)).mono fun b _ hb=>Nat.le_of_lt hb,(H1.out.2.2.1.keep hks (fun b _ hb e=>by have e':b=w.heap.size:=e;omega)).mono fun b _ hb=>Nat.le_of_lt hb⟩,HLO.out⟩
theorem xmB (v:V) (w:World) (s:Value) (hs:CSl Any_ w 1 s v.kids.length (v.kids.flatMap fun k=>(raw k).cells.toList)) (hk:∀ k ∈ v.kids,k.kind=11/\Tidy k) (hn:v.kids.length<=1000) (hlo:xao v (xai 11 v.kids)) :
  Calls prog 33 #[.iface 142 s] w (xac (xbE w v)):=by
 have hl:=xld (w.alloc (.cells zVal 25)) s v.kids (hs.keep ((kR Nope w).alloc _) (fun _ _ _ h=>h)) hk hn;have HL:=hid hl;have HLO:=hid hlo;clear hl hs hk hn hlo;have f_bool:=fun W=>xad (T:=142) (s) W (by decide)
 have f_u8:=fun W=>xas (T:=142) (s) W (by decide)
 have f_u16:=fun W=>xam (T:=142) (s) W (by decide)
 have f_u32:=fun W=>xal (T:=142) (s) W (by decide)
 have f_u64:=fun W=>xak (T:=142) (s) W (by decide)
 have f_i8:=fun W=>xaF (T:=142) (s) W (by decide)
 have f_i16:=fun W=>xav (T:=142) (s) W (by decide)
 have f_i32:=fun W=>xaC (T:=142) (s) W (by decide)
 have f_i64:=fun W=>xaH (T:=142) (s) W (by decide)
 have f_f32:=fun W=>xaO (T:=142) (s) W (by decide)
 have f_f64:=fun W=>xaQ (T:=142) (s) W (by decide)
 have f_Time:=fun W=>xaJ (T:=142) (s) W (by decide)
 have f_UUID:=fun W=>xaM (T:=142) (s) W (by decide)
 have f_bytes:=fun W=>xaI (T:=142) (s) W (by decide)
 have f_string:=fun W=>xar (T:=142) (s) W (by decide)
 have f_Symbol:=fun W=>xaD (T:=142) (s) W (by decide)
 have f_sAny:=fun W=>xaV (T:=142) (s) W (by decide)
 have f_mAny:=fun W=>xbb (T:=142) (s) W (by decide)
 have f_mStr:=fun W=>xbk (T:=142) (s) W (by decide)
 have f_sBool:=fun W=>xaZ (T:=142) (s) W (by decide)
 have f_ArrayUByte:=fun W=>xat (T:=142) (s) W (by decide)
 have f_sU16:=fun W=>xbA (T:=142) (s) W (by decide)
 have f_sU32:=fun W=>xbH (T:=142) (s) W (by decide)
 have f_sU64:=fun W=>xbM (T:=142) (s) W (by decide)
 have f_sI8:=fun W=>xcp (T:=142) (s) W (by decide)
 have f_sI16:=fun W=>xck (T:=142) (s) W (by decide)
 have f_sI32:=fun W=>xcA (T:=142) (s) W (by decide)
 have f_sI64:=fun W=>xcL (T:=142) (s) W (by decide)
 have f_sF32:=fun W=>xdn (T:=142) (s) W (by decide)
 have fy:=fun W=>xnq (s) W
 go_enter func33,ntmps33;go_wp2_with (go_at_call 80;go_must (refine HL.out.mono ?_;rintro e w1 ⟨y,rfl,hk,ks,ds,rfl,hvn,hv1,hv2⟩;obtain ⟨py,cy,rfl,_⟩:=hv1.form;obtain ⟨pd,cd,rfl,_⟩:=hv2.form;have HR:=hid ((Blk.new w 25 zVal).kept hk (fun h=>h));have H1:=hid (aI (((kR Nope w).alloc _).trans' hk) (aI (xaq hv1) (aI (xaq hv2) hvn)));clear hk hv1 hv2 hvn;unfold vagg;have rr:=HR.out;unfold zVal at rr;have r0:=rr.cell 0;have r1:=rr.cell 1;have r2:=rr.cell 2;have r3:=rr.cell 3;have r4:=rr.cell 4;have r5:=rr.cell 5;have g0:=rr.frozen 0;have g1:=rr.frozen 1;have g2:=rr.frozen 2;have g3:=rr.frozen 3;have g4:=rr.frozen 4;have g5:=rr.frozen 5;simp only [gt,gz,gs] at r0 r1 r2 r3 r4 r5;clear rr;simp only [xbp,xbB,xbo,xbS]))
 (try simp only [Exit.inBlock,Exit.then])
 have hB2:=(((((HR.out.set_ 0 (.int .i64 23)).set_ 1 (.int .u64 0)).set_ 2 (.string ⟨#[]⟩)).set_ 3 (.slice py (xai 11 v.kids).kids.length cy)).set_ 4 (.int .i64 11)).set_ 5 (.slice pd (xai 11 v.kids).desc.length cd);have hld:=run_loadVar_row (P:=prog) _ w.heap.size 25 25 _ _ _ hB2 underlying25 rfl (by kernel_rfl);have hks:Kept (Only w.heap.size) w1 ((((((w1.setCell ⟨w.heap.size,0,none⟩ (.int .i64 23)).setCell ⟨w.heap.size,1,none⟩ (.int .u64 0)).setCell ⟨w.heap.size,2,none⟩ (.string ⟨#[]⟩)).setCell ⟨w.heap.size,3,none⟩ (.slice py (xai 11 v.kids).kids.length cy)).setCell ⟨w.heap.size,4,none⟩ (.int .i64 11)).setCell ⟨w.heap.size,5,none⟩ (.slice pd (xai 11 v.kids).desc.length cd)):=((((((kR _ _).set1 0 _).set1 1 _).set1 2 _).set1 3 _).set1 4 _).set1 5 _;refine bodyPost_ret (v:=.tuple #[.agg #[.int .i64 23,.int .u64 0,.string ⟨#[]⟩,.slice py (xai 11 v.kids).kids.length cy,.int .i64 11,.slice pd (xai 11 v.kids).desc.length cd],.bool true]) ?_ rfl ⟨_,_,rfl,rfl,H1.out.1.trans hks (fun b hb e=>by have e':b=w.heap.size:=e;omega),?_⟩
 ·rw [results_cell_tmp rfl];simp only [Array.getD_eq_getD_getElem?,gt,gz,gs,Option.getD_some,asAddr,Sem.run_pure,Result.andThen_ok];rw [hld]
  rfl
 ·exact ⟨xai 11 v.kids,⟨_,_,rfl,H1.out.2.2.2,(H1.out.2.1.keep hks (fun b _ hb e=>by have e':b=w.heap.size:=e;omega)).mono fun b _ hb=>Nat.le_of_lt hb,(H1.out.2.2.1.keep hks (fun b _ hb e=>by have e':b=w.heap.size:=e;omega)).mono fun b _ hb=>Nat.le_of_lt hb⟩,HLO.out⟩
theorem vl13_ok (s:ByteArray) (w:World):Calls prog 88 #[.string s] w fun e w'=>e = .returned (.string s)/\w=w':=by
 go_enter func88,ntmps88;go_wp2;go_ret;exact ⟨rfl,rfl⟩
theorem xjx (w:World) (s:Value) (l:List V) (hs:CSl Any_ w 1 s l.length (l.flatMap fun k=>(raw k).cells.toList)) (hk:∀ k ∈ l,k.kind=19/\Tidy k) (hn:l.length<=1000) :
  Calls prog 87 #[.int .i64 19,s,.func (.func 88) #[] #[]] w (Gives (xcx w 19 l)):=by
 obtain ⟨i1,hi,hz0,hz1,hz2⟩:=info_parts xbc;obtain ⟨hlx,A,c,rfl,hnc,hcm,hc⟩:=hs;rw [flatMap_one (g:=raw) (fun a ha=>by simp [raw,(hk a ha).1,Value.cells])] at hlx hc;have HK:=hid hk;have HC:=hid hc;clear hc hlx hk;unfold maxLen at hcm;obtain ⟨n,hnn⟩:∃ n,l.length=n:=⟨_,rfl⟩
 have HL:=hid hnn;rw [hnn] at hn hnc ⊢;clear hnn;go_enter func87,ntmps87;go_wp2;have HT:=Blk.two w #[.int .i64 0,.int .u64 0,.string ⟨#[]⟩,.slice none 0 0,.int .i64 0,.slice none 0 0] #[.int .i64 23,.int .u64 0,.string ⟨#[]⟩,.slice none 0 0,.int .i64 19,.slice none 0 0] 25;have HI:=hid (NInv.start (l:=l) (show w.heap.size < w.heap.size+1 by omega) HT.1 HT.2.2 HT.2.1);generalize (w.alloc (.cells #[.int .i64 0,.int .u64 0,.string ⟨#[]⟩,.slice none 0 0,.int .i64 0,.slice none 0 0] 25)).alloc (.cells #[.int .i64 23,.int .u64 0,.string ⟨#[]⟩,.slice none 0 0,.int .i64 19,.slice none 0 0] 25)=W2 at HT HI ⊢;generalize hC:w.heap.size+1=C at HT HI ⊢;clear HT hC
 go_loopw [14] (fun q w'=>∃ (k:Nat) (la:List Lay) (x:Value),k<=n/\q = .int .i64 k/\Hid (NInv w 19 l C k la x w')) (fun q _=>n - (RowKit.intOf q).toNat)
 case atStart=>exact ⟨0,[],_,by omega,rfl,HI⟩
 case round =>
  obtain ⟨k,la,x,hk,rfl,HN⟩:=hrel;obtain ⟨po,co,ho⟩:=HN.out.row.form;subst ho;have hcc:=HN.out.cell;have cC3:=hcc.cell 3;have fC3:=hcc.frozen 3;simp only [gt,gz,gs] at cC3
  by_cases hkn:k < n
  ·have hkn':(k:Int) < (n:Int):=by omega
   have hk0:(0:Int)<=(k:Int):=by omega
   have e1:IntKind.i64.wrap ((k:Int)+1)=(k:Int)+1:=IntWalk.i64_in _ (by omega);obtain ⟨v,hv⟩:∃ v,l[k]? = some v:=⟨l[k]'(by rw [HL.out];exact hkn),ge _⟩
   obtain ⟨b,off,rfl,hcell⟩:∃ b off,A=some ⟨b,off,none⟩/\∀ j u,(l.map raw)[j]? = some u->w.cell? ⟨b,off+j,none⟩=some u:=by
    rcases HC.out with h0 | ⟨b,off,h1,_,h2⟩
    ·rw [HL.out] at h0;omega
    ·exact ⟨b,off,h1,h2⟩
   have hm:=HK.out v (gm hv);have hrw:raw v = .string v.text:=by simp [raw,hm.1]
   have cx:wr.cell? ⟨b,off+k,none⟩=some (.string v.text):=HN.out.kept.cell (hrw ▸ hcell k _ (by rw [gM,hv];rfl)) (fun h=>h);have HV:=hid (aI hv hm);have hz:v.num=0:=hm.2.zero (.inr (by omega));have HZ:=hid hz;clear hz;have HTS:=hid hm.2.size;have hp1:=hm.2.pos;have cCa:∀ o,(wr.alloc o).drew.cell? ⟨C,3,none⟩=some (.slice po la.length co):=fun o=>by have h:=((HN.out.cell.alloc o).drew).cell 3;exact h
   clear hcell hv hm hcc hrw;go_wp2
   go_region_law (first | (go_simp;go_at_call 88;refine (vl13_ok _ _).mono ?_;rintro e w3 ⟨rfl,rfl⟩) | (refine xaG _ (.tmp 19) (.tmp 25) 23 rfl w.heap.size 25 i1 _ 6 88 underlying23 hi hz0 hz1 hz2 rfl (by decide) _ _ _ rfl (HN.out.row.nope (((kR Nope wr).drew).alloc (.cells (xau 19 0 v.text).cells.toArray 25))).own Any_ _ 1 (xau 19 0 v.text).cells rfl (CSl.one_six (W:=wr.drew) _ rfl) (xbt _ _ _) (by have:=HN.out.len;unfold maxLen;omega) (by have:=HN.out.len;omega) ((HN.out.kept.alloc (.cells (xau 19 0 v.text).cells.toArray 25)).drew).size ?_;intro v4 w4 hown hgrow hblk;obtain ⟨p4,c4,rfl⟩:=ownsRow_form hown;have hC4:=((HN.out.cell.alloc (.cells (xau 19 0 v.text).cells.toArray 25)).drew).grown hgrow (fun e=>HN.out.ne e.symm);have cC4:=hC4.cell 3;have fC4:=hC4.frozen 3;simp only [gt,gz,gs] at cC4;have HO:=hid (aI hown (aI hgrow hblk));clear hown hgrow hblk hC4))
   all_goals
    have hst:=(HN.out.nope (((kR Nope wr).alloc (.cells (xau 19 0 v.text).cells.toArray 25)).drew)).step (t:=v.text) HV.out.1 rfl (by omega) (by omega) (by have:=HTS.out;unfold maxLen;omega) (by rw [HZ.out];exact HO.out.1) HO.out.2.1 HO.out.2.2;have HS:=hid hst;clear hst;go_wp2;go_roundw
    case rel=>exact ⟨k+1,_,_,by omega,by go_num,HS⟩
    case measure=>simp [RowKit.intOf];omega
  ·obtain rfl:k=n:=by omega
   have hlt:¬ (k:Int) < (k:Int):=by omega
   have rr:=HN.out.res;have r0:=rr.cell 0;have r1:=rr.cell 1;have r2:=rr.cell 2;have r3:=rr.cell 3;have r4:=rr.cell 4;have r5:=rr.cell 5;have g0:=rr.frozen 0;have g1:=rr.frozen 1;have g2:=rr.frozen 2;have g3:=rr.frozen 3;have g4:=rr.frozen 4;have g5:=rr.frozen 5;have q0:=hcc.cell 0;have q1:=hcc.cell 1;have q2:=hcc.cell 2;have q4:=hcc.cell 4;have q5:=hcc.cell 5;simp only [gt,gz,gs] at r0 r1 r2 r3 r4 r5 q0 q1 q2 q4 q5;have HRR:=hid rr;clear hcc rr;go_wp2;have hB2:=(((((HRR.out.set_ 0 (.int .i64 23)).set_ 1 (.int .u64 0)).set_ 2 (.string ⟨#[]⟩)).set_ 3 (.slice po la.length co)).set_ 4 (.int .i64 19)).set_ 5 (.slice none 0 0);have hks:Kept (Only w.heap.size) wr ((((((wr.setCell ⟨w.heap.size,0,none⟩ (.int .i64 23)).setCell ⟨w.heap.size,1,none⟩ (.int .u64 0)).setCell ⟨w.heap.size,2,none⟩ (.string ⟨#[]⟩)).setCell ⟨w.heap.size,3,none⟩ (.slice po la.length co)).setCell ⟨w.heap.size,4,none⟩ (.int .i64 19)).setCell ⟨w.heap.size,5,none⟩ (.slice none 0 0)):=((((((kR _ _).set1 0 _).set1 1 _).set1 2 _).set1 3 _).set1 4 _).set1 5 _;refine bodyPost_ret (v:=.agg #[.int .i64 23,.int .u64 0,.string ⟨#[]⟩,.slice po la.length co,.int .i64 19,.slice none 0 0]) (results_cell_row (P:=prog) rfl _ _ w.heap.size 25 _ _ _ rfl hB2 underlying25 rfl (by kernel_rfl)) rfl ⟨_,rfl,HN.out.kept.trans hks (fun b hb e=>by have e':b=w.heap.size:=e;omega),?_⟩;exact ((NInv.done (l:=l) (by rw [HL.out];exact HN.out) (by omega)).keep hks (fun b _ hb e=>by have e':b=w.heap.size:=e;omega)).mono fun b _ hb=>Nat.le_of_lt hb
theorem xmx (v:V) (w:World) (s:Value) (hs:CSl Any_ w 1 s v.kids.length (v.kids.flatMap fun k=>(raw k).cells.toList)) (hk:∀ k ∈ v.kids,k.kind=19/\Tidy k) (hn:v.kids.length<=1000) (hlo:xao v (xai 19 v.kids)) :
  Calls prog 33 #[.iface 153 s] w (xac (xbE w v)):=by
 have hl:=xjx (w.alloc (.cells zVal 25)) s v.kids (hs.keep ((kR Nope w).alloc _) (fun _ _ _ h=>h)) hk hn;have HL:=hid hl;have HLO:=hid hlo;clear hl hs hk hn hlo;have f_bool:=fun W=>xad (T:=153) (s) W (by decide)
 have f_u8:=fun W=>xas (T:=153) (s) W (by decide)
 have f_u16:=fun W=>xam (T:=153) (s) W (by decide)
 have f_u32:=fun W=>xal (T:=153) (s) W (by decide)
 have f_u64:=fun W=>xak (T:=153) (s) W (by decide)
 have f_i8:=fun W=>xaF (T:=153) (s) W (by decide)
 have f_i16:=fun W=>xav (T:=153) (s) W (by decide)
 have f_i32:=fun W=>xaC (T:=153) (s) W (by decide)
 have f_i64:=fun W=>xaH (T:=153) (s) W (by decide)
 have f_f32:=fun W=>xaO (T:=153) (s) W (by decide)
 have f_f64:=fun W=>xaQ (T:=153) (s) W (by decide)
 have f_Time:=fun W=>xaJ (T:=153) (s) W (by decide)
 have f_UUID:=fun W=>xaM (T:=153) (s) W (by decide)
 have f_bytes:=fun W=>xaI (T:=153) (s) W (by decide)
 have f_string:=fun W=>xar (T:=153) (s) W (by decide)
 have f_Symbol:=fun W=>xaD (T:=153) (s) W (by decide)
 have f_sAny:=fun W=>xaV (T:=153) (s) W (by decide)
 have f_mAny:=fun W=>xbb (T:=153) (s) W (by decide)
 have f_mStr:=fun W=>xbk (T:=153) (s) W (by decide)
 have f_sBool:=fun W=>xaZ (T:=153) (s) W (by decide)
 have f_ArrayUByte:=fun W=>xat (T:=153) (s) W (by decide)
 have f_sU16:=fun W=>xbA (T:=153) (s) W (by decide)
 have f_sU32:=fun W=>xbH (T:=153) (s) W (by decide)
 have f_sU64:=fun W=>xbM (T:=153) (s) W (by decide)
 have f_sI8:=fun W=>xcp (T:=153) (s) W (by decide)
 have f_sI16:=fun W=>xck (T:=153) (s) W (by decide)
 have f_sI32:=fun W=>xcA (T:=153) (s) W (by decide)
 have f_sI64:=fun W=>xcL (T:=153) (s) W (by decide)
 have f_sF32:=fun W=>xdn (T:=153) (s) W (by decide)
 have f_sF64:=fun W=>xdX (T:=153) (s) W (by decide)
 have f_sTime:=fun W=>xel (T:=153) (s) W (by decide)
 have f_sUUID:=fun W=>xfH (T:=153) (s) W (by decide)
 have f_sBytes:=fun W=>xhc (T:=153) (s) W (by decide)
 have fy:=fun W=>xnm (s) W
 go_enter func33,ntmps33;go_wp2_with (go_at_call 87;go_must (refine HL.out.mono ?_;rintro e w1 ⟨y,rfl,hk,ks,ds,rfl,hvn,hv1,hv2⟩;obtain ⟨py,cy,rfl,_⟩:=hv1.form;obtain ⟨pd,cd,rfl,_⟩:=hv2.form;have HR:=hid ((Blk.new w 25 zVal).kept hk (fun h=>h));have H1:=hid (aI (((kR Nope w).alloc _).trans' hk) (aI (xaq hv1) (aI (xaq hv2) hvn)));clear hk hv1 hv2 hvn;unfold vagg;have rr:=HR.out;unfold zVal at rr;have r0:=rr.cell 0;have r1:=rr.cell 1;have r2:=rr.cell 2;have r3:=rr.cell 3;have r4:=rr.cell 4;have r5:=rr.cell 5;have g0:=rr.frozen 0;have g1:=rr.frozen 1;have g2:=rr.frozen 2;have g3:=rr.frozen 3;have g4:=rr.frozen 4;have g5:=rr.frozen 5;simp only [gt,gz,gs] at r0 r1 r2 r3 r4 r5;clear rr;simp only [xbp,xbB,xbo,xbS]))
 (try simp only [Exit.inBlock,Exit.then])
 have hB2:=(((((HR.out.set_ 0 (.int .i64 23)).set_ 1 (.int .u64 0)).set_ 2 (.string ⟨#[]⟩)).set_ 3 (.slice py (xai 19 v.kids).kids.length cy)).set_ 4 (.int .i64 19)).set_ 5 (.slice pd (xai 19 v.kids).desc.length cd);have hld:=run_loadVar_row (P:=prog) _ w.heap.size 25 25 _ _ _ hB2 underlying25 rfl (by kernel_rfl);have hks:Kept (Only w.heap.size) w1 ((((((w1.setCell ⟨w.heap.size,0,none⟩ (.int .i64 23)).setCell ⟨w.heap.size,1,none⟩ (.int .u64 0)).setCell ⟨w.heap.size,2,none⟩ (.string ⟨#[]⟩)).setCell ⟨w.heap.size,3,none⟩ (.slice py (xai 19 v.kids).kids.length cy)).setCell ⟨w.heap.size,4,none⟩ (.int .i64 19)).setCell ⟨w.heap.size,5,none⟩ (.slice pd (xai 19 v.kids).desc.length cd)):=((((((kR _ _).set1 0 _).set1 1 _).set1 2 _).set1 3 _).set1 4 _).set1 5 _;refine bodyPost_ret (v:=.tuple #[.agg #[.int .i64 23,.int .u64 0,.string ⟨#[]⟩,.slice py (xai 19 v.kids).kids.length cy,.int .i64 19,.slice pd (xai 19 v.kids).desc.length cd],.bool true]) ?_ rfl ⟨_,_,rfl,rfl,H1.out.1.trans hks (fun b hb e=>by have e':b=w.heap.size:=e;omega),?_⟩
 ·rw [results_cell_tmp rfl];simp only [Array.getD_eq_getD_getElem?,gt,gz,gs,Option.getD_some,asAddr,Sem.run_pure,Result.andThen_ok];rw [hld]
  rfl
 ·exact ⟨xai 19 v.kids,⟨_,_,rfl,H1.out.2.2.2,(H1.out.2.1.keep hks (fun b _ hb e=>by have e':b=w.heap.size:=e;omega)).mono fun b _ hb=>Nat.le_of_lt hb,(H1.out.2.2.1.keep hks (fun b _ hb e=>by have e':b=w.heap.size:=e;omega)).mono fun b _ hb=>Nat.le_of_lt hb⟩,HLO.out⟩
theorem valued_sBytes (v:V) (w:World) (s:Value) (xs:List Value) (hs:CSl Any_ w 1 s v.kids.length xs) (hbs:∀ (i:Nat) (x:Value) (k:V),xs[i]? = some x->v.kids[i]? = some k->BSl Any_ w x (bytesOf k.text)) (hk:∀ k ∈ v.kids,k.kind=18/\Tidy k) (hn:v.kids.length<=1000) (hlo:xao v (xai 18 v.kids)) :
  Calls prog 33 #[.iface 150 s] w (xac (xbE w v)):=by
 have hl:=xkz (w.alloc (.cells zVal 25)) s v.kids xs (hs.keep ((kR Nope w).alloc _) (fun _ _ _ h=>h)) (fun i x k h1 h2=>(hbs i x k h1 h2).keep ((kR Nope w).alloc _) (fun _ _ _ h=>h)) hk hn;have HL:=hid hl;have HLO:=hid hlo;clear hl hs hbs hk hn hlo;have f_bool:=fun W=>xad (T:=150) (s) W (by decide)
 have f_u8:=fun W=>xas (T:=150) (s) W (by decide)
 have f_u16:=fun W=>xam (T:=150) (s) W (by decide)
 have f_u32:=fun W=>xal (T:=150) (s) W (by decide)
 have f_u64:=fun W=>xak (T:=150) (s) W (by decide)
 have f_i8:=fun W=>xaF (T:=150) (s) W (by decide)
 have f_i16:=fun W=>xav (T:=150) (s) W (by decide)
 have f_i32:=fun W=>xaC (T:=150) (s) W (by decide)
 have f_i64:=fun W=>xaH (T:=150) (s) W (by decide)
 have f_f32:=fun W=>xaO (T:=150) (s) W (by decide)
 have f_f64:=fun W=>xaQ (T:=150) (s) W (by decide)
 have f_Time:=fun W=>xaJ (T:=150) (s) W (by decide)
 have f_UUID:=fun W=>xaM (T:=150) (s) W (by decide)
 have f_bytes:=fun W=>xaI (T:=150) (s) W (by decide)
 have f_string:=fun W=>xar (T:=150) (s) W (by decide)
 have f_Symbol:=fun W=>xaD (T:=150) (s) W (by decide)
 have f_sAny:=fun W=>xaV (T:=150) (s) W (by decide)
 have f_mAny:=fun W=>xbb (T:=150) (s) W (by decide)
 have f_mStr:=fun W=>xbk (T:=150) (s) W (by decide)
 have f_sBool:=fun W=>xaZ (T:=150) (s) W (by decide)
 have f_ArrayUByte:=fun W=>xat (T:=150) (s) W (by decide)
 have f_sU16:=fun W=>xbA (T:=150) (s) W (by decide)
 have f_sU32:=fun W=>xbH (T:=150) (s) W (by decide)
 have f_sU64:=fun W=>xbM (T:=150) (s) W (by decide)
 have f_sI8:=fun W=>xcp (T:=150) (s) W (by decide)
 have f_sI16:=fun W=>xck (T:=150) (s) W (by decide)
 have f_sI32:=fun W=>xcA (T:=150) (s) W (by decide)
 have f_sI64:=fun W=>xcL (T:=150) (s) W (by decide)
 have f_sF32:=fun W=>xdn (T:=150) (s) W (by decide)
 have f_sF64:=fun W=>xdX (T:=150) (s) W (by decide)
 have f_sTime:=fun W=>xel (T:=150) (s) W (by decide)
 have f_sUUID:=fun W=>xfH (T:=150) (s) W (by decide)
 have fy:=fun W=>xkf (s) W
 go_enter func33,ntmps33;go_wp2_with (go_at_call 85;go_must (refine HL.out.mono ?_;rintro e w1 ⟨y,rfl,hk,ks,ds,rfl,hvn,hv1,hv2⟩;obtain ⟨py,cy,rfl,_⟩:=hv1.form;obtain ⟨pd,cd,rfl,_⟩:=hv2.form;have HR:=hid ((Blk.new w 25 zVal).kept hk (fun h=>h));have H1:=hid (aI (((kR Nope w).alloc _).trans' hk) (aI (xaq hv1) (aI (xaq hv2) hvn)));clear hk hv1 hv2 hvn;unfold vagg;have rr:=HR.out;unfold zVal at rr;have r0:=rr.cell 0;have r1:=rr.cell 1;have r2:=rr.cell 2;have r3:=rr.cell 3;have r4:=rr.cell 4;have r5:=rr.cell 5;have g0:=rr.frozen 0;have g1:=rr.frozen 1;have g2:=rr.frozen 2;have g3:=rr.frozen 3;have g4:=rr.frozen 4;have g5:=rr.frozen 5;simp only [gt,gz,gs] at r0 r1 r2 r3 r4 r5;clear rr;simp only [xbp,xbB,xbo,xbS]))
 (try simp only [Exit.inBlock,Exit.then])
 have hB2:=(((((HR.out.set_ 0 (.int .i64 23)).set_ 1 (.int .u64 0)).set_ 2 (.string ⟨#[]⟩)).set_ 3 (.slice py (xai 18 v.kids).kids.length cy)).set_ 4 (.int .i64 18)).set_ 5 (.slice pd (xai 18 v.kids).desc.length cd);have hld:=run_loadVar_row (P:=prog) _ w.heap.size 25 25 _ _ _ hB2 underlying25 rfl (by kernel_rfl);have hks:Kept (Only w.heap.size) w1 ((((((w1.setCell ⟨w.heap.size,0,none⟩ (.int .i64 23)).setCell ⟨w.heap.size,1,none⟩ (.int .u64 0)).setCell ⟨w.heap.size,2,none⟩ (.string ⟨#[]⟩)).setCell ⟨w.heap.size,3,none⟩ (.slice py (xai 18 v.kids).kids.length cy)).setCell ⟨w.heap.size,4,none⟩ (.int .i64 18)).setCell ⟨w.heap.size,5,none⟩ (.slice pd (xai 18 v.kids).desc.length cd)):=((((((kR _ _).set1 0 _).set1 1 _).set1 2 _).set1 3 _).set1 4 _).set1 5 _;refine bodyPost_ret (v:=.tuple #[.agg #[.int .i64 23,.int .u64 0,.string ⟨#[]⟩,.slice py (xai 18 v.kids).kids.length cy,.int .i64 18,.slice pd (xai 18 v.kids).desc.length cd],.bool true]) ?_ rfl ⟨_,_,rfl,rfl,H1.out.1.trans hks (fun b hb e=>by have e':b=w.heap.size:=e;omega),?_⟩
 ·rw [results_cell_tmp rfl];simp only [Array.getD_eq_getD_getElem?,gt,gz,gs,Option.getD_some,asAddr,Sem.run_pure,Result.andThen_ok];rw [hld]
  rfl
 ·exact ⟨xai 18 v.kids,⟨_,_,rfl,H1.out.2.2.2,(H1.out.2.1.keep hks (fun b _ hb e=>by have e':b=w.heap.size:=e;omega)).mono fun b _ hb=>Nat.le_of_lt hb,(H1.out.2.2.1.keep hks (fun b _ hb e=>by have e':b=w.heap.size:=e;omega)).mono fun b _ hb=>Nat.le_of_lt hb⟩,HLO.out⟩
end Go.Proofs.YtmdpodeegdjkeaaGreatDoor
