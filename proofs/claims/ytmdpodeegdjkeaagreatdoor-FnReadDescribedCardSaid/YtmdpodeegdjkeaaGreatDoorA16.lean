/- Part 16 of the proof (texts Vd6 Wrd Vd7). It has no conditions beyond the theorems' own. -/
import Derived.Test.YtmdpodeegdjkeaaGreatDoorA0
import Derived.Test.YtmdpodeegdjkeaaGreatDoorA12
import Derived.Test.YtmdpodeegdjkeaaGreatDoorA15
set_option maxRecDepth 100000
set_option maxHeartbeats 3200000
namespace Go.Proofs.YtmdpodeegdjkeaaGreatDoor
open Go Go.RowKit Go.Lib
theorem valued_sI16 (v:V) (w:World) (s:Value) (hs:CSl Any_ w 1 s v.kids.length (v.kids.flatMap fun k=>(raw k).cells.toList)) (hk:∀ k ∈ v.kids,k.kind=7/\Tidy k) (hn:v.kids.length<=1000) (hlo:Loosely v (arrOf 7 v.kids)) :
  Calls Tryz.prog 33 #[.iface 130 s] w (Gives2 (ValPost w v)):=by
 have hl:=numbered_i16 (w.alloc (.cells zVal 25)) s v.kids (hs.keep ((Kept.refl Nope w).alloc _) (fun _ _ _ h=>h)) hk hn
 have HL:=hid hl
 have HLO:=hid hlo
 clear hl hs hk hn hlo
 have f_bool:=fun W=>as_no_bool (T:=130) (s) W (by decide)
 have f_u8:=fun W=>as_no_u8 (T:=130) (s) W (by decide)
 have f_u16:=fun W=>as_no_u16 (T:=130) (s) W (by decide)
 have f_u32:=fun W=>as_no_u32 (T:=130) (s) W (by decide)
 have f_u64:=fun W=>as_no_u64 (T:=130) (s) W (by decide)
 have f_i8:=fun W=>as_no_i8 (T:=130) (s) W (by decide)
 have f_i16:=fun W=>as_no_i16 (T:=130) (s) W (by decide)
 have f_i32:=fun W=>as_no_i32 (T:=130) (s) W (by decide)
 have f_i64:=fun W=>as_no_i64 (T:=130) (s) W (by decide)
 have f_f32:=fun W=>as_no_f32 (T:=130) (s) W (by decide)
 have f_f64:=fun W=>as_no_f64 (T:=130) (s) W (by decide)
 have f_Time:=fun W=>as_no_Time (T:=130) (s) W (by decide)
 have f_UUID:=fun W=>as_no_UUID (T:=130) (s) W (by decide)
 have f_bytes:=fun W=>as_no_bytes (T:=130) (s) W (by decide)
 have f_string:=fun W=>as_no_string (T:=130) (s) W (by decide)
 have f_Symbol:=fun W=>as_no_Symbol (T:=130) (s) W (by decide)
 have f_sAny:=fun W=>as_no_sAny (T:=130) (s) W (by decide)
 have f_mAny:=fun W=>as_no_mAny (T:=130) (s) W (by decide)
 have f_mStr:=fun W=>as_no_mStr (T:=130) (s) W (by decide)
 have f_sBool:=fun W=>as_no_sBool (T:=130) (s) W (by decide)
 have f_ArrayUByte:=fun W=>as_no_ArrayUByte (T:=130) (s) W (by decide)
 have f_sU16:=fun W=>as_no_sU16 (T:=130) (s) W (by decide)
 have f_sU32:=fun W=>as_no_sU32 (T:=130) (s) W (by decide)
 have f_sU64:=fun W=>as_no_sU64 (T:=130) (s) W (by decide)
 have f_sI8:=fun W=>as_no_sI8 (T:=130) (s) W (by decide)
 have fy:=fun W=>as_yes_sI16 (s) W
 go_enter Tryz.func33,Tryz.ntmps33
 go_wp2_with (go_at_call 72;go_must (refine HL.out.mono ?_;rintro e w1 ⟨y,rfl,hk,ks,ds,rfl,hvn,hv1,hv2⟩;obtain ⟨py,cy,rfl,_⟩:=hv1.form;obtain ⟨pd,cd,rfl,_⟩:=hv2.form;have HR:=hid ((Blk.new w 25 zVal).kept hk (fun h=>h));have H1:=hid (aI (((Kept.refl Nope w).alloc _).trans' hk) (aI (above_one hv1) (aI (above_one hv2) hvn)));clear hk hv1 hv2 hvn;unfold vagg;have rr:=HR.out;unfold zVal at rr;have r0:=rr.cell 0;have r1:=rr.cell 1;have r2:=rr.cell 2;have r3:=rr.cell 3;have r4:=rr.cell 4;have r5:=rr.cell 5;have g0:=rr.frozen 0;have g1:=rr.frozen 1;have g2:=rr.frozen 2;have g3:=rr.frozen 3;have g4:=rr.frozen 4;have g5:=rr.frozen 5;simp only [List.getElem?_toArray,List.getElem?_cons_zero,List.getElem?_cons_succ] at r0 r1 r2 r3 r4 r5;clear rr;simp only [arrOf_kind,arrOf_num,arrOf_text,arrOf_of]))
 (try simp only [Exit.inBlock,Exit.then])
 have hB2:=(((((HR.out.set_ 0 (.int .i64 23)).set_ 1 (.int .u64 0)).set_ 2 (.string ⟨#[]⟩)).set_ 3 (.slice py (arrOf 7 v.kids).kids.length cy)).set_ 4 (.int .i64 7)).set_ 5 (.slice pd (arrOf 7 v.kids).desc.length cd)
 have hld:=run_loadVar_row (P:=Tryz.prog) _ w.heap.size 25 25 _ _ _ hB2 Tryz.underlying25 rfl (by kernel_rfl)
 have hks:Kept (Only w.heap.size) w1 ((((((w1.setCell ⟨w.heap.size,0,none⟩ (.int .i64 23)).setCell ⟨w.heap.size,1,none⟩ (.int .u64 0)).setCell ⟨w.heap.size,2,none⟩ (.string ⟨#[]⟩)).setCell ⟨w.heap.size,3,none⟩ (.slice py (arrOf 7 v.kids).kids.length cy)).setCell ⟨w.heap.size,4,none⟩ (.int .i64 7)).setCell ⟨w.heap.size,5,none⟩ (.slice pd (arrOf 7 v.kids).desc.length cd)):=((((((Kept.refl _ _).set1 0 _).set1 1 _).set1 2 _).set1 3 _).set1 4 _).set1 5 _
 refine bodyPost_ret (v:=.tuple #[.agg #[.int .i64 23,.int .u64 0,.string ⟨#[]⟩,.slice py (arrOf 7 v.kids).kids.length cy,.int .i64 7,.slice pd (arrOf 7 v.kids).desc.length cd],.bool true]) ?_ rfl ⟨_,_,rfl,rfl,H1.out.1.trans hks (fun b hb e=>by have e':b=w.heap.size:=e;omega),?_⟩
 ·rw [results_cell_tmp rfl]
  simp only [Array.getD_eq_getD_getElem?,List.getElem?_toArray,List.getElem?_cons_zero,List.getElem?_cons_succ,Option.getD_some,asAddr,Sem.run_pure,Result.andThen_ok]
  rw [hld]
  rfl
 ·exact ⟨arrOf 7 v.kids,⟨_,_,rfl,H1.out.2.2.2,(H1.out.2.1.keep hks (fun b _ hb e=>by have e':b=w.heap.size:=e;omega)).mono fun b _ hb=>Nat.le_of_lt hb,(H1.out.2.2.1.keep hks (fun b _ hb e=>by have e':b=w.heap.size:=e;omega)).mono fun b _ hb=>Nat.le_of_lt hb⟩,HLO.out⟩
theorem valued_sI32 (v:V) (w:World) (s:Value) (hs:CSl Any_ w 1 s v.kids.length (v.kids.flatMap fun k=>(raw k).cells.toList)) (hk:∀ k ∈ v.kids,k.kind=8/\Tidy k) (hn:v.kids.length<=1000) (hlo:Loosely v (arrOf 8 v.kids)) :
  Calls Tryz.prog 33 #[.iface 133 s] w (Gives2 (ValPost w v)):=by
 have hl:=numbered_i32 (w.alloc (.cells zVal 25)) s v.kids (hs.keep ((Kept.refl Nope w).alloc _) (fun _ _ _ h=>h)) hk hn
 have HL:=hid hl
 have HLO:=hid hlo
 clear hl hs hk hn hlo
 have f_bool:=fun W=>as_no_bool (T:=133) (s) W (by decide)
 have f_u8:=fun W=>as_no_u8 (T:=133) (s) W (by decide)
 have f_u16:=fun W=>as_no_u16 (T:=133) (s) W (by decide)
 have f_u32:=fun W=>as_no_u32 (T:=133) (s) W (by decide)
 have f_u64:=fun W=>as_no_u64 (T:=133) (s) W (by decide)
 have f_i8:=fun W=>as_no_i8 (T:=133) (s) W (by decide)
 have f_i16:=fun W=>as_no_i16 (T:=133) (s) W (by decide)
 have f_i32:=fun W=>as_no_i32 (T:=133) (s) W (by decide)
 have f_i64:=fun W=>as_no_i64 (T:=133) (s) W (by decide)
 have f_f32:=fun W=>as_no_f32 (T:=133) (s) W (by decide)
 have f_f64:=fun W=>as_no_f64 (T:=133) (s) W (by decide)
 have f_Time:=fun W=>as_no_Time (T:=133) (s) W (by decide)
 have f_UUID:=fun W=>as_no_UUID (T:=133) (s) W (by decide)
 have f_bytes:=fun W=>as_no_bytes (T:=133) (s) W (by decide)
 have f_string:=fun W=>as_no_string (T:=133) (s) W (by decide)
 have f_Symbol:=fun W=>as_no_Symbol (T:=133) (s) W (by decide)
 have f_sAny:=fun W=>as_no_sAny (T:=133) (s) W (by decide)
 have f_mAny:=fun W=>as_no_mAny (T:=133) (s) W (by decide)
 have f_mStr:=fun W=>as_no_mStr (T:=133) (s) W (by decide)
 have f_sBool:=fun W=>as_no_sBool (T:=133) (s) W (by decide)
 have f_ArrayUByte:=fun W=>as_no_ArrayUByte (T:=133) (s) W (by decide)
 have f_sU16:=fun W=>as_no_sU16 (T:=133) (s) W (by decide)
 have f_sU32:=fun W=>as_no_sU32 (T:=133) (s) W (by decide)
 have f_sU64:=fun W=>as_no_sU64 (T:=133) (s) W (by decide)
 have f_sI8:=fun W=>as_no_sI8 (T:=133) (s) W (by decide)
 have f_sI16:=fun W=>as_no_sI16 (T:=133) (s) W (by decide)
 have fy:=fun W=>as_yes_sI32 (s) W
 go_enter Tryz.func33,Tryz.ntmps33
 go_wp2_with (go_at_call 74;go_must (refine HL.out.mono ?_;rintro e w1 ⟨y,rfl,hk,ks,ds,rfl,hvn,hv1,hv2⟩;obtain ⟨py,cy,rfl,_⟩:=hv1.form;obtain ⟨pd,cd,rfl,_⟩:=hv2.form;have HR:=hid ((Blk.new w 25 zVal).kept hk (fun h=>h));have H1:=hid (aI (((Kept.refl Nope w).alloc _).trans' hk) (aI (above_one hv1) (aI (above_one hv2) hvn)));clear hk hv1 hv2 hvn;unfold vagg;have rr:=HR.out;unfold zVal at rr;have r0:=rr.cell 0;have r1:=rr.cell 1;have r2:=rr.cell 2;have r3:=rr.cell 3;have r4:=rr.cell 4;have r5:=rr.cell 5;have g0:=rr.frozen 0;have g1:=rr.frozen 1;have g2:=rr.frozen 2;have g3:=rr.frozen 3;have g4:=rr.frozen 4;have g5:=rr.frozen 5;simp only [List.getElem?_toArray,List.getElem?_cons_zero,List.getElem?_cons_succ] at r0 r1 r2 r3 r4 r5;clear rr;simp only [arrOf_kind,arrOf_num,arrOf_text,arrOf_of]))
 (try simp only [Exit.inBlock,Exit.then])
 have hB2:=(((((HR.out.set_ 0 (.int .i64 23)).set_ 1 (.int .u64 0)).set_ 2 (.string ⟨#[]⟩)).set_ 3 (.slice py (arrOf 8 v.kids).kids.length cy)).set_ 4 (.int .i64 8)).set_ 5 (.slice pd (arrOf 8 v.kids).desc.length cd)
 have hld:=run_loadVar_row (P:=Tryz.prog) _ w.heap.size 25 25 _ _ _ hB2 Tryz.underlying25 rfl (by kernel_rfl)
 have hks:Kept (Only w.heap.size) w1 ((((((w1.setCell ⟨w.heap.size,0,none⟩ (.int .i64 23)).setCell ⟨w.heap.size,1,none⟩ (.int .u64 0)).setCell ⟨w.heap.size,2,none⟩ (.string ⟨#[]⟩)).setCell ⟨w.heap.size,3,none⟩ (.slice py (arrOf 8 v.kids).kids.length cy)).setCell ⟨w.heap.size,4,none⟩ (.int .i64 8)).setCell ⟨w.heap.size,5,none⟩ (.slice pd (arrOf 8 v.kids).desc.length cd)):=((((((Kept.refl _ _).set1 0 _).set1 1 _).set1 2 _).set1 3 _).set1 4 _).set1 5 _
 refine bodyPost_ret (v:=.tuple #[.agg #[.int .i64 23,.int .u64 0,.string ⟨#[]⟩,.slice py (arrOf 8 v.kids).kids.length cy,.int .i64 8,.slice pd (arrOf 8 v.kids).desc.length cd],.bool true]) ?_ rfl ⟨_,_,rfl,rfl,H1.out.1.trans hks (fun b hb e=>by have e':b=w.heap.size:=e;omega),?_⟩
 ·rw [results_cell_tmp rfl]
  simp only [Array.getD_eq_getD_getElem?,List.getElem?_toArray,List.getElem?_cons_zero,List.getElem?_cons_succ,Option.getD_some,asAddr,Sem.run_pure,Result.andThen_ok]
  rw [hld]
  rfl
 ·exact ⟨arrOf 8 v.kids,⟨_,_,rfl,H1.out.2.2.2,(H1.out.2.1.keep hks (fun b _ hb e=>by have e':b=w.heap.size:=e;omega)).mono fun b _ hb=>Nat.le_of_lt hb,(H1.out.2.2.1.keep hks (fun b _ hb e=>by have e':b=w.heap.size:=e;omega)).mono fun b _ hb=>Nat.le_of_lt hb⟩,HLO.out⟩
theorem valued_sI64 (v:V) (w:World) (s:Value) (hs:CSl Any_ w 1 s v.kids.length (v.kids.flatMap fun k=>(raw k).cells.toList)) (hk:∀ k ∈ v.kids,k.kind=9/\Tidy k) (hn:v.kids.length<=1000) (hlo:Loosely v (arrOf 9 v.kids)) :
  Calls Tryz.prog 33 #[.iface 136 s] w (Gives2 (ValPost w v)):=by
 have hl:=numbered_i64 (w.alloc (.cells zVal 25)) s v.kids (hs.keep ((Kept.refl Nope w).alloc _) (fun _ _ _ h=>h)) hk hn
 have HL:=hid hl
 have HLO:=hid hlo
 clear hl hs hk hn hlo
 have f_bool:=fun W=>as_no_bool (T:=136) (s) W (by decide)
 have f_u8:=fun W=>as_no_u8 (T:=136) (s) W (by decide)
 have f_u16:=fun W=>as_no_u16 (T:=136) (s) W (by decide)
 have f_u32:=fun W=>as_no_u32 (T:=136) (s) W (by decide)
 have f_u64:=fun W=>as_no_u64 (T:=136) (s) W (by decide)
 have f_i8:=fun W=>as_no_i8 (T:=136) (s) W (by decide)
 have f_i16:=fun W=>as_no_i16 (T:=136) (s) W (by decide)
 have f_i32:=fun W=>as_no_i32 (T:=136) (s) W (by decide)
 have f_i64:=fun W=>as_no_i64 (T:=136) (s) W (by decide)
 have f_f32:=fun W=>as_no_f32 (T:=136) (s) W (by decide)
 have f_f64:=fun W=>as_no_f64 (T:=136) (s) W (by decide)
 have f_Time:=fun W=>as_no_Time (T:=136) (s) W (by decide)
 have f_UUID:=fun W=>as_no_UUID (T:=136) (s) W (by decide)
 have f_bytes:=fun W=>as_no_bytes (T:=136) (s) W (by decide)
 have f_string:=fun W=>as_no_string (T:=136) (s) W (by decide)
 have f_Symbol:=fun W=>as_no_Symbol (T:=136) (s) W (by decide)
 have f_sAny:=fun W=>as_no_sAny (T:=136) (s) W (by decide)
 have f_mAny:=fun W=>as_no_mAny (T:=136) (s) W (by decide)
 have f_mStr:=fun W=>as_no_mStr (T:=136) (s) W (by decide)
 have f_sBool:=fun W=>as_no_sBool (T:=136) (s) W (by decide)
 have f_ArrayUByte:=fun W=>as_no_ArrayUByte (T:=136) (s) W (by decide)
 have f_sU16:=fun W=>as_no_sU16 (T:=136) (s) W (by decide)
 have f_sU32:=fun W=>as_no_sU32 (T:=136) (s) W (by decide)
 have f_sU64:=fun W=>as_no_sU64 (T:=136) (s) W (by decide)
 have f_sI8:=fun W=>as_no_sI8 (T:=136) (s) W (by decide)
 have f_sI16:=fun W=>as_no_sI16 (T:=136) (s) W (by decide)
 have f_sI32:=fun W=>as_no_sI32 (T:=136) (s) W (by decide)
 have fy:=fun W=>as_yes_sI64 (s) W
 go_enter Tryz.func33,Tryz.ntmps33
 go_wp2_with (go_at_call 76;go_must (refine HL.out.mono ?_;rintro e w1 ⟨y,rfl,hk,ks,ds,rfl,hvn,hv1,hv2⟩;obtain ⟨py,cy,rfl,_⟩:=hv1.form;obtain ⟨pd,cd,rfl,_⟩:=hv2.form;have HR:=hid ((Blk.new w 25 zVal).kept hk (fun h=>h));have H1:=hid (aI (((Kept.refl Nope w).alloc _).trans' hk) (aI (above_one hv1) (aI (above_one hv2) hvn)));clear hk hv1 hv2 hvn;unfold vagg;have rr:=HR.out;unfold zVal at rr;have r0:=rr.cell 0;have r1:=rr.cell 1;have r2:=rr.cell 2;have r3:=rr.cell 3;have r4:=rr.cell 4;have r5:=rr.cell 5;have g0:=rr.frozen 0;have g1:=rr.frozen 1;have g2:=rr.frozen 2;have g3:=rr.frozen 3;have g4:=rr.frozen 4;have g5:=rr.frozen 5;simp only [List.getElem?_toArray,List.getElem?_cons_zero,List.getElem?_cons_succ] at r0 r1 r2 r3 r4 r5;clear rr;simp only [arrOf_kind,arrOf_num,arrOf_text,arrOf_of]))
 (try simp only [Exit.inBlock,Exit.then])
 have hB2:=(((((HR.out.set_ 0 (.int .i64 23)).set_ 1 (.int .u64 0)).set_ 2 (.string ⟨#[]⟩)).set_ 3 (.slice py (arrOf 9 v.kids).kids.length cy)).set_ 4 (.int .i64 9)).set_ 5 (.slice pd (arrOf 9 v.kids).desc.length cd)
 have hld:=run_loadVar_row (P:=Tryz.prog) _ w.heap.size 25 25 _ _ _ hB2 Tryz.underlying25 rfl (by kernel_rfl)
 have hks:Kept (Only w.heap.size) w1 ((((((w1.setCell ⟨w.heap.size,0,none⟩ (.int .i64 23)).setCell ⟨w.heap.size,1,none⟩ (.int .u64 0)).setCell ⟨w.heap.size,2,none⟩ (.string ⟨#[]⟩)).setCell ⟨w.heap.size,3,none⟩ (.slice py (arrOf 9 v.kids).kids.length cy)).setCell ⟨w.heap.size,4,none⟩ (.int .i64 9)).setCell ⟨w.heap.size,5,none⟩ (.slice pd (arrOf 9 v.kids).desc.length cd)):=((((((Kept.refl _ _).set1 0 _).set1 1 _).set1 2 _).set1 3 _).set1 4 _).set1 5 _
 refine bodyPost_ret (v:=.tuple #[.agg #[.int .i64 23,.int .u64 0,.string ⟨#[]⟩,.slice py (arrOf 9 v.kids).kids.length cy,.int .i64 9,.slice pd (arrOf 9 v.kids).desc.length cd],.bool true]) ?_ rfl ⟨_,_,rfl,rfl,H1.out.1.trans hks (fun b hb e=>by have e':b=w.heap.size:=e;omega),?_⟩
 ·rw [results_cell_tmp rfl]
  simp only [Array.getD_eq_getD_getElem?,List.getElem?_toArray,List.getElem?_cons_zero,List.getElem?_cons_succ,Option.getD_some,asAddr,Sem.run_pure,Result.andThen_ok]
  rw [hld]
  rfl
 ·exact ⟨arrOf 9 v.kids,⟨_,_,rfl,H1.out.2.2.2,(H1.out.2.1.keep hks (fun b _ hb e=>by have e':b=w.heap.size:=e;omega)).mono fun b _ hb=>Nat.le_of_lt hb,(H1.out.2.2.1.keep hks (fun b _ hb e=>by have e':b=w.heap.size:=e;omega)).mono fun b _ hb=>Nat.le_of_lt hb⟩,HLO.out⟩
theorem valued_sF32 (v:V) (w:World) (s:Value) (hs:CSl Any_ w 1 s v.kids.length (v.kids.flatMap fun k=>(raw k).cells.toList)) (hk:∀ k ∈ v.kids,k.kind=10/\Tidy k) (hn:v.kids.length<=1000) (hlo:Loosely v (arrOf 10 v.kids)) :
  Calls Tryz.prog 33 #[.iface 139 s] w (Gives2 (ValPost w v)):=by
 have hl:=numbered_f32 (w.alloc (.cells zVal 25)) s v.kids (hs.keep ((Kept.refl Nope w).alloc _) (fun _ _ _ h=>h)) hk hn
 have HL:=hid hl
 have HLO:=hid hlo
 clear hl hs hk hn hlo
 have f_bool:=fun W=>as_no_bool (T:=139) (s) W (by decide)
 have f_u8:=fun W=>as_no_u8 (T:=139) (s) W (by decide)
 have f_u16:=fun W=>as_no_u16 (T:=139) (s) W (by decide)
 have f_u32:=fun W=>as_no_u32 (T:=139) (s) W (by decide)
 have f_u64:=fun W=>as_no_u64 (T:=139) (s) W (by decide)
 have f_i8:=fun W=>as_no_i8 (T:=139) (s) W (by decide)
 have f_i16:=fun W=>as_no_i16 (T:=139) (s) W (by decide)
 have f_i32:=fun W=>as_no_i32 (T:=139) (s) W (by decide)
 have f_i64:=fun W=>as_no_i64 (T:=139) (s) W (by decide)
 have f_f32:=fun W=>as_no_f32 (T:=139) (s) W (by decide)
 have f_f64:=fun W=>as_no_f64 (T:=139) (s) W (by decide)
 have f_Time:=fun W=>as_no_Time (T:=139) (s) W (by decide)
 have f_UUID:=fun W=>as_no_UUID (T:=139) (s) W (by decide)
 have f_bytes:=fun W=>as_no_bytes (T:=139) (s) W (by decide)
 have f_string:=fun W=>as_no_string (T:=139) (s) W (by decide)
 have f_Symbol:=fun W=>as_no_Symbol (T:=139) (s) W (by decide)
 have f_sAny:=fun W=>as_no_sAny (T:=139) (s) W (by decide)
 have f_mAny:=fun W=>as_no_mAny (T:=139) (s) W (by decide)
 have f_mStr:=fun W=>as_no_mStr (T:=139) (s) W (by decide)
 have f_sBool:=fun W=>as_no_sBool (T:=139) (s) W (by decide)
 have f_ArrayUByte:=fun W=>as_no_ArrayUByte (T:=139) (s) W (by decide)
 have f_sU16:=fun W=>as_no_sU16 (T:=139) (s) W (by decide)
 have f_sU32:=fun W=>as_no_sU32 (T:=139) (s) W (by decide)
 have f_sU64:=fun W=>as_no_sU64 (T:=139) (s) W (by decide)
 have f_sI8:=fun W=>as_no_sI8 (T:=139) (s) W (by decide)
 have f_sI16:=fun W=>as_no_sI16 (T:=139) (s) W (by decide)
 have f_sI32:=fun W=>as_no_sI32 (T:=139) (s) W (by decide)
 have f_sI64:=fun W=>as_no_sI64 (T:=139) (s) W (by decide)
 have fy:=fun W=>as_yes_sF32 (s) W
 go_enter Tryz.func33,Tryz.ntmps33
 go_wp2_with (go_at_call 78;go_must (refine HL.out.mono ?_;rintro e w1 ⟨y,rfl,hk,ks,ds,rfl,hvn,hv1,hv2⟩;obtain ⟨py,cy,rfl,_⟩:=hv1.form;obtain ⟨pd,cd,rfl,_⟩:=hv2.form;have HR:=hid ((Blk.new w 25 zVal).kept hk (fun h=>h));have H1:=hid (aI (((Kept.refl Nope w).alloc _).trans' hk) (aI (above_one hv1) (aI (above_one hv2) hvn)));clear hk hv1 hv2 hvn;unfold vagg;have rr:=HR.out;unfold zVal at rr;have r0:=rr.cell 0;have r1:=rr.cell 1;have r2:=rr.cell 2;have r3:=rr.cell 3;have r4:=rr.cell 4;have r5:=rr.cell 5;have g0:=rr.frozen 0;have g1:=rr.frozen 1;have g2:=rr.frozen 2;have g3:=rr.frozen 3;have g4:=rr.frozen 4;have g5:=rr.frozen 5;simp only [List.getElem?_toArray,List.getElem?_cons_zero,List.getElem?_cons_succ] at r0 r1 r2 r3 r4 r5;clear rr;simp only [arrOf_kind,arrOf_num,arrOf_text,arrOf_of]))
 (try simp only [Exit.inBlock,Exit.then])
 have hB2:=(((((HR.out.set_ 0 (.int .i64 23)).set_ 1 (.int .u64 0)).set_ 2 (.string ⟨#[]⟩)).set_ 3 (.slice py (arrOf 10 v.kids).kids.length cy)).set_ 4 (.int .i64 10)).set_ 5 (.slice pd (arrOf 10 v.kids).desc.length cd)
 have hld:=run_loadVar_row (P:=Tryz.prog) _ w.heap.size 25 25 _ _ _ hB2 Tryz.underlying25 rfl (by kernel_rfl)
 have hks:Kept (Only w.heap.size) w1 ((((((w1.setCell ⟨w.heap.size,0,none⟩ (.int .i64 23)).setCell ⟨w.heap.size,1,none⟩ (.int .u64 0)).setCell ⟨w.heap.size,2,none⟩ (.string ⟨#[]⟩)).setCell ⟨w.heap.size,3,none⟩ (.slice py (arrOf 10 v.kids).kids.length cy)).setCell ⟨w.heap.size,4,none⟩ (.int .i64 10)).setCell ⟨w.heap.size,5,none⟩ (.slice pd (arrOf 10 v.kids).desc.length cd)):=((((((Kept.refl _ _).set1 0 _).set1 1 _).set1 2 _).set1 3 _).set1 4 _).set1 5 _
 refine bodyPost_ret (v:=.tuple #[.agg #[.int .i64 23,.int .u64 0,.string ⟨#[]⟩,.slice py (arrOf 10 v.kids).kids.length cy,.int .i64 10,.slice pd (arrOf 10 v.kids).desc.length cd],.bool true]) ?_ rfl ⟨_,_,rfl,rfl,H1.out.1.trans hks (fun b hb e=>by have e':b=w.heap.size:=e;omega),?_⟩
 ·rw [results_cell_tmp rfl]
  simp only [Array.getD_eq_getD_getElem?,List.getElem?_toArray,List.getElem?_cons_zero,List.getElem?_cons_succ,Option.getD_some,asAddr,Sem.run_pure,Result.andThen_ok]
  rw [hld]
  rfl
 ·exact ⟨arrOf 10 v.kids,⟨_,_,rfl,H1.out.2.2.2,(H1.out.2.1.keep hks (fun b _ hb e=>by have e':b=w.heap.size:=e;omega)).mono fun b _ hb=>Nat.le_of_lt hb,(H1.out.2.2.1.keep hks (fun b _ hb e=>by have e':b=w.heap.size:=e;omega)).mono fun b _ hb=>Nat.le_of_lt hb⟩,HLO.out⟩
theorem valued_sF64 (v:V) (w:World) (s:Value) (hs:CSl Any_ w 1 s v.kids.length (v.kids.flatMap fun k=>(raw k).cells.toList)) (hk:∀ k ∈ v.kids,k.kind=11/\Tidy k) (hn:v.kids.length<=1000) (hlo:Loosely v (arrOf 11 v.kids)) :
  Calls Tryz.prog 33 #[.iface 142 s] w (Gives2 (ValPost w v)):=by
 have hl:=numbered_f64 (w.alloc (.cells zVal 25)) s v.kids (hs.keep ((Kept.refl Nope w).alloc _) (fun _ _ _ h=>h)) hk hn
 have HL:=hid hl
 have HLO:=hid hlo
 clear hl hs hk hn hlo
 have f_bool:=fun W=>as_no_bool (T:=142) (s) W (by decide)
 have f_u8:=fun W=>as_no_u8 (T:=142) (s) W (by decide)
 have f_u16:=fun W=>as_no_u16 (T:=142) (s) W (by decide)
 have f_u32:=fun W=>as_no_u32 (T:=142) (s) W (by decide)
 have f_u64:=fun W=>as_no_u64 (T:=142) (s) W (by decide)
 have f_i8:=fun W=>as_no_i8 (T:=142) (s) W (by decide)
 have f_i16:=fun W=>as_no_i16 (T:=142) (s) W (by decide)
 have f_i32:=fun W=>as_no_i32 (T:=142) (s) W (by decide)
 have f_i64:=fun W=>as_no_i64 (T:=142) (s) W (by decide)
 have f_f32:=fun W=>as_no_f32 (T:=142) (s) W (by decide)
 have f_f64:=fun W=>as_no_f64 (T:=142) (s) W (by decide)
 have f_Time:=fun W=>as_no_Time (T:=142) (s) W (by decide)
 have f_UUID:=fun W=>as_no_UUID (T:=142) (s) W (by decide)
 have f_bytes:=fun W=>as_no_bytes (T:=142) (s) W (by decide)
 have f_string:=fun W=>as_no_string (T:=142) (s) W (by decide)
 have f_Symbol:=fun W=>as_no_Symbol (T:=142) (s) W (by decide)
 have f_sAny:=fun W=>as_no_sAny (T:=142) (s) W (by decide)
 have f_mAny:=fun W=>as_no_mAny (T:=142) (s) W (by decide)
 have f_mStr:=fun W=>as_no_mStr (T:=142) (s) W (by decide)
 have f_sBool:=fun W=>as_no_sBool (T:=142) (s) W (by decide)
 have f_ArrayUByte:=fun W=>as_no_ArrayUByte (T:=142) (s) W (by decide)
 have f_sU16:=fun W=>as_no_sU16 (T:=142) (s) W (by decide)
 have f_sU32:=fun W=>as_no_sU32 (T:=142) (s) W (by decide)
 have f_sU64:=fun W=>as_no_sU64 (T:=142) (s) W (by decide)
 have f_sI8:=fun W=>as_no_sI8 (T:=142) (s) W (by decide)
 have f_sI16:=fun W=>as_no_sI16 (T:=142) (s) W (by decide)
 have f_sI32:=fun W=>as_no_sI32 (T:=142) (s) W (by decide)
 have f_sI64:=fun W=>as_no_sI64 (T:=142) (s) W (by decide)
 have f_sF32:=fun W=>as_no_sF32 (T:=142) (s) W (by decide)
 have fy:=fun W=>as_yes_sF64 (s) W
 go_enter Tryz.func33,Tryz.ntmps33
 go_wp2_with (go_at_call 80;go_must (refine HL.out.mono ?_;rintro e w1 ⟨y,rfl,hk,ks,ds,rfl,hvn,hv1,hv2⟩;obtain ⟨py,cy,rfl,_⟩:=hv1.form;obtain ⟨pd,cd,rfl,_⟩:=hv2.form;have HR:=hid ((Blk.new w 25 zVal).kept hk (fun h=>h));have H1:=hid (aI (((Kept.refl Nope w).alloc _).trans' hk) (aI (above_one hv1) (aI (above_one hv2) hvn)));clear hk hv1 hv2 hvn;unfold vagg;have rr:=HR.out;unfold zVal at rr;have r0:=rr.cell 0;have r1:=rr.cell 1;have r2:=rr.cell 2;have r3:=rr.cell 3;have r4:=rr.cell 4;have r5:=rr.cell 5;have g0:=rr.frozen 0;have g1:=rr.frozen 1;have g2:=rr.frozen 2;have g3:=rr.frozen 3;have g4:=rr.frozen 4;have g5:=rr.frozen 5;simp only [List.getElem?_toArray,List.getElem?_cons_zero,List.getElem?_cons_succ] at r0 r1 r2 r3 r4 r5;clear rr;simp only [arrOf_kind,arrOf_num,arrOf_text,arrOf_of]))
 (try simp only [Exit.inBlock,Exit.then])
 have hB2:=(((((HR.out.set_ 0 (.int .i64 23)).set_ 1 (.int .u64 0)).set_ 2 (.string ⟨#[]⟩)).set_ 3 (.slice py (arrOf 11 v.kids).kids.length cy)).set_ 4 (.int .i64 11)).set_ 5 (.slice pd (arrOf 11 v.kids).desc.length cd)
 have hld:=run_loadVar_row (P:=Tryz.prog) _ w.heap.size 25 25 _ _ _ hB2 Tryz.underlying25 rfl (by kernel_rfl)
 have hks:Kept (Only w.heap.size) w1 ((((((w1.setCell ⟨w.heap.size,0,none⟩ (.int .i64 23)).setCell ⟨w.heap.size,1,none⟩ (.int .u64 0)).setCell ⟨w.heap.size,2,none⟩ (.string ⟨#[]⟩)).setCell ⟨w.heap.size,3,none⟩ (.slice py (arrOf 11 v.kids).kids.length cy)).setCell ⟨w.heap.size,4,none⟩ (.int .i64 11)).setCell ⟨w.heap.size,5,none⟩ (.slice pd (arrOf 11 v.kids).desc.length cd)):=((((((Kept.refl _ _).set1 0 _).set1 1 _).set1 2 _).set1 3 _).set1 4 _).set1 5 _
 refine bodyPost_ret (v:=.tuple #[.agg #[.int .i64 23,.int .u64 0,.string ⟨#[]⟩,.slice py (arrOf 11 v.kids).kids.length cy,.int .i64 11,.slice pd (arrOf 11 v.kids).desc.length cd],.bool true]) ?_ rfl ⟨_,_,rfl,rfl,H1.out.1.trans hks (fun b hb e=>by have e':b=w.heap.size:=e;omega),?_⟩
 ·rw [results_cell_tmp rfl]
  simp only [Array.getD_eq_getD_getElem?,List.getElem?_toArray,List.getElem?_cons_zero,List.getElem?_cons_succ,Option.getD_some,asAddr,Sem.run_pure,Result.andThen_ok]
  rw [hld]
  rfl
 ·exact ⟨arrOf 11 v.kids,⟨_,_,rfl,H1.out.2.2.2,(H1.out.2.1.keep hks (fun b _ hb e=>by have e':b=w.heap.size:=e;omega)).mono fun b _ hb=>Nat.le_of_lt hb,(H1.out.2.2.1.keep hks (fun b _ hb e=>by have e':b=w.heap.size:=e;omega)).mono fun b _ hb=>Nat.le_of_lt hb⟩,HLO.out⟩
theorem vl13_ok (s:ByteArray) (w:World):Calls Tryz.prog 88 #[.string s] w fun e w'=>e = .returned (.string s)/\w=w':=by
 go_enter Tryz.func88,Tryz.ntmps88
 go_wp2
 go_ret
 exact ⟨rfl,rfl⟩
theorem worded_string (w:World) (s:Value) (l:List V) (hs:CSl Any_ w 1 s l.length (l.flatMap fun k=>(raw k).cells.toList)) (hk:∀ k ∈ l,k.kind=19/\Tidy k) (hn:l.length<=1000) :
  Calls Tryz.prog 87 #[.int .i64 19,s,.func (.func 88) #[] #[]] w (Gives (NumPost w 19 l)):=by
 obtain ⟨i1,hi,hz0,hz1,hz2⟩:=info_parts info_Val
 obtain ⟨hlx,A,c,rfl,hnc,hcm,hc⟩:=hs
 rw [flatMap_one (g:=raw) (fun a ha=>by simp [raw,(hk a ha).1,Value.cells])] at hlx hc
 have HK:=hid hk
 have HC:=hid hc
 clear hc hlx hk
 unfold maxLen at hcm
 obtain ⟨n,hnn⟩:∃ n,l.length=n:=⟨_,rfl⟩
 have HL:=hid hnn
 rw [hnn] at hn hnc ⊢
 clear hnn
 go_enter Tryz.func87,Tryz.ntmps87
 go_wp2
 have HT:=Blk.two w #[.int .i64 0,.int .u64 0,.string ⟨#[]⟩,.slice none 0 0,.int .i64 0,.slice none 0 0] #[.int .i64 23,.int .u64 0,.string ⟨#[]⟩,.slice none 0 0,.int .i64 19,.slice none 0 0] 25
 have HI:=hid (NInv.start (l:=l) (show w.heap.size < w.heap.size+1 by omega) HT.1 HT.2.2 HT.2.1)
 generalize (w.alloc (.cells #[.int .i64 0,.int .u64 0,.string ⟨#[]⟩,.slice none 0 0,.int .i64 0,.slice none 0 0] 25)).alloc (.cells #[.int .i64 23,.int .u64 0,.string ⟨#[]⟩,.slice none 0 0,.int .i64 19,.slice none 0 0] 25)=W2 at HT HI ⊢
 generalize hC:w.heap.size+1=C at HT HI ⊢
 clear HT hC
 go_loopw [14] (fun q w'=>∃ (k:Nat) (la:List Lay) (x:Value),k<=n/\q = .int .i64 k/\Hid (NInv w 19 l C k la x w')) (fun q _=>n - (RowKit.intOf q).toNat)
 case atStart=>exact ⟨0,[],_,by omega,rfl,HI⟩
 case round =>
  obtain ⟨k,la,x,hk,rfl,HN⟩:=hrel
  obtain ⟨po,co,ho⟩:=HN.out.row.form
  subst ho
  have hcc:=HN.out.cell
  have cC3:=hcc.cell 3
  have fC3:=hcc.frozen 3
  simp only [List.getElem?_toArray,List.getElem?_cons_zero,List.getElem?_cons_succ] at cC3
  by_cases hkn:k < n
  ·have hkn':(k:Int) < (n:Int):=by omega
   have hk0:(0:Int)<=(k:Int):=by omega
   have e1:IntKind.i64.wrap ((k:Int)+1)=(k:Int)+1:=IntWalk.i64_in _ (by omega)
   obtain ⟨v,hv⟩:∃ v,l[k]? = some v:=⟨l[k]'(by rw [HL.out];exact hkn),List.getElem?_eq_getElem _⟩
   obtain ⟨b,off,rfl,hcell⟩:∃ b off,A=some ⟨b,off,none⟩/\∀ j u,(l.map raw)[j]? = some u->w.cell? ⟨b,off+j,none⟩=some u:=by
    rcases HC.out with h0 | ⟨b,off,h1,_,h2⟩
    ·rw [HL.out] at h0;omega
    ·exact ⟨b,off,h1,h2⟩
   have hm:=HK.out v (List.mem_of_getElem? hv)
   have hrw:raw v = .string v.text:=by simp [raw,hm.1]
   have cx:wr.cell? ⟨b,off+k,none⟩=some (.string v.text):=HN.out.kept.cell (hrw ▸ hcell k _ (by rw [List.getElem?_map,hv];rfl)) (fun h=>h)
   have HV:=hid (aI hv hm)
   have hz:v.num=0:=hm.2.zero (.inr (by omega))
   have HZ:=hid hz
   clear hz
   have HTS:=hid hm.2.size
   have hp1:=hm.2.pos
   have cCa:∀ o,(wr.alloc o).drew.cell? ⟨C,3,none⟩=some (.slice po la.length co):=fun o=>by have h:=((HN.out.cell.alloc o).drew).cell 3;exact h
   clear hcell hv hm hcc hrw
   go_wp2
   go_region_law (first | (go_simp;go_at_call 88;refine (vl13_ok _ _).mono ?_;rintro e w3 ⟨rfl,rfl⟩) | (refine wp_append_c _ (.tmp 19) (.tmp 25) 23 rfl w.heap.size 25 i1 _ 6 88 Tryz.underlying23 hi hz0 hz1 hz2 rfl (by decide) _ _ _ rfl (HN.out.row.nope (((Kept.refl Nope wr).drew).alloc (.cells (layOf 19 0 v.text).cells.toArray 25))).own Any_ _ 1 (layOf 19 0 v.text).cells rfl (CSl.one_six (W:=wr.drew) _ rfl) (layOf_one _ _ _) (by have:=HN.out.len;unfold maxLen;omega) (by have:=HN.out.len;omega) ((HN.out.kept.alloc (.cells (layOf 19 0 v.text).cells.toArray 25)).drew).size ?_;intro v4 w4 hown hgrow hblk;obtain ⟨p4,c4,rfl⟩:=ownsRow_form hown;have hC4:=((HN.out.cell.alloc (.cells (layOf 19 0 v.text).cells.toArray 25)).drew).grown hgrow (fun e=>HN.out.ne e.symm);have cC4:=hC4.cell 3;have fC4:=hC4.frozen 3;simp only [List.getElem?_toArray,List.getElem?_cons_zero,List.getElem?_cons_succ] at cC4;have HO:=hid (aI hown (aI hgrow hblk));clear hown hgrow hblk hC4))
   all_goals
    have hst:=(HN.out.nope (((Kept.refl Nope wr).alloc (.cells (layOf 19 0 v.text).cells.toArray 25)).drew)).step (t:=v.text) HV.out.1 rfl (by omega) (by omega) (by have:=HTS.out;unfold maxLen;omega) (by rw [HZ.out];exact HO.out.1) HO.out.2.1 HO.out.2.2
    have HS:=hid hst
    clear hst
    go_wp2
    go_roundw
    case rel=>exact ⟨k+1,_,_,by omega,by go_num,HS⟩
    case measure=>simp [RowKit.intOf];omega
  ·obtain rfl:k=n:=by omega
   have hlt:¬ (k:Int) < (k:Int):=by omega
   have rr:=HN.out.res
   have r0:=rr.cell 0
   have r1:=rr.cell 1
   have r2:=rr.cell 2
   have r3:=rr.cell 3
   have r4:=rr.cell 4
   have r5:=rr.cell 5
   have g0:=rr.frozen 0
   have g1:=rr.frozen 1
   have g2:=rr.frozen 2
   have g3:=rr.frozen 3
   have g4:=rr.frozen 4
   have g5:=rr.frozen 5
   have q0:=hcc.cell 0
   have q1:=hcc.cell 1
   have q2:=hcc.cell 2
   have q4:=hcc.cell 4
   have q5:=hcc.cell 5
   simp only [List.getElem?_toArray,List.getElem?_cons_zero,List.getElem?_cons_succ] at r0 r1 r2 r3 r4 r5 q0 q1 q2 q4 q5
   have HRR:=hid rr
   clear hcc rr
   go_wp2
   have hB2:=(((((HRR.out.set_ 0 (.int .i64 23)).set_ 1 (.int .u64 0)).set_ 2 (.string ⟨#[]⟩)).set_ 3 (.slice po la.length co)).set_ 4 (.int .i64 19)).set_ 5 (.slice none 0 0)
   have hks:Kept (Only w.heap.size) wr ((((((wr.setCell ⟨w.heap.size,0,none⟩ (.int .i64 23)).setCell ⟨w.heap.size,1,none⟩ (.int .u64 0)).setCell ⟨w.heap.size,2,none⟩ (.string ⟨#[]⟩)).setCell ⟨w.heap.size,3,none⟩ (.slice po la.length co)).setCell ⟨w.heap.size,4,none⟩ (.int .i64 19)).setCell ⟨w.heap.size,5,none⟩ (.slice none 0 0)):=((((((Kept.refl _ _).set1 0 _).set1 1 _).set1 2 _).set1 3 _).set1 4 _).set1 5 _
   refine bodyPost_ret (v:=.agg #[.int .i64 23,.int .u64 0,.string ⟨#[]⟩,.slice po la.length co,.int .i64 19,.slice none 0 0]) (results_cell_row (P:=Tryz.prog) rfl _ _ w.heap.size 25 _ _ _ rfl hB2 Tryz.underlying25 rfl (by kernel_rfl)) rfl ⟨_,rfl,HN.out.kept.trans hks (fun b hb e=>by have e':b=w.heap.size:=e;omega),?_⟩
   exact ((NInv.done (l:=l) (by rw [HL.out];exact HN.out) (by omega)).keep hks (fun b _ hb e=>by have e':b=w.heap.size:=e;omega)).mono fun b _ hb=>Nat.le_of_lt hb
theorem valued_sStr (v:V) (w:World) (s:Value) (hs:CSl Any_ w 1 s v.kids.length (v.kids.flatMap fun k=>(raw k).cells.toList)) (hk:∀ k ∈ v.kids,k.kind=19/\Tidy k) (hn:v.kids.length<=1000) (hlo:Loosely v (arrOf 19 v.kids)) :
  Calls Tryz.prog 33 #[.iface 153 s] w (Gives2 (ValPost w v)):=by
 have hl:=worded_string (w.alloc (.cells zVal 25)) s v.kids (hs.keep ((Kept.refl Nope w).alloc _) (fun _ _ _ h=>h)) hk hn
 have HL:=hid hl
 have HLO:=hid hlo
 clear hl hs hk hn hlo
 have f_bool:=fun W=>as_no_bool (T:=153) (s) W (by decide)
 have f_u8:=fun W=>as_no_u8 (T:=153) (s) W (by decide)
 have f_u16:=fun W=>as_no_u16 (T:=153) (s) W (by decide)
 have f_u32:=fun W=>as_no_u32 (T:=153) (s) W (by decide)
 have f_u64:=fun W=>as_no_u64 (T:=153) (s) W (by decide)
 have f_i8:=fun W=>as_no_i8 (T:=153) (s) W (by decide)
 have f_i16:=fun W=>as_no_i16 (T:=153) (s) W (by decide)
 have f_i32:=fun W=>as_no_i32 (T:=153) (s) W (by decide)
 have f_i64:=fun W=>as_no_i64 (T:=153) (s) W (by decide)
 have f_f32:=fun W=>as_no_f32 (T:=153) (s) W (by decide)
 have f_f64:=fun W=>as_no_f64 (T:=153) (s) W (by decide)
 have f_Time:=fun W=>as_no_Time (T:=153) (s) W (by decide)
 have f_UUID:=fun W=>as_no_UUID (T:=153) (s) W (by decide)
 have f_bytes:=fun W=>as_no_bytes (T:=153) (s) W (by decide)
 have f_string:=fun W=>as_no_string (T:=153) (s) W (by decide)
 have f_Symbol:=fun W=>as_no_Symbol (T:=153) (s) W (by decide)
 have f_sAny:=fun W=>as_no_sAny (T:=153) (s) W (by decide)
 have f_mAny:=fun W=>as_no_mAny (T:=153) (s) W (by decide)
 have f_mStr:=fun W=>as_no_mStr (T:=153) (s) W (by decide)
 have f_sBool:=fun W=>as_no_sBool (T:=153) (s) W (by decide)
 have f_ArrayUByte:=fun W=>as_no_ArrayUByte (T:=153) (s) W (by decide)
 have f_sU16:=fun W=>as_no_sU16 (T:=153) (s) W (by decide)
 have f_sU32:=fun W=>as_no_sU32 (T:=153) (s) W (by decide)
 have f_sU64:=fun W=>as_no_sU64 (T:=153) (s) W (by decide)
 have f_sI8:=fun W=>as_no_sI8 (T:=153) (s) W (by decide)
 have f_sI16:=fun W=>as_no_sI16 (T:=153) (s) W (by decide)
 have f_sI32:=fun W=>as_no_sI32 (T:=153) (s) W (by decide)
 have f_sI64:=fun W=>as_no_sI64 (T:=153) (s) W (by decide)
 have f_sF32:=fun W=>as_no_sF32 (T:=153) (s) W (by decide)
 have f_sF64:=fun W=>as_no_sF64 (T:=153) (s) W (by decide)
 have f_sTime:=fun W=>as_no_sTime (T:=153) (s) W (by decide)
 have f_sUUID:=fun W=>as_no_sUUID (T:=153) (s) W (by decide)
 have f_sBytes:=fun W=>as_no_sBytes (T:=153) (s) W (by decide)
 have fy:=fun W=>as_yes_sStr (s) W
 go_enter Tryz.func33,Tryz.ntmps33
 go_wp2_with (go_at_call 87;go_must (refine HL.out.mono ?_;rintro e w1 ⟨y,rfl,hk,ks,ds,rfl,hvn,hv1,hv2⟩;obtain ⟨py,cy,rfl,_⟩:=hv1.form;obtain ⟨pd,cd,rfl,_⟩:=hv2.form;have HR:=hid ((Blk.new w 25 zVal).kept hk (fun h=>h));have H1:=hid (aI (((Kept.refl Nope w).alloc _).trans' hk) (aI (above_one hv1) (aI (above_one hv2) hvn)));clear hk hv1 hv2 hvn;unfold vagg;have rr:=HR.out;unfold zVal at rr;have r0:=rr.cell 0;have r1:=rr.cell 1;have r2:=rr.cell 2;have r3:=rr.cell 3;have r4:=rr.cell 4;have r5:=rr.cell 5;have g0:=rr.frozen 0;have g1:=rr.frozen 1;have g2:=rr.frozen 2;have g3:=rr.frozen 3;have g4:=rr.frozen 4;have g5:=rr.frozen 5;simp only [List.getElem?_toArray,List.getElem?_cons_zero,List.getElem?_cons_succ] at r0 r1 r2 r3 r4 r5;clear rr;simp only [arrOf_kind,arrOf_num,arrOf_text,arrOf_of]))
 (try simp only [Exit.inBlock,Exit.then])
 have hB2:=(((((HR.out.set_ 0 (.int .i64 23)).set_ 1 (.int .u64 0)).set_ 2 (.string ⟨#[]⟩)).set_ 3 (.slice py (arrOf 19 v.kids).kids.length cy)).set_ 4 (.int .i64 19)).set_ 5 (.slice pd (arrOf 19 v.kids).desc.length cd)
 have hld:=run_loadVar_row (P:=Tryz.prog) _ w.heap.size 25 25 _ _ _ hB2 Tryz.underlying25 rfl (by kernel_rfl)
 have hks:Kept (Only w.heap.size) w1 ((((((w1.setCell ⟨w.heap.size,0,none⟩ (.int .i64 23)).setCell ⟨w.heap.size,1,none⟩ (.int .u64 0)).setCell ⟨w.heap.size,2,none⟩ (.string ⟨#[]⟩)).setCell ⟨w.heap.size,3,none⟩ (.slice py (arrOf 19 v.kids).kids.length cy)).setCell ⟨w.heap.size,4,none⟩ (.int .i64 19)).setCell ⟨w.heap.size,5,none⟩ (.slice pd (arrOf 19 v.kids).desc.length cd)):=((((((Kept.refl _ _).set1 0 _).set1 1 _).set1 2 _).set1 3 _).set1 4 _).set1 5 _
 refine bodyPost_ret (v:=.tuple #[.agg #[.int .i64 23,.int .u64 0,.string ⟨#[]⟩,.slice py (arrOf 19 v.kids).kids.length cy,.int .i64 19,.slice pd (arrOf 19 v.kids).desc.length cd],.bool true]) ?_ rfl ⟨_,_,rfl,rfl,H1.out.1.trans hks (fun b hb e=>by have e':b=w.heap.size:=e;omega),?_⟩
 ·rw [results_cell_tmp rfl]
  simp only [Array.getD_eq_getD_getElem?,List.getElem?_toArray,List.getElem?_cons_zero,List.getElem?_cons_succ,Option.getD_some,asAddr,Sem.run_pure,Result.andThen_ok]
  rw [hld]
  rfl
 ·exact ⟨arrOf 19 v.kids,⟨_,_,rfl,H1.out.2.2.2,(H1.out.2.1.keep hks (fun b _ hb e=>by have e':b=w.heap.size:=e;omega)).mono fun b _ hb=>Nat.le_of_lt hb,(H1.out.2.2.1.keep hks (fun b _ hb e=>by have e':b=w.heap.size:=e;omega)).mono fun b _ hb=>Nat.le_of_lt hb⟩,HLO.out⟩
theorem valued_sBytes (v:V) (w:World) (s:Value) (xs:List Value) (hs:CSl Any_ w 1 s v.kids.length xs) (hbs:∀ (i:Nat) (x:Value) (k:V),xs[i]? = some x->v.kids[i]? = some k->BSl Any_ w x (bytesOf k.text)) (hk:∀ k ∈ v.kids,k.kind=18/\Tidy k) (hn:v.kids.length<=1000) (hlo:Loosely v (arrOf 18 v.kids)) :
  Calls Tryz.prog 33 #[.iface 150 s] w (Gives2 (ValPost w v)):=by
 have hl:=worded_bytes (w.alloc (.cells zVal 25)) s v.kids xs (hs.keep ((Kept.refl Nope w).alloc _) (fun _ _ _ h=>h)) (fun i x k h1 h2=>(hbs i x k h1 h2).keep ((Kept.refl Nope w).alloc _) (fun _ _ _ h=>h)) hk hn
 have HL:=hid hl
 have HLO:=hid hlo
 clear hl hs hbs hk hn hlo
 have f_bool:=fun W=>as_no_bool (T:=150) (s) W (by decide)
 have f_u8:=fun W=>as_no_u8 (T:=150) (s) W (by decide)
 have f_u16:=fun W=>as_no_u16 (T:=150) (s) W (by decide)
 have f_u32:=fun W=>as_no_u32 (T:=150) (s) W (by decide)
 have f_u64:=fun W=>as_no_u64 (T:=150) (s) W (by decide)
 have f_i8:=fun W=>as_no_i8 (T:=150) (s) W (by decide)
 have f_i16:=fun W=>as_no_i16 (T:=150) (s) W (by decide)
 have f_i32:=fun W=>as_no_i32 (T:=150) (s) W (by decide)
 have f_i64:=fun W=>as_no_i64 (T:=150) (s) W (by decide)
 have f_f32:=fun W=>as_no_f32 (T:=150) (s) W (by decide)
 have f_f64:=fun W=>as_no_f64 (T:=150) (s) W (by decide)
 have f_Time:=fun W=>as_no_Time (T:=150) (s) W (by decide)
 have f_UUID:=fun W=>as_no_UUID (T:=150) (s) W (by decide)
 have f_bytes:=fun W=>as_no_bytes (T:=150) (s) W (by decide)
 have f_string:=fun W=>as_no_string (T:=150) (s) W (by decide)
 have f_Symbol:=fun W=>as_no_Symbol (T:=150) (s) W (by decide)
 have f_sAny:=fun W=>as_no_sAny (T:=150) (s) W (by decide)
 have f_mAny:=fun W=>as_no_mAny (T:=150) (s) W (by decide)
 have f_mStr:=fun W=>as_no_mStr (T:=150) (s) W (by decide)
 have f_sBool:=fun W=>as_no_sBool (T:=150) (s) W (by decide)
 have f_ArrayUByte:=fun W=>as_no_ArrayUByte (T:=150) (s) W (by decide)
 have f_sU16:=fun W=>as_no_sU16 (T:=150) (s) W (by decide)
 have f_sU32:=fun W=>as_no_sU32 (T:=150) (s) W (by decide)
 have f_sU64:=fun W=>as_no_sU64 (T:=150) (s) W (by decide)
 have f_sI8:=fun W=>as_no_sI8 (T:=150) (s) W (by decide)
 have f_sI16:=fun W=>as_no_sI16 (T:=150) (s) W (by decide)
 have f_sI32:=fun W=>as_no_sI32 (T:=150) (s) W (by decide)
 have f_sI64:=fun W=>as_no_sI64 (T:=150) (s) W (by decide)
 have f_sF32:=fun W=>as_no_sF32 (T:=150) (s) W (by decide)
 have f_sF64:=fun W=>as_no_sF64 (T:=150) (s) W (by decide)
 have f_sTime:=fun W=>as_no_sTime (T:=150) (s) W (by decide)
 have f_sUUID:=fun W=>as_no_sUUID (T:=150) (s) W (by decide)
 have fy:=fun W=>as_yes_sBytes (s) W
 go_enter Tryz.func33,Tryz.ntmps33
 go_wp2_with (go_at_call 85;go_must (refine HL.out.mono ?_;rintro e w1 ⟨y,rfl,hk,ks,ds,rfl,hvn,hv1,hv2⟩;obtain ⟨py,cy,rfl,_⟩:=hv1.form;obtain ⟨pd,cd,rfl,_⟩:=hv2.form;have HR:=hid ((Blk.new w 25 zVal).kept hk (fun h=>h));have H1:=hid (aI (((Kept.refl Nope w).alloc _).trans' hk) (aI (above_one hv1) (aI (above_one hv2) hvn)));clear hk hv1 hv2 hvn;unfold vagg;have rr:=HR.out;unfold zVal at rr;have r0:=rr.cell 0;have r1:=rr.cell 1;have r2:=rr.cell 2;have r3:=rr.cell 3;have r4:=rr.cell 4;have r5:=rr.cell 5;have g0:=rr.frozen 0;have g1:=rr.frozen 1;have g2:=rr.frozen 2;have g3:=rr.frozen 3;have g4:=rr.frozen 4;have g5:=rr.frozen 5;simp only [List.getElem?_toArray,List.getElem?_cons_zero,List.getElem?_cons_succ] at r0 r1 r2 r3 r4 r5;clear rr;simp only [arrOf_kind,arrOf_num,arrOf_text,arrOf_of]))
 (try simp only [Exit.inBlock,Exit.then])
 have hB2:=(((((HR.out.set_ 0 (.int .i64 23)).set_ 1 (.int .u64 0)).set_ 2 (.string ⟨#[]⟩)).set_ 3 (.slice py (arrOf 18 v.kids).kids.length cy)).set_ 4 (.int .i64 18)).set_ 5 (.slice pd (arrOf 18 v.kids).desc.length cd)
 have hld:=run_loadVar_row (P:=Tryz.prog) _ w.heap.size 25 25 _ _ _ hB2 Tryz.underlying25 rfl (by kernel_rfl)
 have hks:Kept (Only w.heap.size) w1 ((((((w1.setCell ⟨w.heap.size,0,none⟩ (.int .i64 23)).setCell ⟨w.heap.size,1,none⟩ (.int .u64 0)).setCell ⟨w.heap.size,2,none⟩ (.string ⟨#[]⟩)).setCell ⟨w.heap.size,3,none⟩ (.slice py (arrOf 18 v.kids).kids.length cy)).setCell ⟨w.heap.size,4,none⟩ (.int .i64 18)).setCell ⟨w.heap.size,5,none⟩ (.slice pd (arrOf 18 v.kids).desc.length cd)):=((((((Kept.refl _ _).set1 0 _).set1 1 _).set1 2 _).set1 3 _).set1 4 _).set1 5 _
 refine bodyPost_ret (v:=.tuple #[.agg #[.int .i64 23,.int .u64 0,.string ⟨#[]⟩,.slice py (arrOf 18 v.kids).kids.length cy,.int .i64 18,.slice pd (arrOf 18 v.kids).desc.length cd],.bool true]) ?_ rfl ⟨_,_,rfl,rfl,H1.out.1.trans hks (fun b hb e=>by have e':b=w.heap.size:=e;omega),?_⟩
 ·rw [results_cell_tmp rfl]
  simp only [Array.getD_eq_getD_getElem?,List.getElem?_toArray,List.getElem?_cons_zero,List.getElem?_cons_succ,Option.getD_some,asAddr,Sem.run_pure,Result.andThen_ok]
  rw [hld]
  rfl
 ·exact ⟨arrOf 18 v.kids,⟨_,_,rfl,H1.out.2.2.2,(H1.out.2.1.keep hks (fun b _ hb e=>by have e':b=w.heap.size:=e;omega)).mono fun b _ hb=>Nat.le_of_lt hb,(H1.out.2.2.1.keep hks (fun b _ hb e=>by have e':b=w.heap.size:=e;omega)).mono fun b _ hb=>Nat.le_of_lt hb⟩,HLO.out⟩
end Go.Proofs.YtmdpodeegdjkeaaGreatDoor
