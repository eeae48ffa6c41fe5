/- Part 15 of the proof (texts Vd5). It has no conditions beyond the theorems' own. -/
import Derived.Test.YtmdpodeegdjkeaaGreatDoorA0
import Derived.Test.YtmdpodeegdjkeaaGreatDoorA12
import Derived.Test.YtmdpodeegdjkeaaGreatDoorA13
import Derived.Test.YtmdpodeegdjkeaaGreatDoorA14
set_option maxRecDepth 100000
set_option maxHeartbeats 3200000
namespace Go.Proofs.YtmdpodeegdjkeaaGreatDoor
open Go Go.RowKit Go.Lib
theorem arrOf_kind (ek:Int) (l:List V):(arrOf ek l).kind=23:=rfl
theorem arrOf_num (ek:Int) (l:List V):(arrOf ek l).num=0:=rfl
theorem arrOf_text (ek:Int) (l:List V):(arrOf ek l).text=⟨#[]⟩:=rfl
theorem arrOf_of (ek:Int) (l:List V):(arrOf ek l).of_=ek:=rfl
theorem arr_loosely {v k0:V} (hg:Good v) (h23:v.kind=23) (h0:v.kids[0]? = some k0):Loosely v (arrOf k0.kind v.kids):=by
 have t:=hg.tidy
 refine .leaf (by omega) (by omega) (.mk h23 (t.zero (by omega)) (t.empty (by omega)) (by simp [arrOf]) (by rw [hg.desc];rfl) (fun i x y hx hy => ?_) (fun x y hx=>by rw [hg.desc] at hx;simp at hx))
 simp only [arrOf,V.kids_mk,List.getElem?_map,hx,Option.map_some] at hy
 cases hy
 have hm:=List.mem_of_getElem? hx
 have hgx:=hg.kid hm
 have hkk:x.kind=k0.kind/\arrayKind k0.kind:=by
  cases hg with
  | mk _ _ _ _ h5 =>
   obtain ⟨k1,g0,g1,_,g2,_⟩:=h5 h23
   rw [h0] at g0
   cases g0
   exact ⟨g2 x hm,g1⟩
 have hl:x.kids=[]:=hgx.tidy.leaf (by have h1:=hkk.1;have h2:=hkk.2;unfold arrayKind at h2;omega)
 exact Same.of_fields hkk.1 rfl rfl hl rfl hgx.desc rfl
theorem valued_sBool (v:V) (w:World) (s:Value) (hs:CSl Any_ w 1 s v.kids.length (v.kids.flatMap fun k=>(raw k).cells.toList)) (hk:∀ k ∈ v.kids,k.kind=1/\Tidy k) (hn:v.kids.length<=1000) (hlo:Loosely v (arrOf 1 v.kids)) :
  Calls Tryz.prog 33 #[.iface 113 s] w (Gives2 (ValPost w v)):=by
 have hl:=numbered_bool (w.alloc (.cells zVal 25)) s v.kids (hs.keep ((Kept.refl Nope w).alloc _) (fun _ _ _ h=>h)) hk hn
 have HL:=hid hl
 have HLO:=hid hlo
 clear hl hs hk hn hlo
 have f_bool:=fun W=>as_no_bool (T:=113) (s) W (by decide)
 have f_u8:=fun W=>as_no_u8 (T:=113) (s) W (by decide)
 have f_u16:=fun W=>as_no_u16 (T:=113) (s) W (by decide)
 have f_u32:=fun W=>as_no_u32 (T:=113) (s) W (by decide)
 have f_u64:=fun W=>as_no_u64 (T:=113) (s) W (by decide)
 have f_i8:=fun W=>as_no_i8 (T:=113) (s) W (by decide)
 have f_i16:=fun W=>as_no_i16 (T:=113) (s) W (by decide)
 have f_i32:=fun W=>as_no_i32 (T:=113) (s) W (by decide)
 have f_i64:=fun W=>as_no_i64 (T:=113) (s) W (by decide)
 have f_f32:=fun W=>as_no_f32 (T:=113) (s) W (by decide)
 have f_f64:=fun W=>as_no_f64 (T:=113) (s) W (by decide)
 have f_Time:=fun W=>as_no_Time (T:=113) (s) W (by decide)
 have f_UUID:=fun W=>as_no_UUID (T:=113) (s) W (by decide)
 have f_bytes:=fun W=>as_no_bytes (T:=113) (s) W (by decide)
 have f_string:=fun W=>as_no_string (T:=113) (s) W (by decide)
 have f_Symbol:=fun W=>as_no_Symbol (T:=113) (s) W (by decide)
 have f_sAny:=fun W=>as_no_sAny (T:=113) (s) W (by decide)
 have f_mAny:=fun W=>as_no_mAny (T:=113) (s) W (by decide)
 have f_mStr:=fun W=>as_no_mStr (T:=113) (s) W (by decide)
 have fy:=fun W=>as_yes_sBool (s) W
 go_enter Tryz.func33,Tryz.ntmps33
 go_wp2_with (go_at_call 61;go_must (refine HL.out.mono ?_;rintro e w1 ⟨y,rfl,hk,ks,ds,rfl,hvn,hv1,hv2⟩;obtain ⟨py,cy,rfl,_⟩:=hv1.form;obtain ⟨pd,cd,rfl,_⟩:=hv2.form;have HR:=hid ((Blk.new w 25 zVal).kept hk (fun h=>h));have H1:=hid (aI (((Kept.refl Nope w).alloc _).trans' hk) (aI (above_one hv1) (aI (above_one hv2) hvn)));clear hk hv1 hv2 hvn;unfold vagg;have rr:=HR.out;unfold zVal at rr;have r0:=rr.cell 0;have r1:=rr.cell 1;have r2:=rr.cell 2;have r3:=rr.cell 3;have r4:=rr.cell 4;have r5:=rr.cell 5;have g0:=rr.frozen 0;have g1:=rr.frozen 1;have g2:=rr.frozen 2;have g3:=rr.frozen 3;have g4:=rr.frozen 4;have g5:=rr.frozen 5;simp only [List.getElem?_toArray,List.getElem?_cons_zero,List.getElem?_cons_succ] at r0 r1 r2 r3 r4 r5;clear rr;simp only [arrOf_kind,arrOf_num,arrOf_text,arrOf_of]))
 (try simp only [Exit.inBlock,Exit.then])
 have hB2:=(((((HR.out.set_ 0 (.int .i64 23)).set_ 1 (.int .u64 0)).set_ 2 (.string ⟨#[]⟩)).set_ 3 (.slice py (arrOf 1 v.kids).kids.length cy)).set_ 4 (.int .i64 1)).set_ 5 (.slice pd (arrOf 1 v.kids).desc.length cd)
 have hld:=run_loadVar_row (P:=Tryz.prog) _ w.heap.size 25 25 _ _ _ hB2 Tryz.underlying25 rfl (by kernel_rfl)
 have hks:Kept (Only w.heap.size) w1 ((((((w1.setCell ⟨w.heap.size,0,none⟩ (.int .i64 23)).setCell ⟨w.heap.size,1,none⟩ (.int .u64 0)).setCell ⟨w.heap.size,2,none⟩ (.string ⟨#[]⟩)).setCell ⟨w.heap.size,3,none⟩ (.slice py (arrOf 1 v.kids).kids.length cy)).setCell ⟨w.heap.size,4,none⟩ (.int .i64 1)).setCell ⟨w.heap.size,5,none⟩ (.slice pd (arrOf 1 v.kids).desc.length cd)):=((((((Kept.refl _ _).set1 0 _).set1 1 _).set1 2 _).set1 3 _).set1 4 _).set1 5 _
 refine bodyPost_ret (v:=.tuple #[.agg #[.int .i64 23,.int .u64 0,.string ⟨#[]⟩,.slice py (arrOf 1 v.kids).kids.length cy,.int .i64 1,.slice pd (arrOf 1 v.kids).desc.length cd],.bool true]) ?_ rfl ⟨_,_,rfl,rfl,H1.out.1.trans hks (fun b hb e=>by have e':b=w.heap.size:=e;omega),?_⟩
 ·rw [results_cell_tmp rfl]
  simp only [Array.getD_eq_getD_getElem?,List.getElem?_toArray,List.getElem?_cons_zero,List.getElem?_cons_succ,Option.getD_some,asAddr,Sem.run_pure,Result.andThen_ok]
  rw [hld]
  rfl
 ·exact ⟨arrOf 1 v.kids,⟨_,_,rfl,H1.out.2.2.2,(H1.out.2.1.keep hks (fun b _ hb e=>by have e':b=w.heap.size:=e;omega)).mono fun b _ hb=>Nat.le_of_lt hb,(H1.out.2.2.1.keep hks (fun b _ hb e=>by have e':b=w.heap.size:=e;omega)).mono fun b _ hb=>Nat.le_of_lt hb⟩,HLO.out⟩
theorem valued_ArrayUByte (v:V) (w:World) (s:Value) (hs:CSl Any_ w 1 s v.kids.length (v.kids.flatMap fun k=>(raw k).cells.toList)) (hk:∀ k ∈ v.kids,k.kind=2/\Tidy k) (hn:v.kids.length<=1000) (hlo:Loosely v (arrOf 2 v.kids)) :
  Calls Tryz.prog 33 #[.iface 115 s] w (Gives2 (ValPost w v)):=by
 have hl:=numbered_u8 (w.alloc (.cells zVal 25)) s v.kids (hs.keep ((Kept.refl Nope w).alloc _) (fun _ _ _ h=>h)) hk hn
 have HL:=hid hl
 have HLO:=hid hlo
 clear hl hs hk hn hlo
 have f_bool:=fun W=>as_no_bool (T:=115) (s) W (by decide)
 have f_u8:=fun W=>as_no_u8 (T:=115) (s) W (by decide)
 have f_u16:=fun W=>as_no_u16 (T:=115) (s) W (by decide)
 have f_u32:=fun W=>as_no_u32 (T:=115) (s) W (by decide)
 have f_u64:=fun W=>as_no_u64 (T:=115) (s) W (by decide)
 have f_i8:=fun W=>as_no_i8 (T:=115) (s) W (by decide)
 have f_i16:=fun W=>as_no_i16 (T:=115) (s) W (by decide)
 have f_i32:=fun W=>as_no_i32 (T:=115) (s) W (by decide)
 have f_i64:=fun W=>as_no_i64 (T:=115) (s) W (by decide)
 have f_f32:=fun W=>as_no_f32 (T:=115) (s) W (by decide)
 have f_f64:=fun W=>as_no_f64 (T:=115) (s) W (by decide)
 have f_Time:=fun W=>as_no_Time (T:=115) (s) W (by decide)
 have f_UUID:=fun W=>as_no_UUID (T:=115) (s) W (by decide)
 have f_bytes:=fun W=>as_no_bytes (T:=115) (s) W (by decide)
 have f_string:=fun W=>as_no_string (T:=115) (s) W (by decide)
 have f_Symbol:=fun W=>as_no_Symbol (T:=115) (s) W (by decide)
 have f_sAny:=fun W=>as_no_sAny (T:=115) (s) W (by decide)
 have f_mAny:=fun W=>as_no_mAny (T:=115) (s) W (by decide)
 have f_mStr:=fun W=>as_no_mStr (T:=115) (s) W (by decide)
 have f_sBool:=fun W=>as_no_sBool (T:=115) (s) W (by decide)
 have fy:=fun W=>as_yes_ArrayUByte (s) W
 go_enter Tryz.func33,Tryz.ntmps33
 go_wp2_with (go_at_call 62;go_must (refine HL.out.mono ?_;rintro e w1 ⟨y,rfl,hk,ks,ds,rfl,hvn,hv1,hv2⟩;obtain ⟨py,cy,rfl,_⟩:=hv1.form;obtain ⟨pd,cd,rfl,_⟩:=hv2.form;have HR:=hid ((Blk.new w 25 zVal).kept hk (fun h=>h));have H1:=hid (aI (((Kept.refl Nope w).alloc _).trans' hk) (aI (above_one hv1) (aI (above_one hv2) hvn)));clear hk hv1 hv2 hvn;unfold vagg;have rr:=HR.out;unfold zVal at rr;have r0:=rr.cell 0;have r1:=rr.cell 1;have r2:=rr.cell 2;have r3:=rr.cell 3;have r4:=rr.cell 4;have r5:=rr.cell 5;have g0:=rr.frozen 0;have g1:=rr.frozen 1;have g2:=rr.frozen 2;have g3:=rr.frozen 3;have g4:=rr.frozen 4;have g5:=rr.frozen 5;simp only [List.getElem?_toArray,List.getElem?_cons_zero,List.getElem?_cons_succ] at r0 r1 r2 r3 r4 r5;clear rr;simp only [arrOf_kind,arrOf_num,arrOf_text,arrOf_of]))
 (try simp only [Exit.inBlock,Exit.then])
 have hB2:=(((((HR.out.set_ 0 (.int .i64 23)).set_ 1 (.int .u64 0)).set_ 2 (.string ⟨#[]⟩)).set_ 3 (.slice py (arrOf 2 v.kids).kids.length cy)).set_ 4 (.int .i64 2)).set_ 5 (.slice pd (arrOf 2 v.kids).desc.length cd)
 have hld:=run_loadVar_row (P:=Tryz.prog) _ w.heap.size 25 25 _ _ _ hB2 Tryz.underlying25 rfl (by kernel_rfl)
 have hks:Kept (Only w.heap.size) w1 ((((((w1.setCell ⟨w.heap.size,0,none⟩ (.int .i64 23)).setCell ⟨w.heap.size,1,none⟩ (.int .u64 0)).setCell ⟨w.heap.size,2,none⟩ (.string ⟨#[]⟩)).setCell ⟨w.heap.size,3,none⟩ (.slice py (arrOf 2 v.kids).kids.length cy)).setCell ⟨w.heap.size,4,none⟩ (.int .i64 2)).setCell ⟨w.heap.size,5,none⟩ (.slice pd (arrOf 2 v.kids).desc.length cd)):=((((((Kept.refl _ _).set1 0 _).set1 1 _).set1 2 _).set1 3 _).set1 4 _).set1 5 _
 refine bodyPost_ret (v:=.tuple #[.agg #[.int .i64 23,.int .u64 0,.string ⟨#[]⟩,.slice py (arrOf 2 v.kids).kids.length cy,.int .i64 2,.slice pd (arrOf 2 v.kids).desc.length cd],.bool true]) ?_ rfl ⟨_,_,rfl,rfl,H1.out.1.trans hks (fun b hb e=>by have e':b=w.heap.size:=e;omega),?_⟩
 ·rw [results_cell_tmp rfl]
  simp only [Array.getD_eq_getD_getElem?,List.getElem?_toArray,List.getElem?_cons_zero,List.getElem?_cons_succ,Option.getD_some,asAddr,Sem.run_pure,Result.andThen_ok]
  rw [hld]
  rfl
 ·exact ⟨arrOf 2 v.kids,⟨_,_,rfl,H1.out.2.2.2,(H1.out.2.1.keep hks (fun b _ hb e=>by have e':b=w.heap.size:=e;omega)).mono fun b _ hb=>Nat.le_of_lt hb,(H1.out.2.2.1.keep hks (fun b _ hb e=>by have e':b=w.heap.size:=e;omega)).mono fun b _ hb=>Nat.le_of_lt hb⟩,HLO.out⟩
theorem valued_sU16 (v:V) (w:World) (s:Value) (hs:CSl Any_ w 1 s v.kids.length (v.kids.flatMap fun k=>(raw k).cells.toList)) (hk:∀ k ∈ v.kids,k.kind=3/\Tidy k) (hn:v.kids.length<=1000) (hlo:Loosely v (arrOf 3 v.kids)) :
  Calls Tryz.prog 33 #[.iface 118 s] w (Gives2 (ValPost w v)):=by
 have hl:=numbered_u16 (w.alloc (.cells zVal 25)) s v.kids (hs.keep ((Kept.refl Nope w).alloc _) (fun _ _ _ h=>h)) hk hn
 have HL:=hid hl
 have HLO:=hid hlo
 clear hl hs hk hn hlo
 have f_bool:=fun W=>as_no_bool (T:=118) (s) W (by decide)
 have f_u8:=fun W=>as_no_u8 (T:=118) (s) W (by decide)
 have f_u16:=fun W=>as_no_u16 (T:=118) (s) W (by decide)
 have f_u32:=fun W=>as_no_u32 (T:=118) (s) W (by decide)
 have f_u64:=fun W=>as_no_u64 (T:=118) (s) W (by decide)
 have f_i8:=fun W=>as_no_i8 (T:=118) (s) W (by decide)
 have f_i16:=fun W=>as_no_i16 (T:=118) (s) W (by decide)
 have f_i32:=fun W=>as_no_i32 (T:=118) (s) W (by decide)
 have f_i64:=fun W=>as_no_i64 (T:=118) (s) W (by decide)
 have f_f32:=fun W=>as_no_f32 (T:=118) (s) W (by decide)
 have f_f64:=fun W=>as_no_f64 (T:=118) (s) W (by decide)
 have f_Time:=fun W=>as_no_Time (T:=118) (s) W (by decide)
 have f_UUID:=fun W=>as_no_UUID (T:=118) (s) W (by decide)
 have f_bytes:=fun W=>as_no_bytes (T:=118) (s) W (by decide)
 have f_string:=fun W=>as_no_string (T:=118) (s) W (by decide)
 have f_Symbol:=fun W=>as_no_Symbol (T:=118) (s) W (by decide)
 have f_sAny:=fun W=>as_no_sAny (T:=118) (s) W (by decide)
 have f_mAny:=fun W=>as_no_mAny (T:=118) (s) W (by decide)
 have f_mStr:=fun W=>as_no_mStr (T:=118) (s) W (by decide)
 have f_sBool:=fun W=>as_no_sBool (T:=118) (s) W (by decide)
 have f_ArrayUByte:=fun W=>as_no_ArrayUByte (T:=118) (s) W (by decide)
 have fy:=fun W=>as_yes_sU16 (s) W
 go_enter Tryz.func33,Tryz.ntmps33
 go_wp2_with (go_at_call 64;go_must (refine HL.out.mono ?_;rintro e w1 ⟨y,rfl,hk,ks,ds,rfl,hvn,hv1,hv2⟩;obtain ⟨py,cy,rfl,_⟩:=hv1.form;obtain ⟨pd,cd,rfl,_⟩:=hv2.form;have HR:=hid ((Blk.new w 25 zVal).kept hk (fun h=>h));have H1:=hid (aI (((Kept.refl Nope w).alloc _).trans' hk) (aI (above_one hv1) (aI (above_one hv2) hvn)));clear hk hv1 hv2 hvn;unfold vagg;have rr:=HR.out;unfold zVal at rr;have r0:=rr.cell 0;have r1:=rr.cell 1;have r2:=rr.cell 2;have r3:=rr.cell 3;have r4:=rr.cell 4;have r5:=rr.cell 5;have g0:=rr.frozen 0;have g1:=rr.frozen 1;have g2:=rr.frozen 2;have g3:=rr.frozen 3;have g4:=rr.frozen 4;have g5:=rr.frozen 5;simp only [List.getElem?_toArray,List.getElem?_cons_zero,List.getElem?_cons_succ] at r0 r1 r2 r3 r4 r5;clear rr;simp only [arrOf_kind,arrOf_num,arrOf_text,arrOf_of]))
 (try simp only [Exit.inBlock,Exit.then])
 have hB2:=(((((HR.out.set_ 0 (.int .i64 23)).set_ 1 (.int .u64 0)).set_ 2 (.string ⟨#[]⟩)).set_ 3 (.slice py (arrOf 3 v.kids).kids.length cy)).set_ 4 (.int .i64 3)).set_ 5 (.slice pd (arrOf 3 v.kids).desc.length cd)
 have hld:=run_loadVar_row (P:=Tryz.prog) _ w.heap.size 25 25 _ _ _ hB2 Tryz.underlying25 rfl (by kernel_rfl)
 have hks:Kept (Only w.heap.size) w1 ((((((w1.setCell ⟨w.heap.size,0,none⟩ (.int .i64 23)).setCell ⟨w.heap.size,1,none⟩ (.int .u64 0)).setCell ⟨w.heap.size,2,none⟩ (.string ⟨#[]⟩)).setCell ⟨w.heap.size,3,none⟩ (.slice py (arrOf 3 v.kids).kids.length cy)).setCell ⟨w.heap.size,4,none⟩ (.int .i64 3)).setCell ⟨w.heap.size,5,none⟩ (.slice pd (arrOf 3 v.kids).desc.length cd)):=((((((Kept.refl _ _).set1 0 _).set1 1 _).set1 2 _).set1 3 _).set1 4 _).set1 5 _
 refine bodyPost_ret (v:=.tuple #[.agg #[.int .i64 23,.int .u64 0,.string ⟨#[]⟩,.slice py (arrOf 3 v.kids).kids.length cy,.int .i64 3,.slice pd (arrOf 3 v.kids).desc.length cd],.bool true]) ?_ rfl ⟨_,_,rfl,rfl,H1.out.1.trans hks (fun b hb e=>by have e':b=w.heap.size:=e;omega),?_⟩
 ·rw [results_cell_tmp rfl]
  simp only [Array.getD_eq_getD_getElem?,List.getElem?_toArray,List.getElem?_cons_zero,List.getElem?_cons_succ,Option.getD_some,asAddr,Sem.run_pure,Result.andThen_ok]
  rw [hld]
  rfl
 ·exact ⟨arrOf 3 v.kids,⟨_,_,rfl,H1.out.2.2.2,(H1.out.2.1.keep hks (fun b _ hb e=>by have e':b=w.heap.size:=e;omega)).mono fun b _ hb=>Nat.le_of_lt hb,(H1.out.2.2.1.keep hks (fun b _ hb e=>by have e':b=w.heap.size:=e;omega)).mono fun b _ hb=>Nat.le_of_lt hb⟩,HLO.out⟩
theorem valued_sU32 (v:V) (w:World) (s:Value) (hs:CSl Any_ w 1 s v.kids.length (v.kids.flatMap fun k=>(raw k).cells.toList)) (hk:∀ k ∈ v.kids,k.kind=4/\Tidy k) (hn:v.kids.length<=1000) (hlo:Loosely v (arrOf 4 v.kids)) :
  Calls Tryz.prog 33 #[.iface 121 s] w (Gives2 (ValPost w v)):=by
 have hl:=numbered_u32 (w.alloc (.cells zVal 25)) s v.kids (hs.keep ((Kept.refl Nope w).alloc _) (fun _ _ _ h=>h)) hk hn
 have HL:=hid hl
 have HLO:=hid hlo
 clear hl hs hk hn hlo
 have f_bool:=fun W=>as_no_bool (T:=121) (s) W (by decide)
 have f_u8:=fun W=>as_no_u8 (T:=121) (s) W (by decide)
 have f_u16:=fun W=>as_no_u16 (T:=121) (s) W (by decide)
 have f_u32:=fun W=>as_no_u32 (T:=121) (s) W (by decide)
 have f_u64:=fun W=>as_no_u64 (T:=121) (s) W (by decide)
 have f_i8:=fun W=>as_no_i8 (T:=121) (s) W (by decide)
 have f_i16:=fun W=>as_no_i16 (T:=121) (s) W (by decide)
 have f_i32:=fun W=>as_no_i32 (T:=121) (s) W (by decide)
 have f_i64:=fun W=>as_no_i64 (T:=121) (s) W (by decide)
 have f_f32:=fun W=>as_no_f32 (T:=121) (s) W (by decide)
 have f_f64:=fun W=>as_no_f64 (T:=121) (s) W (by decide)
 have f_Time:=fun W=>as_no_Time (T:=121) (s) W (by decide)
 have f_UUID:=fun W=>as_no_UUID (T:=121) (s) W (by decide)
 have f_bytes:=fun W=>as_no_bytes (T:=121) (s) W (by decide)
 have f_string:=fun W=>as_no_string (T:=121) (s) W (by decide)
 have f_Symbol:=fun W=>as_no_Symbol (T:=121) (s) W (by decide)
 have f_sAny:=fun W=>as_no_sAny (T:=121) (s) W (by decide)
 have f_mAny:=fun W=>as_no_mAny (T:=121) (s) W (by decide)
 have f_mStr:=fun W=>as_no_mStr (T:=121) (s) W (by decide)
 have f_sBool:=fun W=>as_no_sBool (T:=121) (s) W (by decide)
 have f_ArrayUByte:=fun W=>as_no_ArrayUByte (T:=121) (s) W (by decide)
 have f_sU16:=fun W=>as_no_sU16 (T:=121) (s) W (by decide)
 have fy:=fun W=>as_yes_sU32 (s) W
 go_enter Tryz.func33,Tryz.ntmps33
 go_wp2_with (go_at_call 66;go_must (refine HL.out.mono ?_;rintro e w1 ⟨y,rfl,hk,ks,ds,rfl,hvn,hv1,hv2⟩;obtain ⟨py,cy,rfl,_⟩:=hv1.form;obtain ⟨pd,cd,rfl,_⟩:=hv2.form;have HR:=hid ((Blk.new w 25 zVal).kept hk (fun h=>h));have H1:=hid (aI (((Kept.refl Nope w).alloc _).trans' hk) (aI (above_one hv1) (aI (above_one hv2) hvn)));clear hk hv1 hv2 hvn;unfold vagg;have rr:=HR.out;unfold zVal at rr;have r0:=rr.cell 0;have r1:=rr.cell 1;have r2:=rr.cell 2;have r3:=rr.cell 3;have r4:=rr.cell 4;have r5:=rr.cell 5;have g0:=rr.frozen 0;have g1:=rr.frozen 1;have g2:=rr.frozen 2;have g3:=rr.frozen 3;have g4:=rr.frozen 4;have g5:=rr.frozen 5;simp only [List.getElem?_toArray,List.getElem?_cons_zero,List.getElem?_cons_succ] at r0 r1 r2 r3 r4 r5;clear rr;simp only [arrOf_kind,arrOf_num,arrOf_text,arrOf_of]))
 (try simp only [Exit.inBlock,Exit.then])
 have hB2:=(((((HR.out.set_ 0 (.int .i64 23)).set_ 1 (.int .u64 0)).set_ 2 (.string ⟨#[]⟩)).set_ 3 (.slice py (arrOf 4 v.kids).kids.length cy)).set_ 4 (.int .i64 4)).set_ 5 (.slice pd (arrOf 4 v.kids).desc.length cd)
 have hld:=run_loadVar_row (P:=Tryz.prog) _ w.heap.size 25 25 _ _ _ hB2 Tryz.underlying25 rfl (by kernel_rfl)
 have hks:Kept (Only w.heap.size) w1 ((((((w1.setCell ⟨w.heap.size,0,none⟩ (.int .i64 23)).setCell ⟨w.heap.size,1,none⟩ (.int .u64 0)).setCell ⟨w.heap.size,2,none⟩ (.string ⟨#[]⟩)).setCell ⟨w.heap.size,3,none⟩ (.slice py (arrOf 4 v.kids).kids.length cy)).setCell ⟨w.heap.size,4,none⟩ (.int .i64 4)).setCell ⟨w.heap.size,5,none⟩ (.slice pd (arrOf 4 v.kids).desc.length cd)):=((((((Kept.refl _ _).set1 0 _).set1 1 _).set1 2 _).set1 3 _).set1 4 _).set1 5 _
 refine bodyPost_ret (v:=.tuple #[.agg #[.int .i64 23,.int .u64 0,.string ⟨#[]⟩,.slice py (arrOf 4 v.kids).kids.length cy,.int .i64 4,.slice pd (arrOf 4 v.kids).desc.length cd],.bool true]) ?_ rfl ⟨_,_,rfl,rfl,H1.out.1.trans hks (fun b hb e=>by have e':b=w.heap.size:=e;omega),?_⟩
 ·rw [results_cell_tmp rfl]
  simp only [Array.getD_eq_getD_getElem?,List.getElem?_toArray,List.getElem?_cons_zero,List.getElem?_cons_succ,Option.getD_some,asAddr,Sem.run_pure,Result.andThen_ok]
  rw [hld]
  rfl
 ·exact ⟨arrOf 4 v.kids,⟨_,_,rfl,H1.out.2.2.2,(H1.out.2.1.keep hks (fun b _ hb e=>by have e':b=w.heap.size:=e;omega)).mono fun b _ hb=>Nat.le_of_lt hb,(H1.out.2.2.1.keep hks (fun b _ hb e=>by have e':b=w.heap.size:=e;omega)).mono fun b _ hb=>Nat.le_of_lt hb⟩,HLO.out⟩
theorem valued_sU64 (v:V) (w:World) (s:Value) (hs:CSl Any_ w 1 s v.kids.length (v.kids.flatMap fun k=>(raw k).cells.toList)) (hk:∀ k ∈ v.kids,k.kind=5/\Tidy k) (hn:v.kids.length<=1000) (hlo:Loosely v (arrOf 5 v.kids)) :
  Calls Tryz.prog 33 #[.iface 124 s] w (Gives2 (ValPost w v)):=by
 have hl:=numbered_u64 (w.alloc (.cells zVal 25)) s v.kids (hs.keep ((Kept.refl Nope w).alloc _) (fun _ _ _ h=>h)) hk hn
 have HL:=hid hl
 have HLO:=hid hlo
 clear hl hs hk hn hlo
 have f_bool:=fun W=>as_no_bool (T:=124) (s) W (by decide)
 have f_u8:=fun W=>as_no_u8 (T:=124) (s) W (by decide)
 have f_u16:=fun W=>as_no_u16 (T:=124) (s) W (by decide)
 have f_u32:=fun W=>as_no_u32 (T:=124) (s) W (by decide)
 have f_u64:=fun W=>as_no_u64 (T:=124) (s) W (by decide)
 have f_i8:=fun W=>as_no_i8 (T:=124) (s) W (by decide)
 have f_i16:=fun W=>as_no_i16 (T:=124) (s) W (by decide)
 have f_i32:=fun W=>as_no_i32 (T:=124) (s) W (by decide)
 have f_i64:=fun W=>as_no_i64 (T:=124) (s) W (by decide)
 have f_f32:=fun W=>as_no_f32 (T:=124) (s) W (by decide)
 have f_f64:=fun W=>as_no_f64 (T:=124) (s) W (by decide)
 have f_Time:=fun W=>as_no_Time (T:=124) (s) W (by decide)
 have f_UUID:=fun W=>as_no_UUID (T:=124) (s) W (by decide)
 have f_bytes:=fun W=>as_no_bytes (T:=124) (s) W (by decide)
 have f_string:=fun W=>as_no_string (T:=124) (s) W (by decide)
 have f_Symbol:=fun W=>as_no_Symbol (T:=124) (s) W (by decide)
 have f_sAny:=fun W=>as_no_sAny (T:=124) (s) W (by decide)
 have f_mAny:=fun W=>as_no_mAny (T:=124) (s) W (by decide)
 have f_mStr:=fun W=>as_no_mStr (T:=124) (s) W (by decide)
 have f_sBool:=fun W=>as_no_sBool (T:=124) (s) W (by decide)
 have f_ArrayUByte:=fun W=>as_no_ArrayUByte (T:=124) (s) W (by decide)
 have f_sU16:=fun W=>as_no_sU16 (T:=124) (s) W (by decide)
 have f_sU32:=fun W=>as_no_sU32 (T:=124) (s) W (by decide)
 have fy:=fun W=>as_yes_sU64 (s) W
 go_enter Tryz.func33,Tryz.ntmps33
 go_wp2_with (go_at_call 68;go_must (refine HL.out.mono ?_;rintro e w1 ⟨y,rfl,hk,ks,ds,rfl,hvn,hv1,hv2⟩;obtain ⟨py,cy,rfl,_⟩:=hv1.form;obtain ⟨pd,cd,rfl,_⟩:=hv2.form;have HR:=hid ((Blk.new w 25 zVal).kept hk (fun h=>h));have H1:=hid (aI (((Kept.refl Nope w).alloc _).trans' hk) (aI (above_one hv1) (aI (above_one hv2) hvn)));clear hk hv1 hv2 hvn;unfold vagg;have rr:=HR.out;unfold zVal at rr;have r0:=rr.cell 0;have r1:=rr.cell 1;have r2:=rr.cell 2;have r3:=rr.cell 3;have r4:=rr.cell 4;have r5:=rr.cell 5;have g0:=rr.frozen 0;have g1:=rr.frozen 1;have g2:=rr.frozen 2;have g3:=rr.frozen 3;have g4:=rr.frozen 4;have g5:=rr.frozen 5;simp only [List.getElem?_toArray,List.getElem?_cons_zero,List.getElem?_cons_succ] at r0 r1 r2 r3 r4 r5;clear rr;simp only [arrOf_kind,arrOf_num,arrOf_text,arrOf_of]))
 (try simp only [Exit.inBlock,Exit.then])
 have hB2:=(((((HR.out.set_ 0 (.int .i64 23)).set_ 1 (.int .u64 0)).set_ 2 (.string ⟨#[]⟩)).set_ 3 (.slice py (arrOf 5 v.kids).kids.length cy)).set_ 4 (.int .i64 5)).set_ 5 (.slice pd (arrOf 5 v.kids).desc.length cd)
 have hld:=run_loadVar_row (P:=Tryz.prog) _ w.heap.size 25 25 _ _ _ hB2 Tryz.underlying25 rfl (by kernel_rfl)
 have hks:Kept (Only w.heap.size) w1 ((((((w1.setCell ⟨w.heap.size,0,none⟩ (.int .i64 23)).setCell ⟨w.heap.size,1,none⟩ (.int .u64 0)).setCell ⟨w.heap.size,2,none⟩ (.string ⟨#[]⟩)).setCell ⟨w.heap.size,3,none⟩ (.slice py (arrOf 5 v.kids).kids.length cy)).setCell ⟨w.heap.size,4,none⟩ (.int .i64 5)).setCell ⟨w.heap.size,5,none⟩ (.slice pd (arrOf 5 v.kids).desc.length cd)):=((((((Kept.refl _ _).set1 0 _).set1 1 _).set1 2 _).set1 3 _).set1 4 _).set1 5 _
 refine bodyPost_ret (v:=.tuple #[.agg #[.int .i64 23,.int .u64 0,.string ⟨#[]⟩,.slice py (arrOf 5 v.kids).kids.length cy,.int .i64 5,.slice pd (arrOf 5 v.kids).desc.length cd],.bool true]) ?_ rfl ⟨_,_,rfl,rfl,H1.out.1.trans hks (fun b hb e=>by have e':b=w.heap.size:=e;omega),?_⟩
 ·rw [results_cell_tmp rfl]
  simp only [Array.getD_eq_getD_getElem?,List.getElem?_toArray,List.getElem?_cons_zero,List.getElem?_cons_succ,Option.getD_some,asAddr,Sem.run_pure,Result.andThen_ok]
  rw [hld]
  rfl
 ·exact ⟨arrOf 5 v.kids,⟨_,_,rfl,H1.out.2.2.2,(H1.out.2.1.keep hks (fun b _ hb e=>by have e':b=w.heap.size:=e;omega)).mono fun b _ hb=>Nat.le_of_lt hb,(H1.out.2.2.1.keep hks (fun b _ hb e=>by have e':b=w.heap.size:=e;omega)).mono fun b _ hb=>Nat.le_of_lt hb⟩,HLO.out⟩
theorem valued_sI8 (v:V) (w:World) (s:Value) (hs:CSl Any_ w 1 s v.kids.length (v.kids.flatMap fun k=>(raw k).cells.toList)) (hk:∀ k ∈ v.kids,k.kind=6/\Tidy k) (hn:v.kids.length<=1000) (hlo:Loosely v (arrOf 6 v.kids)) :
  Calls Tryz.prog 33 #[.iface 127 s] w (Gives2 (ValPost w v)):=by
 have hl:=numbered_i8 (w.alloc (.cells zVal 25)) s v.kids (hs.keep ((Kept.refl Nope w).alloc _) (fun _ _ _ h=>h)) hk hn
 have HL:=hid hl
 have HLO:=hid hlo
 clear hl hs hk hn hlo
 have f_bool:=fun W=>as_no_bool (T:=127) (s) W (by decide)
 have f_u8:=fun W=>as_no_u8 (T:=127) (s) W (by decide)
 have f_u16:=fun W=>as_no_u16 (T:=127) (s) W (by decide)
 have f_u32:=fun W=>as_no_u32 (T:=127) (s) W (by decide)
 have f_u64:=fun W=>as_no_u64 (T:=127) (s) W (by decide)
 have f_i8:=fun W=>as_no_i8 (T:=127) (s) W (by decide)
 have f_i16:=fun W=>as_no_i16 (T:=127) (s) W (by decide)
 have f_i32:=fun W=>as_no_i32 (T:=127) (s) W (by decide)
 have f_i64:=fun W=>as_no_i64 (T:=127) (s) W (by decide)
 have f_f32:=fun W=>as_no_f32 (T:=127) (s) W (by decide)
 have f_f64:=fun W=>as_no_f64 (T:=127) (s) W (by decide)
 have f_Time:=fun W=>as_no_Time (T:=127) (s) W (by decide)
 have f_UUID:=fun W=>as_no_UUID (T:=127) (s) W (by decide)
 have f_bytes:=fun W=>as_no_bytes (T:=127) (s) W (by decide)
 have f_string:=fun W=>as_no_string (T:=127) (s) W (by decide)
 have f_Symbol:=fun W=>as_no_Symbol (T:=127) (s) W (by decide)
 have f_sAny:=fun W=>as_no_sAny (T:=127) (s) W (by decide)
 have f_mAny:=fun W=>as_no_mAny (T:=127) (s) W (by decide)
 have f_mStr:=fun W=>as_no_mStr (T:=127) (s) W (by decide)
 have f_sBool:=fun W=>as_no_sBool (T:=127) (s) W (by decide)
 have f_ArrayUByte:=fun W=>as_no_ArrayUByte (T:=127) (s) W (by decide)
 have f_sU16:=fun W=>as_no_sU16 (T:=127) (s) W (by decide)
 have f_sU32:=fun W=>as_no_sU32 (T:=127) (s) W (by decide)
 have f_sU64:=fun W=>as_no_sU64 (T:=127) (s) W (by decide)
 have fy:=fun W=>as_yes_sI8 (s) W
 go_enter Tryz.func33,Tryz.ntmps33
 go_wp2_with (go_at_call 70;go_must (refine HL.out.mono ?_;rintro e w1 ⟨y,rfl,hk,ks,ds,rfl,hvn,hv1,hv2⟩;obtain ⟨py,cy,rfl,_⟩:=hv1.form;obtain ⟨pd,cd,rfl,_⟩:=hv2.form;have HR:=hid ((Blk.new w 25 zVal).kept hk (fun h=>h));have H1:=hid (aI (((Kept.refl Nope w).alloc _).trans' hk) (aI (above_one hv1) (aI (above_one hv2) hvn)));clear hk hv1 hv2 hvn;unfold vagg;have rr:=HR.out;unfold zVal at rr;have r0:=rr.cell 0;have r1:=rr.cell 1;have r2:=rr.cell 2;have r3:=rr.cell 3;have r4:=rr.cell 4;have r5:=rr.cell 5;have g0:=rr.frozen 0;have g1:=rr.frozen 1;have g2:=rr.frozen 2;have g3:=rr.frozen 3;have g4:=rr.frozen 4;have g5:=rr.frozen 5;simp only [List.getElem?_toArray,List.getElem?_cons_zero,List.getElem?_cons_succ] at r0 r1 r2 r3 r4 r5;clear rr;simp only [arrOf_kind,arrOf_num,arrOf_text,arrOf_of]))
 (try simp only [Exit.inBlock,Exit.then])
 have hB2:=(((((HR.out.set_ 0 (.int .i64 23)).set_ 1 (.int .u64 0)).set_ 2 (.string ⟨#[]⟩)).set_ 3 (.slice py (arrOf 6 v.kids).kids.length cy)).set_ 4 (.int .i64 6)).set_ 5 (.slice pd (arrOf 6 v.kids).desc.length cd)
 have hld:=run_loadVar_row (P:=Tryz.prog) _ w.heap.size 25 25 _ _ _ hB2 Tryz.underlying25 rfl (by kernel_rfl)
 have hks:Kept (Only w.heap.size) w1 ((((((w1.setCell ⟨w.heap.size,0,none⟩ (.int .i64 23)).setCell ⟨w.heap.size,1,none⟩ (.int .u64 0)).setCell ⟨w.heap.size,2,none⟩ (.string ⟨#[]⟩)).setCell ⟨w.heap.size,3,none⟩ (.slice py (arrOf 6 v.kids).kids.length cy)).setCell ⟨w.heap.size,4,none⟩ (.int .i64 6)).setCell ⟨w.heap.size,5,none⟩ (.slice pd (arrOf 6 v.kids).desc.length cd)):=((((((Kept.refl _ _).set1 0 _).set1 1 _).set1 2 _).set1 3 _).set1 4 _).set1 5 _
 refine bodyPost_ret (v:=.tuple #[.agg #[.int .i64 23,.int .u64 0,.string ⟨#[]⟩,.slice py (arrOf 6 v.kids).kids.length cy,.int .i64 6,.slice pd (arrOf 6 v.kids).desc.length cd],.bool true]) ?_ rfl ⟨_,_,rfl,rfl,H1.out.1.trans hks (fun b hb e=>by have e':b=w.heap.size:=e;omega),?_⟩
 ·rw [results_cell_tmp rfl]
  simp only [Array.getD_eq_getD_getElem?,List.getElem?_toArray,List.getElem?_cons_zero,List.getElem?_cons_succ,Option.getD_some,asAddr,Sem.run_pure,Result.andThen_ok]
  rw [hld]
  rfl
 ·exact ⟨arrOf 6 v.kids,⟨_,_,rfl,H1.out.2.2.2,(H1.out.2.1.keep hks (fun b _ hb e=>by have e':b=w.heap.size:=e;omega)).mono fun b _ hb=>Nat.le_of_lt hb,(H1.out.2.2.1.keep hks (fun b _ hb e=>by have e':b=w.heap.size:=e;omega)).mono fun b _ hb=>Nat.le_of_lt hb⟩,HLO.out⟩
end Go.Proofs.YtmdpodeegdjkeaaGreatDoor
