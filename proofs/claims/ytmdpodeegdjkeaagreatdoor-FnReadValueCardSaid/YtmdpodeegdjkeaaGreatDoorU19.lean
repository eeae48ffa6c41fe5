/- Part 19 of the proof of the readers and the guards. No conditions. -/
import Derived.Test.YtmdpodeegdjkeaaGreatDoorU0
import Derived.Test.YtmdpodeegdjkeaaGreatDoorU18
set_option maxRecDepth 100000
set_option maxHeartbeats 3200000
namespace Go.Proofs.YtmdpodeegdjkeaaGreatDoor
open Go Go.RowKit Go.Lib Tryz
theorem info_i16:(prog.info? 103).map (fun i=>(i.zero,i.size,i.bytes))=some (some (.int .i16 0),1,2):=by kernel_rfl
theorem xnD (w0 w:World) (r:Nat) (s:Value) (D:List UInt8) (i0 i j p:Nat) (t:TypeId) (n:Nat) (h0:Buf w0 r s D i0) (hA:At_ w0 w r s D i) (hp:w0.heap.size<=p) (hc:Blk w p t #[.slice none 0 0])
    (hz:0 < n) (hn:n<=65536) (hH:∀ W,Buf W r s D i->Calls prog 183 #[.pointer (some ⟨r,0,none⟩)] W fun e W'=>e = .returned (.tuple #[.int .i64 n,.nilIface])/\At_ W W' r s D j) (hcode:D[j]? = some 97) (hle:j+1+n*2<=D.length) :
    Calls prog 133 #[.pointer (some ⟨p,0,none⟩),.pointer (some ⟨r,0,none⟩)] w (Gives fun e w'=>e = .nilIface/\xbZ w0 r s D (j+1+n*2) p t 1 n ((List.range n).map fun k => .int .i16 (sg 16 (v16 D (j+1) k))) w'):=by
  obtain ⟨i1,hi,hz0,hz1,hz2⟩:=info_parts info_i16;have HB:=hid h0;have HA:=hid (aI hA (aI hc hp));have HH:=hid hH;have hpr:¬ Only r p:=fun e=>by have e':p=r:=e;have:=h0.lt;omega
  have HX:=hid (aI hpr (aI hcode hle));have hz':(0:Int) < (n:Int):=by omega
  have e1:IntKind.i64.wrap ((n:Int)*2)=((n*2:Nat):Int):=by rw [IntWalk.i64_in _ (by omega)];simp
  clear h0 hA hp hc hH hpr hcode hle;go_enter func133,ntmps133;go_wp2_with (first | (go_at_call 183;go_must (refine (HH.out _ HA.out.1.buf).mono ?_;rintro e w1 ⟨rfl,hA1⟩;have H1:=hid (aI (HA.out.1.trans hA1) (HA.out.2.1.kept hA1.kept HX.out.1));have c1:=H1.out.2.cell 0;clear hA1)) | (go_at_call 160;go_must (refine (xaa r s D j _ _ H1.out.1.buf HX.out.2.1).mono ?_;rintro e w2 ⟨rfl,hA2⟩;have H2:=hid (aI (H1.out.1.trans hA2) (H1.out.2.kept hA2.kept HX.out.1));clear hA2)) | (go_at_call 161;go_must (refine (xbd r s D (j+1) _ (n*2) H2.out.1.buf (by have:=HX.out.2.2;omega) (by omega)).mono ?_;rintro e w3 ⟨v,b,rfl,rfl,⟨g,off,c4,rfl,hg,hgc,hcm,hcell⟩,hA3⟩;have H3:=hid (aI (H2.out.1.trans hA3) (aI (H2.out.2.kept hA3.kept HX.out.1) hcell));have c3:=H3.out.2.1.cell 0;clear hA3 hcell)) | (at_make;go_must (refine wpList_make_row _ rfl (.tmp 50) (.tmp 50) 130 rfl 103 i1 (.int .i16 0) underlying130 hi hz0 hz1 rfl .i64 .i64 n rfl rfl (by rw [hz2];omega) (by omega) ?_)));have HI:=hid (AInv.start (e:=103) (cv:=fun k => .int .i16 (sg 16 (v16 D (j+1) k))) (total:=n*1) (z:=.int .i16 0) H3.out.1 H3.out.2.1 HA.out.2.2 (show 0 < n*2 by omega) HX.out.2.2 H3.out.2.2);rw [Nat.mul_one] at HI;generalize hW:w3.alloc (.cells (madeCells #[.int .i16 0] n) 103)=W at HI ⊢;obtain ⟨G,hG⟩:∃ G,w3.heap.size=G:=⟨_,rfl⟩
  rw [hG] at HI ⊢;clear hW hG H1 H2 H3 c1 c3 e1
  go_loopw [57,11] (fun c q w'=>∃ k:Nat,k<=n/\c = .int .i64 k/\q = .int .i64 (2*(k:Int))/\Hid (AInv w0 r s D (j+1+n*2) p t G 103 g off (n*2) (j+1) (fun k => .int .i16 (sg 16 (v16 D (j+1) k))) n k w')) (fun c _ _=>n - (RowKit.intOf c).toNat)
  case atStart=>exact ⟨0,by omega,rfl,rfl,HI⟩
  case round =>
    obtain ⟨k,hk,rfl,rfl,HI⟩:=hrel
    by_cases hkn:k < n
    . have hkn':(k:Int) < (n:Int):=by omega
      have hk0:(0:Int)<=(k:Int):=by omega
      have hl0:(0:Int)<=2*(k:Int):=by omega
      have hl1:2*(k:Int)<=((n*2:Nat):Int):=by omega
      have hl2:2*(k:Int)<=(n:Int)*2:=by omega
      have ht:(2*(k:Int)).toNat=2*k:=by omega
      have hci:¬ c4=2*k:=by omega
      have e2:IntKind.i64.wrap (2*(k:Int)+2)=2*(k:Int)+2:=IntWalk.i64_in _ (by omega);have e3:IntKind.i64.wrap ((k:Int)+1)=(k:Int)+1:=IntWalk.i64_in _ (by omega);have eh:IntKind.i64.wrap (2*(k:Int)+2)=2*(k:Int)+2:=IntWalk.i64_in _ (by omega);have hh1:2*(k:Int)<=2*(k:Int)+2:=by omega
      have hh2:2*(k:Int)+2<=(c4:Int):=by omega
      have hh3:(2*(k:Int)+2).toNat=2*k+2:=by omega
      have hh4:(2*(k:Int)+2).toNat - 2*k=2:=by omega
      have hh5:2*k+2 - 2*k=2:=by omega
      have hcv:IntKind.i16.wrap ((Lib.beNat [at0 D (j+1+2*k),at0 D (j+1+2*k+1)]:Nat):Int)=sg 16 (Lib.beNat [at0 D (j+1+2*k),at0 D (j+1+2*k+1)]):=i16_sg _ (xlB _ _);go_wp2_with (fail)
      go_region_with (go_at_call 184;go_must (refine (Tryz.binary_BE_Uint16 g (off+2*k) 2 (c4 - 2*k) (at0 D (j+1+2*k)) (at0 D (j+1+2*k+1)) _ (by omega) (by exact HI.out.src (2*k) _ (by omega) (xag (by have:=HX.out.2.2;omega))) (by exact HI.out.src (2*k+1) _ (by omega) (xag (by have:=HX.out.2.2;omega)))).mono ?_;rintro e w5 ⟨rfl,hb5⟩;have hI5:=HI.out.nope (((kR Nope wr).drew).trans' (Kept.below hb5 rfl));have HI5:=hid hI5;obtain ⟨⟨u,c5⟩,f5⟩:=hI5.cell_ (i:=k) (by omega);clear hb5 hI5))
      all_goals
       have HI6:=hid (HI5.out.set_ HB.out hkn);go_wp2_with (fail);go_roundw
       case rel=>exact ⟨k+1,by omega,by go_num,by go_num,HI6⟩
       case measure=>simp [RowKit.intOf];omega
    . obtain rfl:k=n:=by omega
      have c4':=HI.out.cell.cell 0;have f4':=HI.out.cell.frozen 0;have hlt:¬ (k:Int) < (k:Int):=by omega
      have hd:=AInv.done (size:=1) (n:=k) (by rw [Nat.mul_one];exact HI.out) HB.out (by unfold maxLen;omega);rw [Nat.mul_one] at hd;have HD:=hid hd;clear hd;go_wp2_with (fail);go_ret;exact ⟨_,rfl,rfl,HD.out⟩
theorem xol:(prog.info? 101).map (fun i=>(i.zero,i.size,i.bytes))=some (some (.int .u32 0),1,4):=by kernel_rfl
theorem xlQ (w0 w:World) (r:Nat) (s:Value) (D:List UInt8) (i0 i j p:Nat) (t:TypeId) (n:Nat) (h0:Buf w0 r s D i0) (hA:At_ w0 w r s D i) (hp:w0.heap.size<=p) (hc:Blk w p t #[.slice none 0 0])
    (hz:0 < n) (hn:n<=65536) (hH:∀ W,Buf W r s D i->Calls prog 183 #[.pointer (some ⟨r,0,none⟩)] W fun e W'=>e = .returned (.tuple #[.int .i64 n,.nilIface])/\At_ W W' r s D j) (hcode:D[j]? = some 112) (hle:j+1+n*4<=D.length) :
    Calls prog 134 #[.pointer (some ⟨p,0,none⟩),.pointer (some ⟨r,0,none⟩)] w (Gives fun e w'=>e = .nilIface/\xbZ w0 r s D (j+1+n*4) p t 1 n ((List.range n).map fun k => .int .u32 (v32 D (j+1) k)) w'):=by
  obtain ⟨i1,hi,hz0,hz1,hz2⟩:=info_parts xol;have HB:=hid h0;have HA:=hid (aI hA (aI hc hp));have HH:=hid hH;have hpr:¬ Only r p:=fun e=>by have e':p=r:=e;have:=h0.lt;omega
  have HX:=hid (aI hpr (aI hcode hle));have hz':(0:Int) < (n:Int):=by omega
  have e1:IntKind.i64.wrap ((n:Int)*4)=((n*4:Nat):Int):=by rw [IntWalk.i64_in _ (by omega)];simp
  clear h0 hA hp hc hH hpr hcode hle;go_enter func134,ntmps134;go_wp2_with (first | (go_at_call 183;go_must (refine (HH.out _ HA.out.1.buf).mono ?_;rintro e w1 ⟨rfl,hA1⟩;have H1:=hid (aI (HA.out.1.trans hA1) (HA.out.2.1.kept hA1.kept HX.out.1));have c1:=H1.out.2.cell 0;clear hA1)) | (go_at_call 160;go_must (refine (xaa r s D j _ _ H1.out.1.buf HX.out.2.1).mono ?_;rintro e w2 ⟨rfl,hA2⟩;have H2:=hid (aI (H1.out.1.trans hA2) (H1.out.2.kept hA2.kept HX.out.1));clear hA2)) | (go_at_call 161;go_must (refine (xbd r s D (j+1) _ (n*4) H2.out.1.buf (by have:=HX.out.2.2;omega) (by omega)).mono ?_;rintro e w3 ⟨v,b,rfl,rfl,⟨g,off,c4,rfl,hg,hgc,hcm,hcell⟩,hA3⟩;have H3:=hid (aI (H2.out.1.trans hA3) (aI (H2.out.2.kept hA3.kept HX.out.1) hcell));have c3:=H3.out.2.1.cell 0;clear hA3 hcell)) | (at_make;go_must (refine wpList_make_row _ rfl (.tmp 109) (.tmp 109) 121 rfl 101 i1 (.int .u32 0) underlying121 hi hz0 hz1 rfl .i64 .i64 n rfl rfl (by rw [hz2];omega) (by omega) ?_)));have HI:=hid (AInv.start (e:=101) (cv:=fun k => .int .u32 (v32 D (j+1) k)) (total:=n*1) (z:=.int .u32 0) H3.out.1 H3.out.2.1 HA.out.2.2 (show 0 < n*4 by omega) HX.out.2.2 H3.out.2.2);rw [Nat.mul_one] at HI;generalize hW:w3.alloc (.cells (madeCells #[.int .u32 0] n) 101)=W at HI ⊢;obtain ⟨G,hG⟩:∃ G,w3.heap.size=G:=⟨_,rfl⟩
  rw [hG] at HI ⊢;clear hW hG H1 H2 H3 c1 c3 e1
  go_loopw [116,16] (fun c q w'=>∃ k:Nat,k<=n/\c = .int .i64 k/\q = .int .i64 (4*(k:Int))/\Hid (AInv w0 r s D (j+1+n*4) p t G 101 g off (n*4) (j+1) (fun k => .int .u32 (v32 D (j+1) k)) n k w')) (fun c _ _=>n - (RowKit.intOf c).toNat)
  case atStart=>exact ⟨0,by omega,rfl,rfl,HI⟩
  case round =>
    obtain ⟨k,hk,rfl,rfl,HI⟩:=hrel
    by_cases hkn:k < n
    . have hkn':(k:Int) < (n:Int):=by omega
      have hk0:(0:Int)<=(k:Int):=by omega
      have hl0:(0:Int)<=4*(k:Int):=by omega
      have hl1:4*(k:Int)<=((n*4:Nat):Int):=by omega
      have hl2:4*(k:Int)<=(n:Int)*4:=by omega
      have ht:(4*(k:Int)).toNat=4*k:=by omega
      have hci:¬ c4=4*k:=by omega
      have e2:IntKind.i64.wrap (4*(k:Int)+4)=4*(k:Int)+4:=IntWalk.i64_in _ (by omega);have e3:IntKind.i64.wrap ((k:Int)+1)=(k:Int)+1:=IntWalk.i64_in _ (by omega);have eh:IntKind.i64.wrap (4*(k:Int)+4)=4*(k:Int)+4:=IntWalk.i64_in _ (by omega);have hh1:4*(k:Int)<=4*(k:Int)+4:=by omega
      have hh2:4*(k:Int)+4<=(c4:Int):=by omega
      have hh3:(4*(k:Int)+4).toNat=4*k+4:=by omega
      have hh4:(4*(k:Int)+4).toNat - 4*k=4:=by omega
      have hh5:4*k+4 - 4*k=4:=by omega
      go_wp2_with (fail)
      go_region_with (go_at_call 162;go_must (refine (Tryz.binary_BE_Uint32 g (off+4*k) 4 (c4 - 4*k) (at0 D (j+1+4*k)) (at0 D (j+1+4*k+1)) (at0 D (j+1+4*k+2)) (at0 D (j+1+4*k+3)) _ (by omega) (by exact HI.out.src (4*k) _ (by omega) (xag (by have:=HX.out.2.2;omega))) (by exact HI.out.src (4*k+1) _ (by omega) (xag (by have:=HX.out.2.2;omega))) (by exact HI.out.src (4*k+2) _ (by omega) (xag (by have:=HX.out.2.2;omega))) (by exact HI.out.src (4*k+3) _ (by omega) (xag (by have:=HX.out.2.2;omega)))).mono ?_;rintro e w5 ⟨rfl,hb5⟩;have hI5:=HI.out.nope (((kR Nope wr).drew).trans' (Kept.below hb5 rfl));have HI5:=hid hI5;obtain ⟨⟨u,c5⟩,f5⟩:=hI5.cell_ (i:=k) (by omega);clear hb5 hI5))
      all_goals
       have HI6:=hid (HI5.out.set_ HB.out hkn);go_wp2_with (fail);go_roundw
       case rel=>exact ⟨k+1,by omega,by go_num,by go_num,HI6⟩
       case measure=>simp [RowKit.intOf];omega
    . obtain rfl:k=n:=by omega
      have c4':=HI.out.cell.cell 0;have f4':=HI.out.cell.frozen 0;have hlt:¬ (k:Int) < (k:Int):=by omega
      have hd:=AInv.done (size:=1) (n:=k) (by rw [Nat.mul_one];exact HI.out) HB.out (by unfold maxLen;omega);rw [Nat.mul_one] at hd;have HD:=hid hd;clear hd;go_wp2_with (fail);go_ret;exact ⟨_,rfl,rfl,HD.out⟩
theorem xon:(prog.info? 21).map (fun i=>(i.zero,i.size,i.bytes))=some (some (.int .i32 0),1,4):=by kernel_rfl
theorem xnB (w0 w:World) (r:Nat) (s:Value) (D:List UInt8) (i0 i j p:Nat) (t:TypeId) (n:Nat) (h0:Buf w0 r s D i0) (hA:At_ w0 w r s D i) (hp:w0.heap.size<=p) (hc:Blk w p t #[.slice none 0 0])
    (hz:0 < n) (hn:n<=65536) (hH:∀ W,Buf W r s D i->Calls prog 183 #[.pointer (some ⟨r,0,none⟩)] W fun e W'=>e = .returned (.tuple #[.int .i64 n,.nilIface])/\At_ W W' r s D j) (hcode:D[j]? = some 113) (hle:j+1+n*4<=D.length) :
    Calls prog 135 #[.pointer (some ⟨p,0,none⟩),.pointer (some ⟨r,0,none⟩)] w (Gives fun e w'=>e = .nilIface/\xbZ w0 r s D (j+1+n*4) p t 1 n ((List.range n).map fun k => .int .i32 (sg 32 (v32 D (j+1) k))) w'):=by
  obtain ⟨i1,hi,hz0,hz1,hz2⟩:=info_parts xon;have HB:=hid h0;have HA:=hid (aI hA (aI hc hp));have HH:=hid hH;have hpr:¬ Only r p:=fun e=>by have e':p=r:=e;have:=h0.lt;omega
  have HX:=hid (aI hpr (aI hcode hle));have hz':(0:Int) < (n:Int):=by omega
  have e1:IntKind.i64.wrap ((n:Int)*4)=((n*4:Nat):Int):=by rw [IntWalk.i64_in _ (by omega)];simp
  clear h0 hA hp hc hH hpr hcode hle;go_enter func135,ntmps135;go_wp2_with (first | (go_at_call 183;go_must (refine (HH.out _ HA.out.1.buf).mono ?_;rintro e w1 ⟨rfl,hA1⟩;have H1:=hid (aI (HA.out.1.trans hA1) (HA.out.2.1.kept hA1.kept HX.out.1));have c1:=H1.out.2.cell 0;clear hA1)) | (go_at_call 160;go_must (refine (xaa r s D j _ _ H1.out.1.buf HX.out.2.1).mono ?_;rintro e w2 ⟨rfl,hA2⟩;have H2:=hid (aI (H1.out.1.trans hA2) (H1.out.2.kept hA2.kept HX.out.1));clear hA2)) | (go_at_call 161;go_must (refine (xbd r s D (j+1) _ (n*4) H2.out.1.buf (by have:=HX.out.2.2;omega) (by omega)).mono ?_;rintro e w3 ⟨v,b,rfl,rfl,⟨g,off,c4,rfl,hg,hgc,hcm,hcell⟩,hA3⟩;have H3:=hid (aI (H2.out.1.trans hA3) (aI (H2.out.2.kept hA3.kept HX.out.1) hcell));have c3:=H3.out.2.1.cell 0;clear hA3 hcell)) | (at_make;go_must (refine wpList_make_row _ rfl (.tmp 89) (.tmp 89) 133 rfl 21 i1 (.int .i32 0) underlying133 hi hz0 hz1 rfl .i64 .i64 n rfl rfl (by rw [hz2];omega) (by omega) ?_)));have HI:=hid (AInv.start (e:=21) (cv:=fun k => .int .i32 (sg 32 (v32 D (j+1) k))) (total:=n*1) (z:=.int .i32 0) H3.out.1 H3.out.2.1 HA.out.2.2 (show 0 < n*4 by omega) HX.out.2.2 H3.out.2.2);rw [Nat.mul_one] at HI;generalize hW:w3.alloc (.cells (madeCells #[.int .i32 0] n) 21)=W at HI ⊢;obtain ⟨G,hG⟩:∃ G,w3.heap.size=G:=⟨_,rfl⟩
  rw [hG] at HI ⊢;clear hW hG H1 H2 H3 c1 c3 e1
  go_loopw [96,15] (fun c q w'=>∃ k:Nat,k<=n/\c = .int .i64 k/\q = .int .i64 (4*(k:Int))/\Hid (AInv w0 r s D (j+1+n*4) p t G 21 g off (n*4) (j+1) (fun k => .int .i32 (sg 32 (v32 D (j+1) k))) n k w')) (fun c _ _=>n - (RowKit.intOf c).toNat)
  case atStart=>exact ⟨0,by omega,rfl,rfl,HI⟩
  case round =>
    obtain ⟨k,hk,rfl,rfl,HI⟩:=hrel
    by_cases hkn:k < n
    . have hkn':(k:Int) < (n:Int):=by omega
      have hk0:(0:Int)<=(k:Int):=by omega
      have hl0:(0:Int)<=4*(k:Int):=by omega
      have hl1:4*(k:Int)<=((n*4:Nat):Int):=by omega
      have hl2:4*(k:Int)<=(n:Int)*4:=by omega
      have ht:(4*(k:Int)).toNat=4*k:=by omega
      have hci:¬ c4=4*k:=by omega
      have e2:IntKind.i64.wrap (4*(k:Int)+4)=4*(k:Int)+4:=IntWalk.i64_in _ (by omega);have e3:IntKind.i64.wrap ((k:Int)+1)=(k:Int)+1:=IntWalk.i64_in _ (by omega);have hcv:wrap32 ((Lib.beNat [at0 D (j+1+4*k),at0 D (j+1+4*k+1),at0 D (j+1+4*k+2),at0 D (j+1+4*k+3)]:Nat):Int)=sg 32 (Lib.beNat [at0 D (j+1+4*k),at0 D (j+1+4*k+1),at0 D (j+1+4*k+2),at0 D (j+1+4*k+3)]):=w32_sg _ (xba _ _ _ _);go_wp2_with (fail)
      go_region_with (go_at_call 162;go_must (refine (Tryz.binary_BE_Uint32 g (off+4*k) (n*4 - 4*k) (c4 - 4*k) (at0 D (j+1+4*k)) (at0 D (j+1+4*k+1)) (at0 D (j+1+4*k+2)) (at0 D (j+1+4*k+3)) _ (by omega) (by exact HI.out.src (4*k) _ (by omega) (xag (by have:=HX.out.2.2;omega))) (by exact HI.out.src (4*k+1) _ (by omega) (xag (by have:=HX.out.2.2;omega))) (by exact HI.out.src (4*k+2) _ (by omega) (xag (by have:=HX.out.2.2;omega))) (by exact HI.out.src (4*k+3) _ (by omega) (xag (by have:=HX.out.2.2;omega)))).mono ?_;rintro e w5 ⟨rfl,hb5⟩;have hI5:=HI.out.nope (((kR Nope wr).drew).trans' (Kept.below hb5 rfl));have HI5:=hid hI5;obtain ⟨⟨u,c5⟩,f5⟩:=hI5.cell_ (i:=k) (by omega);clear hb5 hI5))
      all_goals
       have HI6:=hid (HI5.out.set_ HB.out hkn);go_wp2_with (fail);go_roundw
       case rel=>exact ⟨k+1,by omega,by go_num,by go_num,HI6⟩
       case measure=>simp [RowKit.intOf];omega
    . obtain rfl:k=n:=by omega
      have c4':=HI.out.cell.cell 0;have f4':=HI.out.cell.frozen 0;have hlt:¬ (k:Int) < (k:Int):=by omega
      have hd:=AInv.done (size:=1) (n:=k) (by rw [Nat.mul_one];exact HI.out) HB.out (by unfold maxLen;omega);rw [Nat.mul_one] at hd;have HD:=hid hd;clear hd;go_wp2_with (fail);go_ret;exact ⟨_,rfl,rfl,HD.out⟩
theorem xok:(prog.info? 22).map (fun i=>(i.zero,i.size,i.bytes))=some (some (.int .u64 0),1,8):=by kernel_rfl
theorem xlO (w0 w:World) (r:Nat) (s:Value) (D:List UInt8) (i0 i j p:Nat) (t:TypeId) (n:Nat) (h0:Buf w0 r s D i0) (hA:At_ w0 w r s D i) (hp:w0.heap.size<=p) (hc:Blk w p t #[.slice none 0 0])
    (hz:0 < n) (hn:n<=65536) (hH:∀ W,Buf W r s D i->Calls prog 183 #[.pointer (some ⟨r,0,none⟩)] W fun e W'=>e = .returned (.tuple #[.int .i64 n,.nilIface])/\At_ W W' r s D j) (hcode:D[j]? = some 128) (hle:j+1+n*8<=D.length) :
    Calls prog 136 #[.pointer (some ⟨p,0,none⟩),.pointer (some ⟨r,0,none⟩)] w (Gives fun e w'=>e = .nilIface/\xbZ w0 r s D (j+1+n*8) p t 1 n ((List.range n).map fun k => .int .u64 (v64 D (j+1) k)) w'):=by
  obtain ⟨i1,hi,hz0,hz1,hz2⟩:=info_parts xok;have HB:=hid h0;have HA:=hid (aI hA (aI hc hp));have HH:=hid hH;have hpr:¬ Only r p:=fun e=>by have e':p=r:=e;have:=h0.lt;omega
  have HX:=hid (aI hpr (aI hcode hle));have hz':(0:Int) < (n:Int):=by omega
  have e1:IntKind.i64.wrap ((n:Int)*8)=((n*8:Nat):Int):=by rw [IntWalk.i64_in _ (by omega)];simp
  clear h0 hA hp hc hH hpr hcode hle;go_enter func136,ntmps136;go_wp2_with (first | (go_at_call 183;go_must (refine (HH.out _ HA.out.1.buf).mono ?_;rintro e w1 ⟨rfl,hA1⟩;have H1:=hid (aI (HA.out.1.trans hA1) (HA.out.2.1.kept hA1.kept HX.out.1));have c1:=H1.out.2.cell 0;clear hA1)) | (go_at_call 160;go_must (refine (xaa r s D j _ _ H1.out.1.buf HX.out.2.1).mono ?_;rintro e w2 ⟨rfl,hA2⟩;have H2:=hid (aI (H1.out.1.trans hA2) (H1.out.2.kept hA2.kept HX.out.1));clear hA2)) | (go_at_call 161;go_must (refine (xbd r s D (j+1) _ (n*8) H2.out.1.buf (by have:=HX.out.2.2;omega) (by omega)).mono ?_;rintro e w3 ⟨v,b,rfl,rfl,⟨g,off,c4,rfl,hg,hgc,hcm,hcell⟩,hA3⟩;have H3:=hid (aI (H2.out.1.trans hA3) (aI (H2.out.2.kept hA3.kept HX.out.1) hcell));have c3:=H3.out.2.1.cell 0;clear hA3 hcell)) | (at_make;go_must (refine wpList_make_row _ rfl (.tmp 109) (.tmp 109) 124 rfl 22 i1 (.int .u64 0) underlying124 hi hz0 hz1 rfl .i64 .i64 n rfl rfl (by rw [hz2];omega) (by omega) ?_)));have HI:=hid (AInv.start (e:=22) (cv:=fun k => .int .u64 (v64 D (j+1) k)) (total:=n*1) (z:=.int .u64 0) H3.out.1 H3.out.2.1 HA.out.2.2 (show 0 < n*8 by omega) HX.out.2.2 H3.out.2.2);rw [Nat.mul_one] at HI;generalize hW:w3.alloc (.cells (madeCells #[.int .u64 0] n) 22)=W at HI ⊢;obtain ⟨G,hG⟩:∃ G,w3.heap.size=G:=⟨_,rfl⟩
  rw [hG] at HI ⊢;clear hW hG H1 H2 H3 c1 c3 e1
  go_loopw [116,16] (fun c q w'=>∃ k:Nat,k<=n/\c = .int .i64 k/\q = .int .i64 (8*(k:Int))/\Hid (AInv w0 r s D (j+1+n*8) p t G 22 g off (n*8) (j+1) (fun k => .int .u64 (v64 D (j+1) k)) n k w')) (fun c _ _=>n - (RowKit.intOf c).toNat)
  case atStart=>exact ⟨0,by omega,rfl,rfl,HI⟩
  case round =>
    obtain ⟨k,hk,rfl,rfl,HI⟩:=hrel
    by_cases hkn:k < n
    . have hkn':(k:Int) < (n:Int):=by omega
      have hk0:(0:Int)<=(k:Int):=by omega
      have hl0:(0:Int)<=8*(k:Int):=by omega
      have hl1:8*(k:Int)<=((n*8:Nat):Int):=by omega
      have hl2:8*(k:Int)<=(n:Int)*8:=by omega
      have ht:(8*(k:Int)).toNat=8*k:=by omega
      have hci:¬ c4=8*k:=by omega
      have e2:IntKind.i64.wrap (8*(k:Int)+8)=8*(k:Int)+8:=IntWalk.i64_in _ (by omega);have e3:IntKind.i64.wrap ((k:Int)+1)=(k:Int)+1:=IntWalk.i64_in _ (by omega);have eh:IntKind.i64.wrap (8*(k:Int)+8)=8*(k:Int)+8:=IntWalk.i64_in _ (by omega);have hh1:8*(k:Int)<=8*(k:Int)+8:=by omega
      have hh2:8*(k:Int)+8<=(c4:Int):=by omega
      have hh3:(8*(k:Int)+8).toNat=8*k+8:=by omega
      have hh4:(8*(k:Int)+8).toNat - 8*k=8:=by omega
      have hh5:8*k+8 - 8*k=8:=by omega
      go_wp2_with (fail)
      go_region_with (go_at_call 167;go_must (refine (Tryz.binary_BE_Uint64 g (off+8*k) 8 (c4 - 8*k) (at0 D (j+1+8*k)) (at0 D (j+1+8*k+1)) (at0 D (j+1+8*k+2)) (at0 D (j+1+8*k+3)) (at0 D (j+1+8*k+4)) (at0 D (j+1+8*k+5)) (at0 D (j+1+8*k+6)) (at0 D (j+1+8*k+7)) _ (by omega) (by exact HI.out.src (8*k) _ (by omega) (xag (by have:=HX.out.2.2;omega))) (by exact HI.out.src (8*k+1) _ (by omega) (xag (by have:=HX.out.2.2;omega))) (by exact HI.out.src (8*k+2) _ (by omega) (xag (by have:=HX.out.2.2;omega))) (by exact HI.out.src (8*k+3) _ (by omega) (xag (by have:=HX.out.2.2;omega))) (by exact HI.out.src (8*k+4) _ (by omega) (xag (by have:=HX.out.2.2;omega))) (by exact HI.out.src (8*k+5) _ (by omega) (xag (by have:=HX.out.2.2;omega))) (by exact HI.out.src (8*k+6) _ (by omega) (xag (by have:=HX.out.2.2;omega))) (by exact HI.out.src (8*k+7) _ (by omega) (xag (by have:=HX.out.2.2;omega)))).mono ?_;rintro e w5 ⟨rfl,hb5⟩;have hI5:=HI.out.nope (((kR Nope wr).drew).trans' (Kept.below hb5 rfl));have HI5:=hid hI5;obtain ⟨⟨u,c5⟩,f5⟩:=hI5.cell_ (i:=k) (by omega);clear hb5 hI5))
      all_goals
       have HI6:=hid (HI5.out.set_ HB.out hkn);go_wp2_with (fail);go_roundw
       case rel=>exact ⟨k+1,by omega,by go_num,by go_num,HI6⟩
       case measure=>simp [RowKit.intOf];omega
    . obtain rfl:k=n:=by omega
      have c4':=HI.out.cell.cell 0;have f4':=HI.out.cell.frozen 0;have hlt:¬ (k:Int) < (k:Int):=by omega
      have hd:=AInv.done (size:=1) (n:=k) (by rw [Nat.mul_one];exact HI.out) HB.out (by unfold maxLen;omega);rw [Nat.mul_one] at hd;have HD:=hid hd;clear hd;go_wp2_with (fail);go_ret;exact ⟨_,rfl,rfl,HD.out⟩
theorem xom:(prog.info? 2).map (fun i=>(i.zero,i.size,i.bytes))=some (some (.int .i64 0),1,8):=by kernel_rfl
theorem xnz (w0 w:World) (r:Nat) (s:Value) (D:List UInt8) (i0 i j p:Nat) (t:TypeId) (n:Nat) (h0:Buf w0 r s D i0) (hA:At_ w0 w r s D i) (hp:w0.heap.size<=p) (hc:Blk w p t #[.slice none 0 0])
    (hz:0 < n) (hn:n<=65536) (hH:∀ W,Buf W r s D i->Calls prog 183 #[.pointer (some ⟨r,0,none⟩)] W fun e W'=>e = .returned (.tuple #[.int .i64 n,.nilIface])/\At_ W W' r s D j) (hcode:D[j]? = some 129) (hle:j+1+n*8<=D.length) :
    Calls prog 137 #[.pointer (some ⟨p,0,none⟩),.pointer (some ⟨r,0,none⟩)] w (Gives fun e w'=>e = .nilIface/\xbZ w0 r s D (j+1+n*8) p t 1 n ((List.range n).map fun k => .int .i64 (sg 64 (v64 D (j+1) k))) w'):=by
  obtain ⟨i1,hi,hz0,hz1,hz2⟩:=info_parts xom;have HB:=hid h0;have HA:=hid (aI hA (aI hc hp));have HH:=hid hH;have hpr:¬ Only r p:=fun e=>by have e':p=r:=e;have:=h0.lt;omega
  have HX:=hid (aI hpr (aI hcode hle));have hz':(0:Int) < (n:Int):=by omega
  have e1:IntKind.i64.wrap ((n:Int)*8)=((n*8:Nat):Int):=by rw [IntWalk.i64_in _ (by omega)];simp
  clear h0 hA hp hc hH hpr hcode hle;go_enter func137,ntmps137;go_wp2_with (first | (go_at_call 183;go_must (refine (HH.out _ HA.out.1.buf).mono ?_;rintro e w1 ⟨rfl,hA1⟩;have H1:=hid (aI (HA.out.1.trans hA1) (HA.out.2.1.kept hA1.kept HX.out.1));have c1:=H1.out.2.cell 0;clear hA1)) | (go_at_call 160;go_must (refine (xaa r s D j _ _ H1.out.1.buf HX.out.2.1).mono ?_;rintro e w2 ⟨rfl,hA2⟩;have H2:=hid (aI (H1.out.1.trans hA2) (H1.out.2.kept hA2.kept HX.out.1));clear hA2)) | (go_at_call 161;go_must (refine (xbd r s D (j+1) _ (n*8) H2.out.1.buf (by have:=HX.out.2.2;omega) (by omega)).mono ?_;rintro e w3 ⟨v,b,rfl,rfl,⟨g,off,c4,rfl,hg,hgc,hcm,hcell⟩,hA3⟩;have H3:=hid (aI (H2.out.1.trans hA3) (aI (H2.out.2.kept hA3.kept HX.out.1) hcell));have c3:=H3.out.2.1.cell 0;clear hA3 hcell)) | (at_make;go_must (refine wpList_make_row _ rfl (.tmp 89) (.tmp 89) 136 rfl 2 i1 (.int .i64 0) underlying136 hi hz0 hz1 rfl .i64 .i64 n rfl rfl (by rw [hz2];omega) (by omega) ?_)));have HI:=hid (AInv.start (e:=2) (cv:=fun k => .int .i64 (sg 64 (v64 D (j+1) k))) (total:=n*1) (z:=.int .i64 0) H3.out.1 H3.out.2.1 HA.out.2.2 (show 0 < n*8 by omega) HX.out.2.2 H3.out.2.2);rw [Nat.mul_one] at HI;generalize hW:w3.alloc (.cells (madeCells #[.int .i64 0] n) 2)=W at HI ⊢;obtain ⟨G,hG⟩:∃ G,w3.heap.size=G:=⟨_,rfl⟩
  rw [hG] at HI ⊢;clear hW hG H1 H2 H3 c1 c3 e1
  go_loopw [96,15] (fun c q w'=>∃ k:Nat,k<=n/\c = .int .i64 k/\q = .int .i64 (8*(k:Int))/\Hid (AInv w0 r s D (j+1+n*8) p t G 2 g off (n*8) (j+1) (fun k => .int .i64 (sg 64 (v64 D (j+1) k))) n k w')) (fun c _ _=>n - (RowKit.intOf c).toNat)
  case atStart=>exact ⟨0,by omega,rfl,rfl,HI⟩
  case round =>
    obtain ⟨k,hk,rfl,rfl,HI⟩:=hrel
    by_cases hkn:k < n
    . have hkn':(k:Int) < (n:Int):=by omega
      have hk0:(0:Int)<=(k:Int):=by omega
      have hl0:(0:Int)<=8*(k:Int):=by omega
      have hl1:8*(k:Int)<=((n*8:Nat):Int):=by omega
      have hl2:8*(k:Int)<=(n:Int)*8:=by omega
      have ht:(8*(k:Int)).toNat=8*k:=by omega
      have hci:¬ c4=8*k:=by omega
      have e2:IntKind.i64.wrap (8*(k:Int)+8)=8*(k:Int)+8:=IntWalk.i64_in _ (by omega);have e3:IntKind.i64.wrap ((k:Int)+1)=(k:Int)+1:=IntWalk.i64_in _ (by omega);have hcv:wrap64 ((Lib.beNat [at0 D (j+1+8*k),at0 D (j+1+8*k+1),at0 D (j+1+8*k+2),at0 D (j+1+8*k+3),at0 D (j+1+8*k+4),at0 D (j+1+8*k+5),at0 D (j+1+8*k+6),at0 D (j+1+8*k+7)]:Nat):Int)=sg 64 (Lib.beNat [at0 D (j+1+8*k),at0 D (j+1+8*k+1),at0 D (j+1+8*k+2),at0 D (j+1+8*k+3),at0 D (j+1+8*k+4),at0 D (j+1+8*k+5),at0 D (j+1+8*k+6),at0 D (j+1+8*k+7)]):=xoa _ (xeF _ _ _ _ _ _ _ _);go_wp2_with (fail)
      go_region_with (go_at_call 167;go_must (refine (Tryz.binary_BE_Uint64 g (off+8*k) (n*8 - 8*k) (c4 - 8*k) (at0 D (j+1+8*k)) (at0 D (j+1+8*k+1)) (at0 D (j+1+8*k+2)) (at0 D (j+1+8*k+3)) (at0 D (j+1+8*k+4)) (at0 D (j+1+8*k+5)) (at0 D (j+1+8*k+6)) (at0 D (j+1+8*k+7)) _ (by omega) (by exact HI.out.src (8*k) _ (by omega) (xag (by have:=HX.out.2.2;omega))) (by exact HI.out.src (8*k+1) _ (by omega) (xag (by have:=HX.out.2.2;omega))) (by exact HI.out.src (8*k+2) _ (by omega) (xag (by have:=HX.out.2.2;omega))) (by exact HI.out.src (8*k+3) _ (by omega) (xag (by have:=HX.out.2.2;omega))) (by exact HI.out.src (8*k+4) _ (by omega) (xag (by have:=HX.out.2.2;omega))) (by exact HI.out.src (8*k+5) _ (by omega) (xag (by have:=HX.out.2.2;omega))) (by exact HI.out.src (8*k+6) _ (by omega) (xag (by have:=HX.out.2.2;omega))) (by exact HI.out.src (8*k+7) _ (by omega) (xag (by have:=HX.out.2.2;omega)))).mono ?_;rintro e w5 ⟨rfl,hb5⟩;have hI5:=HI.out.nope (((kR Nope wr).drew).trans' (Kept.below hb5 rfl));have HI5:=hid hI5;obtain ⟨⟨u,c5⟩,f5⟩:=hI5.cell_ (i:=k) (by omega);clear hb5 hI5))
      all_goals
       have HI6:=hid (HI5.out.set_ HB.out hkn);go_wp2_with (fail);go_roundw
       case rel=>exact ⟨k+1,by omega,by go_num,by go_num,HI6⟩
       case measure=>simp [RowKit.intOf];omega
    . obtain rfl:k=n:=by omega
      have c4':=HI.out.cell.cell 0;have f4':=HI.out.cell.frozen 0;have hlt:¬ (k:Int) < (k:Int):=by omega
      have hd:=AInv.done (size:=1) (n:=k) (by rw [Nat.mul_one];exact HI.out) HB.out (by unfold maxLen;omega);rw [Nat.mul_one] at hd;have HD:=hid hd;clear hd;go_wp2_with (fail);go_ret;exact ⟨_,rfl,rfl,HD.out⟩
theorem info_f32:(prog.info? 104).map (fun i=>(i.zero,i.size,i.bytes))=some (some (.float .f32 0),1,4):=by kernel_rfl
theorem xnE (w0 w:World) (r:Nat) (s:Value) (D:List UInt8) (i0 i j p:Nat) (t:TypeId) (n:Nat) (h0:Buf w0 r s D i0) (hA:At_ w0 w r s D i) (hp:w0.heap.size<=p) (hc:Blk w p t #[.slice none 0 0])
    (hz:0 < n) (hn:n<=65536) (hH:∀ W,Buf W r s D i->Calls prog 183 #[.pointer (some ⟨r,0,none⟩)] W fun e W'=>e = .returned (.tuple #[.int .i64 n,.nilIface])/\At_ W W' r s D j) (hcode:D[j]? = some 114) (hle:j+1+n*4<=D.length) :
    Calls prog 138 #[.pointer (some ⟨p,0,none⟩),.pointer (some ⟨r,0,none⟩)] w (Gives fun e w'=>e = .nilIface/\xbZ w0 r s D (j+1+n*4) p t 1 n ((List.range n).map fun k => .float .f32 (v32 D (j+1) k)) w'):=by
  obtain ⟨i1,hi,hz0,hz1,hz2⟩:=info_parts info_f32;have HB:=hid h0;have HA:=hid (aI hA (aI hc hp));have HH:=hid hH;have hpr:¬ Only r p:=fun e=>by have e':p=r:=e;have:=h0.lt;omega
  have HX:=hid (aI hpr (aI hcode hle));have hz':(0:Int) < (n:Int):=by omega
  have e1:IntKind.i64.wrap ((n:Int)*4)=((n*4:Nat):Int):=by rw [IntWalk.i64_in _ (by omega)];simp
  clear h0 hA hp hc hH hpr hcode hle;go_enter func138,ntmps138;go_wp2_with (first | (go_at_call 183;go_must (refine (HH.out _ HA.out.1.buf).mono ?_;rintro e w1 ⟨rfl,hA1⟩;have H1:=hid (aI (HA.out.1.trans hA1) (HA.out.2.1.kept hA1.kept HX.out.1));have c1:=H1.out.2.cell 0;clear hA1)) | (go_at_call 160;go_must (refine (xaa r s D j _ _ H1.out.1.buf HX.out.2.1).mono ?_;rintro e w2 ⟨rfl,hA2⟩;have H2:=hid (aI (H1.out.1.trans hA2) (H1.out.2.kept hA2.kept HX.out.1));clear hA2)) | (go_at_call 161;go_must (refine (xbd r s D (j+1) _ (n*4) H2.out.1.buf (by have:=HX.out.2.2;omega) (by omega)).mono ?_;rintro e w3 ⟨v,b,rfl,rfl,⟨g,off,c4,rfl,hg,hgc,hcm,hcell⟩,hA3⟩;have H3:=hid (aI (H2.out.1.trans hA3) (aI (H2.out.2.kept hA3.kept HX.out.1) hcell));have c3:=H3.out.2.1.cell 0;clear hA3 hcell)) | (at_make;go_must (refine wpList_make_row _ rfl (.tmp 51) (.tmp 51) 139 rfl 104 i1 (.float .f32 0) underlying139 hi hz0 hz1 rfl .i64 .i64 n rfl rfl (by rw [hz2];omega) (by omega) ?_)));have HI:=hid (AInv.start (e:=104) (cv:=fun k => .float .f32 (v32 D (j+1) k)) (total:=n*1) (z:=.float .f32 0) H3.out.1 H3.out.2.1 HA.out.2.2 (show 0 < n*4 by omega) HX.out.2.2 H3.out.2.2);rw [Nat.mul_one] at HI;generalize hW:w3.alloc (.cells (madeCells #[.float .f32 0] n) 104)=W at HI ⊢;obtain ⟨G,hG⟩:∃ G,w3.heap.size=G:=⟨_,rfl⟩
  rw [hG] at HI ⊢;clear hW hG H1 H2 H3 c1 c3 e1
  go_loopw [58,11] (fun c q w'=>∃ k:Nat,k<=n/\c = .int .i64 k/\q = .int .i64 (4*(k:Int))/\Hid (AInv w0 r s D (j+1+n*4) p t G 104 g off (n*4) (j+1) (fun k => .float .f32 (v32 D (j+1) k)) n k w')) (fun c _ _=>n - (RowKit.intOf c).toNat)
  case atStart=>exact ⟨0,by omega,rfl,rfl,HI⟩
  case round =>
    obtain ⟨k,hk,rfl,rfl,HI⟩:=hrel
    by_cases hkn:k < n
    . have hkn':(k:Int) < (n:Int):=by omega
      have hk0:(0:Int)<=(k:Int):=by omega
      have hl0:(0:Int)<=4*(k:Int):=by omega
      have hl1:4*(k:Int)<=((n*4:Nat):Int):=by omega
      have hl2:4*(k:Int)<=(n:Int)*4:=by omega
      have ht:(4*(k:Int)).toNat=4*k:=by omega
      have hci:¬ c4=4*k:=by omega
      have e2:IntKind.i64.wrap (4*(k:Int)+4)=4*(k:Int)+4:=IntWalk.i64_in _ (by omega);have e3:IntKind.i64.wrap ((k:Int)+1)=(k:Int)+1:=IntWalk.i64_in _ (by omega);have hfl:=fun W=>xdv (Lib.beNat [at0 D (j+1+4*k),at0 D (j+1+4*k+1),at0 D (j+1+4*k+2),at0 D (j+1+4*k+3)]) W
      have hsf:=fun W a n m=>run_store prog W a (.float .f32 n) m rfl
      go_wp2_with (fail)
      go_region_with (go_at_call 162;go_must (refine (Tryz.binary_BE_Uint32 g (off+4*k) (n*4 - 4*k) (c4 - 4*k) (at0 D (j+1+4*k)) (at0 D (j+1+4*k+1)) (at0 D (j+1+4*k+2)) (at0 D (j+1+4*k+3)) _ (by omega) (by exact HI.out.src (4*k) _ (by omega) (xag (by have:=HX.out.2.2;omega))) (by exact HI.out.src (4*k+1) _ (by omega) (xag (by have:=HX.out.2.2;omega))) (by exact HI.out.src (4*k+2) _ (by omega) (xag (by have:=HX.out.2.2;omega))) (by exact HI.out.src (4*k+3) _ (by omega) (xag (by have:=HX.out.2.2;omega)))).mono ?_;rintro e w5 ⟨rfl,hb5⟩;have hI5:=HI.out.nope (((kR Nope wr).drew).trans' (Kept.below hb5 rfl));have HI5:=hid hI5;obtain ⟨⟨u,c5⟩,f5⟩:=hI5.cell_ (i:=k) (by omega);clear hb5 hI5))
      all_goals
       have HI6:=hid (HI5.out.set_ HB.out hkn);go_wp2_with (fail);go_roundw
       case rel=>exact ⟨k+1,by omega,by go_num,by go_num,HI6⟩
       case measure=>simp [RowKit.intOf];omega
    . obtain rfl:k=n:=by omega
      have c4':=HI.out.cell.cell 0;have f4':=HI.out.cell.frozen 0;have hlt:¬ (k:Int) < (k:Int):=by omega
      have hd:=AInv.done (size:=1) (n:=k) (by rw [Nat.mul_one];exact HI.out) HB.out (by unfold maxLen;omega);rw [Nat.mul_one] at hd;have HD:=hid hd;clear hd;go_wp2_with (fail);go_ret;exact ⟨_,rfl,rfl,HD.out⟩
theorem info_f64:(prog.info? 106).map (fun i=>(i.zero,i.size,i.bytes))=some (some (.float .f64 0),1,8):=by kernel_rfl
theorem xlY (w0 w:World) (r:Nat) (s:Value) (D:List UInt8) (i0 i j p:Nat) (t:TypeId) (n:Nat) (h0:Buf w0 r s D i0) (hA:At_ w0 w r s D i) (hp:w0.heap.size<=p) (hc:Blk w p t #[.slice none 0 0])
    (hz:0 < n) (hn:n<=65536) (hH:∀ W,Buf W r s D i->Calls prog 183 #[.pointer (some ⟨r,0,none⟩)] W fun e W'=>e = .returned (.tuple #[.int .i64 n,.nilIface])/\At_ W W' r s D j) (hcode:D[j]? = some 130) (hle:j+1+n*8<=D.length) :
    Calls prog 139 #[.pointer (some ⟨p,0,none⟩),.pointer (some ⟨r,0,none⟩)] w (Gives fun e w'=>e = .nilIface/\xbZ w0 r s D (j+1+n*8) p t 1 n ((List.range n).map fun k => .float .f64 (v64 D (j+1) k)) w'):=by
  obtain ⟨i1,hi,hz0,hz1,hz2⟩:=info_parts info_f64;have HB:=hid h0;have HA:=hid (aI hA (aI hc hp));have HH:=hid hH;have hpr:¬ Only r p:=fun e=>by have e':p=r:=e;have:=h0.lt;omega
  have HX:=hid (aI hpr (aI hcode hle));have hz':(0:Int) < (n:Int):=by omega
  have e1:IntKind.i64.wrap ((n:Int)*8)=((n*8:Nat):Int):=by rw [IntWalk.i64_in _ (by omega)];simp
  clear h0 hA hp hc hH hpr hcode hle;go_enter func139,ntmps139;go_wp2_with (first | (go_at_call 183;go_must (refine (HH.out _ HA.out.1.buf).mono ?_;rintro e w1 ⟨rfl,hA1⟩;have H1:=hid (aI (HA.out.1.trans hA1) (HA.out.2.1.kept hA1.kept HX.out.1));have c1:=H1.out.2.cell 0;clear hA1)) | (go_at_call 160;go_must (refine (xaa r s D j _ _ H1.out.1.buf HX.out.2.1).mono ?_;rintro e w2 ⟨rfl,hA2⟩;have H2:=hid (aI (H1.out.1.trans hA2) (H1.out.2.kept hA2.kept HX.out.1));clear hA2)) | (go_at_call 161;go_must (refine (xbd r s D (j+1) _ (n*8) H2.out.1.buf (by have:=HX.out.2.2;omega) (by omega)).mono ?_;rintro e w3 ⟨v,b,rfl,rfl,⟨g,off,c4,rfl,hg,hgc,hcm,hcell⟩,hA3⟩;have H3:=hid (aI (H2.out.1.trans hA3) (aI (H2.out.2.kept hA3.kept HX.out.1) hcell));have c3:=H3.out.2.1.cell 0;clear hA3 hcell)) | (at_make;go_must (refine wpList_make_row _ rfl (.tmp 51) (.tmp 51) 142 rfl 106 i1 (.float .f64 0) underlying142 hi hz0 hz1 rfl .i64 .i64 n rfl rfl (by rw [hz2];omega) (by omega) ?_)));have HI:=hid (AInv.start (e:=106) (cv:=fun k => .float .f64 (v64 D (j+1) k)) (total:=n*1) (z:=.float .f64 0) H3.out.1 H3.out.2.1 HA.out.2.2 (show 0 < n*8 by omega) HX.out.2.2 H3.out.2.2);rw [Nat.mul_one] at HI;generalize hW:w3.alloc (.cells (madeCells #[.float .f64 0] n) 106)=W at HI ⊢;obtain ⟨G,hG⟩:∃ G,w3.heap.size=G:=⟨_,rfl⟩
  rw [hG] at HI ⊢;clear hW hG H1 H2 H3 c1 c3 e1
  go_loopw [58,11] (fun c q w'=>∃ k:Nat,k<=n/\c = .int .i64 k/\q = .int .i64 (8*(k:Int))/\Hid (AInv w0 r s D (j+1+n*8) p t G 106 g off (n*8) (j+1) (fun k => .float .f64 (v64 D (j+1) k)) n k w')) (fun c _ _=>n - (RowKit.intOf c).toNat)
  case atStart=>exact ⟨0,by omega,rfl,rfl,HI⟩
  case round =>
    obtain ⟨k,hk,rfl,rfl,HI⟩:=hrel
    by_cases hkn:k < n
    . have hkn':(k:Int) < (n:Int):=by omega
      have hk0:(0:Int)<=(k:Int):=by omega
      have hl0:(0:Int)<=8*(k:Int):=by omega
      have hl1:8*(k:Int)<=((n*8:Nat):Int):=by omega
      have hl2:8*(k:Int)<=(n:Int)*8:=by omega
      have ht:(8*(k:Int)).toNat=8*k:=by omega
      have hci:¬ c4=8*k:=by omega
      have e2:IntKind.i64.wrap (8*(k:Int)+8)=8*(k:Int)+8:=IntWalk.i64_in _ (by omega);have e3:IntKind.i64.wrap ((k:Int)+1)=(k:Int)+1:=IntWalk.i64_in _ (by omega);have hfl:=fun W=>xdu (Lib.beNat [at0 D (j+1+8*k),at0 D (j+1+8*k+1),at0 D (j+1+8*k+2),at0 D (j+1+8*k+3),at0 D (j+1+8*k+4),at0 D (j+1+8*k+5),at0 D (j+1+8*k+6),at0 D (j+1+8*k+7)]) W
      have hsf:=fun W a n m=>run_store prog W a (.float .f64 n) m rfl
      go_wp2_with (fail)
      go_region_with (go_at_call 167;go_must (refine (Tryz.binary_BE_Uint64 g (off+8*k) (n*8 - 8*k) (c4 - 8*k) (at0 D (j+1+8*k)) (at0 D (j+1+8*k+1)) (at0 D (j+1+8*k+2)) (at0 D (j+1+8*k+3)) (at0 D (j+1+8*k+4)) (at0 D (j+1+8*k+5)) (at0 D (j+1+8*k+6)) (at0 D (j+1+8*k+7)) _ (by omega) (by exact HI.out.src (8*k) _ (by omega) (xag (by have:=HX.out.2.2;omega))) (by exact HI.out.src (8*k+1) _ (by omega) (xag (by have:=HX.out.2.2;omega))) (by exact HI.out.src (8*k+2) _ (by omega) (xag (by have:=HX.out.2.2;omega))) (by exact HI.out.src (8*k+3) _ (by omega) (xag (by have:=HX.out.2.2;omega))) (by exact HI.out.src (8*k+4) _ (by omega) (xag (by have:=HX.out.2.2;omega))) (by exact HI.out.src (8*k+5) _ (by omega) (xag (by have:=HX.out.2.2;omega))) (by exact HI.out.src (8*k+6) _ (by omega) (xag (by have:=HX.out.2.2;omega))) (by exact HI.out.src (8*k+7) _ (by omega) (xag (by have:=HX.out.2.2;omega)))).mono ?_;rintro e w5 ⟨rfl,hb5⟩;have hI5:=HI.out.nope (((kR Nope wr).drew).trans' (Kept.below hb5 rfl));have HI5:=hid hI5;obtain ⟨⟨u,c5⟩,f5⟩:=hI5.cell_ (i:=k) (by omega);clear hb5 hI5))
      all_goals
       have HI6:=hid (HI5.out.set_ HB.out hkn);go_wp2_with (fail);go_roundw
       case rel=>exact ⟨k+1,by omega,by go_num,by go_num,HI6⟩
       case measure=>simp [RowKit.intOf];omega
    . obtain rfl:k=n:=by omega
      have c4':=HI.out.cell.cell 0;have f4':=HI.out.cell.frozen 0;have hlt:¬ (k:Int) < (k:Int):=by omega
      have hd:=AInv.done (size:=1) (n:=k) (by rw [Nat.mul_one];exact HI.out) HB.out (by unfold maxLen;omega);rw [Nat.mul_one] at hd;have HD:=hid hd;clear hd;go_wp2_with (fail);go_ret;exact ⟨_,rfl,rfl,HD.out⟩
end Go.Proofs.YtmdpodeegdjkeaaGreatDoor
