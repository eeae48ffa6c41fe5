/- FnReadValue, part 1 (texts Gn1 Gn2 Dat Zz1 RdT RdK HdN LwK OpH LsA). No conditions. -/
import Derived.Laws.ResultCell
import Derived.Laws.Tables
import Derived.Laws.CopyOwn
import Derived.Deep.OwnRows
import Derived.LoopTactic
import Derived.IntWalk
import Derived.Outline
import Derived.OrdersHeld
import Derived.Maps.Own
import Derived.Deep.RegionHeld3
import Derived.Deep.DrawnRows
import Derived.Defers
import Derived.Recover
import Derived.Test.YtmdpodeegdjkeaaGreatDoorU2
import Derived.Test.YtmdpodeegdjkeaaGreatDoorU3
import Derived.Test.YtmdpodeegdjkeaaGreatDoorU4
import Derived.Test.YtmdpodeegdjkeaaGreatDoorU5
import Derived.Test.YtmdpodeegdjkeaaGreatDoorU6
import Derived.Test.YtmdpodeegdjkeaaGreatDoorU7
import Derived.Test.YtmdpodeegdjkeaaGreatDoorU9
import Derived.Test.YtmdpodeegdjkeaaGreatDoorU17
import Derived.Test.YtmdpodeegdjkeaaGreatDoorU18
import Derived.Test.YtmdpodeegdjkeaaGreatDoorU27
import Derived.Test.YtmdpodeegdjkeaaGreatDoorU36
import Derived.Test.YtmdpodeegdjkeaaGreatDoorU35
import Derived.Test.YtmdpodeegdjkeaaGreatDoorU31
import Derived.Test.YtmdpodeegdjkeaaGreatDoorU8
import Derived.Test.YtmdpodeegdjkeaaGreatDoorU22
import Derived.Test.YtmdpodeegdjkeaaGreatDoorU34
import Derived.Test.YtmdpodeegdjkeaaGreatDoorU25
import Derived.Test.YtmdpodeegdjkeaaGreatDoorEV0
set_option maxRecDepth 100000
set_option maxHeartbeats 3200000
namespace Go.Proofs.YtmdpodeegdjkeaaGreatDoor
open Go Go.RowKit Go.Lib Tryz
section
variable (r:Nat) (s:Value) (D:List UInt8) (i:Nat) (w:World)
theorem xey (h:Buf w r s D i) (hc:D[i]? = some 208) (hl:D.length < i+9) :
  Calls prog 104 #[.pointer (some ⟨r,0,none⟩)] w (Fails w r):=by
  have ht:=xaa r s D i w _ h hc;have HT:=hid ht;clear ht h hc;go_enter func104,ntmps104;go_wp2_with ((go_at_call 160;go_must (refine HT.out.mono ?_;rintro e w1 ⟨rfl,hA1⟩;have H1:=hid hA1;clear hA1)));go_wp2_with ((go_at_call 105;go_must (refine (xaY r s D (i+1) _ H1.out.buf).mono ?_;rintro e w2 ⟨rfl,k2,rfl⟩;have H2:=hid (H1.out.drewN k2))));go_wp2_with ((go_at_call 161;go_must (refine (xcM r s D (i+1) _ 8 H2.out.buf (by omega) (by omega)).mono ?_;rintro e w3 ⟨v,b,rfl,rfl,hA3⟩;have H3:=hid (H2.out.trans hA3);clear hA3)));go_wp2_with ((go_at_call 55;go_must (refine (xah _ _).mono ?_;rintro e w9 ⟨v9,rfl,⟨T,z,rfl⟩,hK9⟩;have H9:=hid (H3.out.nope hK9);clear hK9)));go_ret2;exact ⟨_,_,rfl,⟨_,_,rfl⟩,H9.out.kept⟩
theorem xfj (x0 x1 x2 x3 x4 x5 x6 x7:UInt8) (h:Buf w r s D i) (hc:D[i]? = some 208) (h0:D[i+1]? = some x0/\D[i+2]? = some x1/\D[i+3]? = some x2/\D[i+4]? = some x3/\D[i+5]? = some x4/\D[i+6]? = some x5/\D[i+7]? = some x6/\D[i+8]? = some x7) (hl:D.length < i+5+Lib.beNat [x0,x1,x2,x3]) :
  Calls prog 104 #[.pointer (some ⟨r,0,none⟩)] w (Fails w r):=by
  have ht:=xaa r s D i w _ h hc;have HT:=hid ht;have hb:=xba x0 x1 x2 x3;have hb':=xba x4 x5 x6 x7;generalize hN:Lib.beNat [x0,x1,x2,x3]=N at *;generalize hM:Lib.beNat [x4,x5,x6,x7]=M at *;have HN:=hid (aI hN hM);have hx1:(N:Int)<=4294967295:=by omega
  have hx2:(0:Int)<=N:=by omega
  have hx3:(M:Int)<=4294967295:=by omega
  have hx4:(0:Int)<=M:=by omega
  have HX:=hid h0;have hle:=h.le;have hsm:=h.small;have hi9:=(gi.1 h0.2.2.2.2.2.2.2).1;clear ht h hc h0 hN hM hb hb';have e1:IntKind.i64.wrap ((D.length:Int) - ↑(i+1) - 4)=(D.length:Int) - ↑(i+1) - 4:=IntWalk.i64_in _ (by omega);go_enter func104,ntmps104;go_wp2_with ((go_at_call 160;go_must (refine HT.out.mono ?_;rintro e w1 ⟨rfl,hA1⟩;have H1:=hid hA1;clear hA1)));go_wp2_with ((go_at_call 105;go_must (refine (xaY r s D (i+1) _ H1.out.buf).mono ?_;rintro e w2 ⟨rfl,k2,rfl⟩;have H2:=hid (H1.out.drewN k2))));go_wp2_with ((go_at_call 161;go_must (refine (xbd r s D (i+1) _ 8 H2.out.buf (by omega) (by omega)).mono ?_;rintro e w3 ⟨v,b,rfl,rfl,⟨g,off,c4,rfl,hg,hgc,hcm,hcell⟩,hA2⟩;have HQ:=hid (eight HX.out hcell);have q7:=HQ.out.2.2;have hc48:¬ c4=4:=(by omega);have hc8:(8:Int)<=(c4:Int):=(by omega);have hc44:(4:Int)<=(c4:Int):=(by omega);clear hcell;have H3:=hid (H2.out.trans hA2);clear hA2 hg hcm)));refine wp_region_tail 3 (by kernel_rfl) (by kernel_rfl) (fun K hK => ?_);simp only [List.take_succ_cons,List.take_zero,List.drop_succ_cons,List.drop_zero] at hK ⊢
  repeat still_step
  refine wpStill_nil (hK _ ?_);clear hK K;go_wp2_with (first | (go_at_call 162;go_must (refine (xfl _ g off 4 c4 x0 x1 x2 x3 (by omega) (by exact HQ.out.1)).mono ?_;rw [HN.out.1];rintro e w5 ⟨rfl,hK5⟩;have HQ5:=hid (fun j x hx=>hK5.cell (HQ.out.2.1 j x hx) (fun h=>h));have H5:=hid (H3.out.drew.nope hK5);clear hK5)) | (go_at_call 55;go_must (refine (xah _ _).mono ?_;rintro e w9 ⟨v9,rfl,⟨T,z,rfl⟩,hK9⟩;have H9:=hid (H5.out.nope hK9);clear hK9)));go_ret2;exact ⟨_,_,rfl,⟨_,_,rfl⟩,H9.out.kept⟩
theorem xeA (x0 x1 x2 x3 x4 x5 x6 x7:UInt8) (h:Buf w r s D i) (hc:D[i]? = some 240) (h0:D[i+1]? = some x0/\D[i+2]? = some x1/\D[i+3]? = some x2/\D[i+4]? = some x3/\D[i+5]? = some x4/\D[i+6]? = some x5/\D[i+7]? = some x6/\D[i+8]? = some x7) (hl:D.length < i+5+Lib.beNat [x0,x1,x2,x3]) :
  Calls prog 183 #[.pointer (some ⟨r,0,none⟩)] w (Fails w r):=by
  have ht:=xaa r s D i w _ h hc;have HT:=hid ht;have hb:=xba x0 x1 x2 x3;have hb':=xba x4 x5 x6 x7;generalize hN:Lib.beNat [x0,x1,x2,x3]=N at *;generalize hM:Lib.beNat [x4,x5,x6,x7]=M at *;have HN:=hid (aI hN hM);have hx1:(N:Int)<=4294967295:=by omega
  have hx2:(0:Int)<=N:=by omega
  have hx3:(M:Int)<=4294967295:=by omega
  have hx4:(0:Int)<=M:=by omega
  have HX:=hid h0;have hle:=h.le;have hsm:=h.small;have hi9:=(gi.1 h0.2.2.2.2.2.2.2).1;clear ht h hc h0 hN hM hb hb';have e1:IntKind.i64.wrap ((D.length:Int) - ↑(i+1) - 4)=(D.length:Int) - ↑(i+1) - 4:=IntWalk.i64_in _ (by omega);go_enter func183,ntmps183;go_wp2_with ((go_at_call 160;go_must (refine HT.out.mono ?_;rintro e w1 ⟨rfl,hA1⟩;have H1:=hid hA1;clear hA1)));go_wp2_with ((go_at_call 105;go_must (refine (xaY r s D (i+1) _ H1.out.buf).mono ?_;rintro e w2 ⟨rfl,k2,rfl⟩;have H2:=hid (H1.out.drewN k2))));go_wp2_with ((go_at_call 161;go_must (refine (xbd r s D (i+1) _ 8 H2.out.buf (by omega) (by omega)).mono ?_;rintro e w3 ⟨v,b,rfl,rfl,⟨g,off,c4,rfl,hg,hgc,hcm,hcell⟩,hA2⟩;have HQ:=hid (eight HX.out hcell);have q7:=HQ.out.2.2;have hc48:¬ c4=4:=(by omega);have hc8:(8:Int)<=(c4:Int):=(by omega);have hc44:(4:Int)<=(c4:Int):=(by omega);clear hcell;have H3:=hid (H2.out.trans hA2);clear hA2 hg hcm)));refine wp_region_tail 3 (by kernel_rfl) (by kernel_rfl) (fun K hK => ?_);simp only [List.take_succ_cons,List.take_zero,List.drop_succ_cons,List.drop_zero] at hK ⊢
  repeat still_step
  refine wpStill_nil (hK _ ?_);clear hK K;go_wp2_with (first | (go_at_call 162;go_must (refine (xfl _ g off 4 c4 x0 x1 x2 x3 (by omega) (by exact HQ.out.1)).mono ?_;rw [HN.out.1];rintro e w5 ⟨rfl,hK5⟩;have HQ5:=hid (fun j x hx=>hK5.cell (HQ.out.2.1 j x hx) (fun h=>h));have H5:=hid (H3.out.drew.nope hK5);clear hK5)) | (go_at_call 55;go_must (refine (xah _ _).mono ?_;rintro e w9 ⟨v9,rfl,⟨T,z,rfl⟩,hK9⟩;have H9:=hid (H5.out.nope hK9);clear hK9)));go_ret2;exact ⟨_,_,rfl,⟨_,_,rfl⟩,H9.out.kept⟩
end
section
variable (r:Nat) (s:Value) (D:List UInt8) (i:Nat) (w:World)
theorem xfz (h:Buf w r s D i) (hx:D.length<=i) :
  Calls prog 104 #[.pointer (some ⟨r,0,none⟩)] w (Fails w r):=by
  have ht:=xhO r s D i w h hx;have HT:=hid ht;clear ht h hx;go_enter func104,ntmps104;go_wp2_with ((go_at_call 160;go_must (refine HT.out.mono ?_;rintro e w1 ⟨x,v,rfl,rfl,⟨T,z,rfl⟩,hA1⟩;have H1:=hid hA1;clear hA1)));go_ret2;exact ⟨_,_,rfl,⟨_,_,rfl⟩,H1.out.kept⟩
theorem xcm (c:UInt8) (h:Buf w r s D i) (hc:D[i]? = some c) (hn:c≠69/\c≠192/\c≠208) :
  Calls prog 104 #[.pointer (some ⟨r,0,none⟩)] w (Fails w r):=by
  have hn':¬ (c.toNat:Int)=69/\¬ (c.toNat:Int)=192/\¬ (c.toNat:Int)=208:=by
   refine ⟨fun e=>hn.1 (UInt8.toNat.inj (Int.ofNat.inj e)),fun e=>hn.2.1 (UInt8.toNat.inj (Int.ofNat.inj e)),fun e=>hn.2.2 (UInt8.toNat.inj (Int.ofNat.inj e))⟩
  obtain ⟨n0,n1,n2⟩:=hn';have ht:=xaa r s D i w _ h hc;have HT:=hid ht;have hle:=h.le;have hsm:=h.small;clear ht h hc hn;go_enter func104,ntmps104;go_wp2_with (first | (go_at_call 160;go_must (refine HT.out.mono ?_;rintro e w1 ⟨rfl,hA1⟩;have H1:=hid hA1;clear hA1)) | (go_at_call 105;go_must (refine (xaY r s D (i+1) _ H1.out.buf).mono ?_;rintro e w2 ⟨rfl,k2,rfl⟩;have H2:=hid (H1.out.drewN k2))) | (go_at_call 55;go_must (refine (xah _ _).mono ?_;rintro e w9 ⟨v9,rfl,⟨T,z,rfl⟩,hK9⟩;have H9:=hid (H2.out.nope hK9);clear hK9)));go_ret2;exact ⟨_,_,rfl,⟨_,_,rfl⟩,H9.out.kept⟩
theorem xfx (h:Buf w r s D i) (hl:D.length < i+2) :
  Calls prog 152 #[.pointer (some ⟨r,0,none⟩)] w (Fails w r):=by
  have HB:=hid h;clear h;go_enter func152,ntmps152;go_wp2_with ((go_at_call 105;go_must (refine (xaY r s D i _ HB.out).mono ?_;rintro e w2 ⟨rfl,k2,rfl⟩;have H2:=hid ((At_.refl HB.out).drewN k2))));go_wp2_with ((go_at_call 161;go_must (refine (xcM r s D (i) _ 2 H2.out.buf (by omega) (by omega)).mono ?_;rintro e w3 ⟨v,b,rfl,rfl,hA3⟩;have H3:=hid (H2.out.trans hA3);clear hA3)));go_wp2_with ((go_at_call 55;go_must (refine (xah _ _).mono ?_;rintro e w9 ⟨v9,rfl,⟨T,z,rfl⟩,hK9⟩;have H9:=hid (H3.out.nope hK9);clear hK9)));go_ret2;exact ⟨_,_,rfl,⟨_,_,rfl⟩,H9.out.kept⟩
theorem xfR (x0 x1:UInt8) (h:Buf w r s D i) (h0:D[i]? = some x0) (h1:D[i+1]? = some x1) (hl:D.length < i+1+x0.toNat) :
  Calls prog 152 #[.pointer (some ⟨r,0,none⟩)] w (Fails w r):=by
  have HB:=hid h;have hx0:=x0.toNat_lt;have hx1:=x1.toNat_lt;have hi2:=(gi.1 h1).1;have HX:=hid (aI h0 h1);have hsm:=h.small;clear h h0 h1;have e1:IntKind.i64.wrap ((D.length:Int) - ↑i - 1)=(D.length:Int) - ↑i - 1:=IntWalk.i64_in _ (by omega);go_enter func152,ntmps152;go_wp2_with ((go_at_call 105;go_must (refine (xaY r s D i _ HB.out).mono ?_;rintro e w2 ⟨rfl,k2,rfl⟩;have H2:=hid ((At_.refl HB.out).drewN k2))));go_wp2_with (first | (go_at_call 161;go_must (refine (xbd r s D (i) _ 2 H2.out.buf (by omega) (by omega)).mono ?_;rintro e w3 ⟨v,b,rfl,rfl,⟨g,off,c4,rfl,hg,hgc,hcm,hcell⟩,hA2⟩;have q0:=hcell 0 x0 (by omega) (by exact HX.out.1);have q1:=hcell 1 x1 (by omega) (by exact HX.out.2);rw [Nat.add_zero] at q0;clear hcell;have H3:=hid (H2.out.trans hA2);clear hA2 hg hcm)) | (go_at_call 55;go_must (refine (xah _ _).mono ?_;rintro e w9 ⟨v9,rfl,⟨T,z,rfl⟩,hK9⟩;have H9:=hid (H3.out.nope hK9);clear hK9)));go_ret2;exact ⟨_,_,rfl,⟨_,_,rfl⟩,H9.out.kept⟩
theorem xfi (h:Buf w r s D i) (hl:D.length < i+8) :
  Calls prog 153 #[.pointer (some ⟨r,0,none⟩)] w (Fails w r):=by
  have HB:=hid h;clear h;go_enter func153,ntmps153;go_wp2_with ((go_at_call 105;go_must (refine (xaY r s D i _ HB.out).mono ?_;rintro e w2 ⟨rfl,k2,rfl⟩;have H2:=hid ((At_.refl HB.out).drewN k2))));go_wp2_with ((go_at_call 161;go_must (refine (xcM r s D (i) _ 8 H2.out.buf (by omega) (by omega)).mono ?_;rintro e w3 ⟨v,b,rfl,rfl,hA3⟩;have H3:=hid (H2.out.trans hA3);clear hA3)));go_wp2_with ((go_at_call 55;go_must (refine (xah _ _).mono ?_;rintro e w9 ⟨v9,rfl,⟨T,z,rfl⟩,hK9⟩;have H9:=hid (H3.out.nope hK9);clear hK9)));go_ret2;exact ⟨_,_,rfl,⟨_,_,rfl⟩,H9.out.kept⟩
theorem xfy (x0 x1 x2 x3 x4 x5 x6 x7:UInt8) (h:Buf w r s D i) (h0:D[i]? = some x0/\D[i+1]? = some x1/\D[i+2]? = some x2/\D[i+3]? = some x3/\D[i+4]? = some x4/\D[i+5]? = some x5/\D[i+6]? = some x6/\D[i+7]? = some x7) (hl:D.length < i+4+Lib.beNat [x0,x1,x2,x3]) :
  Calls prog 153 #[.pointer (some ⟨r,0,none⟩)] w (Fails w r):=by
  have HB:=hid h;have hb:=xba x0 x1 x2 x3;have hb':=xba x4 x5 x6 x7;generalize hN:Lib.beNat [x0,x1,x2,x3]=N at *;generalize hM:Lib.beNat [x4,x5,x6,x7]=M at *;have HN:=hid (aI hN hM);have hx1:(N:Int)<=4294967295:=by omega
  have hx2:(0:Int)<=N:=by omega
  have hx3:(M:Int)<=4294967295:=by omega
  have hx4:(0:Int)<=M:=by omega
  have HX:=hid h0;have hle:=h.le;have hsm:=h.small;have hi9:=(gi.1 h0.2.2.2.2.2.2.2).1;clear h h0 hN hM hb hb';have e1:IntKind.i64.wrap ((D.length:Int) - ↑i - 4)=(D.length:Int) - ↑i - 4:=IntWalk.i64_in _ (by omega);go_enter func153,ntmps153;go_wp2_with ((go_at_call 105;go_must (refine (xaY r s D i _ HB.out).mono ?_;rintro e w2 ⟨rfl,k2,rfl⟩;have H2:=hid ((At_.refl HB.out).drewN k2))));go_wp2_with ((go_at_call 161;go_must (refine (xbd r s D (i) _ 8 H2.out.buf (by omega) (by omega)).mono ?_;rintro e w3 ⟨v,b,rfl,rfl,⟨g,off,c4,rfl,hg,hgc,hcm,hcell⟩,hA2⟩;have HQ:=hid (eight HX.out hcell);have q7:=HQ.out.2.2;have hc48:¬ c4=4:=(by omega);have hc8:(8:Int)<=(c4:Int):=(by omega);have hc44:(4:Int)<=(c4:Int):=(by omega);clear hcell;have H3:=hid (H2.out.trans hA2);clear hA2 hg hcm)));refine wp_region_tail 3 (by kernel_rfl) (by kernel_rfl) (fun K hK => ?_);simp only [List.take_succ_cons,List.take_zero,List.drop_succ_cons,List.drop_zero] at hK ⊢
  repeat still_step
  refine wpStill_nil (hK _ ?_);clear hK K;go_wp2_with (first | (go_at_call 162;go_must (refine (xfl _ g off 4 c4 x0 x1 x2 x3 (by omega) (by exact HQ.out.1)).mono ?_;rw [HN.out.1];rintro e w5 ⟨rfl,hK5⟩;have HQ5:=hid (fun j x hx=>hK5.cell (HQ.out.2.1 j x hx) (fun h=>h));have H5:=hid (H3.out.drew.nope hK5);clear hK5)) | (go_at_call 55;go_must (refine (xah _ _).mono ?_;rintro e w9 ⟨v9,rfl,⟨T,z,rfl⟩,hK9⟩;have H9:=hid (H5.out.nope hK9);clear hK9)));go_ret2;exact ⟨_,_,rfl,⟨_,_,rfl⟩,H9.out.kept⟩
theorem xfv (h:Buf w r s D i) (hc:D[i]? = some 193)
  (hh:∀ W,Buf W r s D (i+1)->Calls prog 152 #[.pointer (some ⟨r,0,none⟩)] W (Fails W r)) :
  Calls prog 100 #[.pointer (some ⟨r,0,none⟩)] w (xac fun _ v w'=>xbC v/\Kept (Only r) w w'):=by
  have ht:=xap r s D i w _ h hc;have HT:=hid ht;have HB:=hid h;have HC:=hid hc;have HH:=hid hh;clear ht h hc hh;go_enter func100,ntmps100;go_wp2_with (first | (go_at_call 110;go_must (refine HT.out.mono ?_;rintro e w1 ⟨rfl,k1,rfl⟩;have H1:=hid ((At_.refl HB.out).drewN k1))) | (go_at_call 54;go_must (refine (xax r s D i _ _ H1.out.buf (by exact HC.out)).mono ?_;rintro e w2 ⟨rfl,hA2⟩;have H2:=hid (H1.out.trans hA2);clear hA2)) | (go_at_call 152;go_must (refine (HH.out _ H2.out.buf).mono ?_;rintro e w3 ⟨x,v,rfl,⟨T,z,rfl⟩,hK3⟩;have H3:=hid (H2.out.kept.trans' hK3);clear hK3)));go_ret2;exact ⟨_,_,rfl,⟨_,_,rfl⟩,H3.out⟩
theorem xfh (h:Buf w r s D i) (hc:D[i]? = some 209)
  (hh:∀ W,Buf W r s D (i+1)->Calls prog 153 #[.pointer (some ⟨r,0,none⟩)] W (Fails W r)) :
  Calls prog 100 #[.pointer (some ⟨r,0,none⟩)] w (xac fun _ v w'=>xbC v/\Kept (Only r) w w'):=by
  have ht:=xap r s D i w _ h hc;have HT:=hid ht;have HB:=hid h;have HC:=hid hc;have HH:=hid hh;clear ht h hc hh;go_enter func100,ntmps100;go_wp2_with (first | (go_at_call 110;go_must (refine HT.out.mono ?_;rintro e w1 ⟨rfl,k1,rfl⟩;have H1:=hid ((At_.refl HB.out).drewN k1))) | (go_at_call 54;go_must (refine (xax r s D i _ _ H1.out.buf (by exact HC.out)).mono ?_;rintro e w2 ⟨rfl,hA2⟩;have H2:=hid (H1.out.trans hA2);clear hA2)) | (go_at_call 153;go_must (refine (HH.out _ H2.out.buf).mono ?_;rintro e w3 ⟨x,v,rfl,⟨T,z,rfl⟩,hK3⟩;have H3:=hid (H2.out.kept.trans' hK3);clear hK3)));go_ret2;exact ⟨_,_,rfl,⟨_,_,rfl⟩,H3.out⟩
theorem xfP (h:Buf w r s D i) (hx:D.length<=i) :
  Calls prog 100 #[.pointer (some ⟨r,0,none⟩)] w (Fails w r):=by
  have ht:=xhU r s D i w h hx;have HT:=hid ht;have HB:=hid h;clear ht h hx;go_enter func100,ntmps100;go_wp2_with ((go_at_call 110;go_must (refine HT.out.mono ?_;rintro e w1 ⟨x,v,rfl,rfl,⟨T,z,rfl⟩,k1,rfl⟩;have H1:=hid ((At_.refl HB.out).drewN k1))));go_ret2;exact ⟨_,_,rfl,⟨_,_,rfl⟩,H1.out.kept⟩
theorem xcu (c:UInt8) (h:Buf w r s D i) (hc:D[i]? = some c) (hn:c≠193/\c≠209) :
  Calls prog 100 #[.pointer (some ⟨r,0,none⟩)] w (Fails w r):=by
  have n0:¬ (c.toNat:Int)=193:=fun e=>hn.1 (UInt8.toNat.inj (Int.ofNat.inj e))
  have n1:¬ (c.toNat:Int)=209:=fun e=>hn.2 (UInt8.toNat.inj (Int.ofNat.inj e))
  have ht:=xap r s D i w _ h hc;have HT:=hid ht;have HB:=hid h;clear ht h hc hn;go_enter func100,ntmps100;go_wp2_with (first | (go_at_call 110;go_must (refine HT.out.mono ?_;rintro e w1 ⟨rfl,k1,rfl⟩;have H1:=hid ((At_.refl HB.out).drewN k1))) | (go_at_call 55;go_must (refine (xah _ _).mono ?_;rintro e w9 ⟨v9,rfl,⟨T,z,rfl⟩,hK9⟩;have H9:=hid (H1.out.nope hK9);clear hK9)));go_ret2;exact ⟨_,_,rfl,⟨_,_,rfl⟩,H9.out.kept⟩
theorem xhg (h:Buf w r s D i) (hx:D.length<=i) :
  Calls prog 109 #[.pointer (some ⟨r,0,none⟩)] w fun e w'=>e = .returned (.bool false)/\At_ w w' r s D i:=by
  have hle:=h.le;have HB:=hid h;have hlt':¬ (i:Int) < (D.length:Int):=by omega
  have hlt2:(D.length:Int)<=(i:Int):=by omega
  clear h;go_enter func109,ntmps109;go_wp2_with ((go_at_call 105;go_must (refine (xaY r s D i _ HB.out).mono ?_;rintro e w1 ⟨rfl,k1,rfl⟩;have H1:=hid ((At_.refl HB.out).drewN k1))));go_ret;exact ⟨rfl,H1.out⟩
end
theorem xfg (r:Nat) (s:Value) (D:List UInt8) (i:Nat) (w:World) (h:Buf w r s D i) (hc:D[i]? = some 131) (hn:D.length < i+9) :
  Calls prog 124 #[.pointer (some ⟨r,0,none⟩)] w (Fails w r):=by
 have hne:r≠w.heap.size:=Nat.ne_of_lt h.lt;have hk0:Kept (Only r) w (w.alloc (.cells #[.int .i64 0,.int .i64 0] 109)):=(kR _ w).alloc _;have hb0:Buf (w.alloc (.cells #[.int .i64 0,.int .i64 0] 109)) r s D i:=h.nope ((kR Nope w).alloc _);have H0:=hid (aI (Blk.new w 109 #[.int .i64 0,.int .i64 0]) (show At_ w (w.alloc (.cells #[.int .i64 0,.int .i64 0] 109)) r s D i from ⟨hb0,hk0⟩));have HN:=hid hne;have HB:=hid h;have HX:=hid (aI hc hn);obtain ⟨a,b,ht⟩:∃ a b,tm 0 = .agg #[.int .i64 a,.int .i64 b]:=⟨_,_,rfl⟩
 have HT:=hid ht;clear hc ht hn;clear h hk0 hb0 hne;go_enter func124,ntmps124;go_wp2_with (first | (go_at_call 160;go_must (refine (xaa r s D i _ _ H0.out.2.buf (by exact HX.out.1)).mono ?_;rintro e w1 ⟨rfl,hA⟩;have H1:=hid (aI (H0.out.1.kept hA.kept (fun e=>HN.out e.symm)) (H0.out.2.trans hA));clear hA)) | (go_at_call 177;go_must (refine (xdi r s D (i+1) _ H1.out.2.buf (by have:=HX.out.2;omega)).mono ?_;rintro e w2 ⟨x,v,rfl,rfl,⟨T,z,rfl⟩,hA⟩;have H2:=hid (aI (H1.out.1.kept hA.kept (fun e=>HN.out e.symm)) (H1.out.2.trans hA));clear hA)) | (go_at_call 180;go_must (refine (xis 0 _ (by omega) (by omega)).mono ?_;rw [HT.out];rintro e w3 ⟨rfl,hK3⟩;have hB:=H2.out.1.kept hK3 (fun h=>h);have c0:=hB.cell 0;have c1:=hB.cell 1;have f0:=hB.frozen 0;have f1:=hB.frozen 1;have H3:=hid (aI hB (H2.out.2.nope hK3));clear hB hK3)))
 (try simp only [Exit.inBlock,Exit.then])
 have hB2:=(H3.out.1.set_ 0 (.int .i64 a)).set_ 1 (.int .i64 b);have hld:=run_loadVar_row (P:=prog) _ w.heap.size 109 109 _ _ _ hB2 underlying109 rfl (by kernel_rfl);refine bodyPost_ret (v:=.tuple #[.agg #[.int .i64 a,.int .i64 b],.iface T z]) ?_ rfl ?_
 ·rw [results_cell_tmp rfl];simp only [Array.getD_eq_getD_getElem?,gt,gz,gs,Option.getD_some,asAddr,Sem.run_pure,Result.andThen_ok];rw [hld]
  rfl
 ·have hf:=(H3.out.2.setNew HB.out (p:=⟨w.heap.size,0,none⟩) (Nat.le_refl _) (.int .i64 a)).setNew HB.out (p:=⟨w.heap.size,1,none⟩) (Nat.le_refl _) (.int .i64 b);exact ⟨_,_,rfl,⟨_,_,rfl⟩,hf.kept⟩
theorem xfL {P:Program} {ops:Array Oper} {o:Oper} {a:Act} {w:World} {K:Act->World->Prop} {Q:Exit->Act->World->Prop} {E:Prop} (hgd:o.guard=none) (ty:TypeId) (x:Operand) (ho:o.op = .load ty x)
  (g:Nat) (hx:a.eval x = .pointer (some ⟨g,0,none⟩)) (t:TypeId) (cs:Array Value) (fr:Nat × Nat) (d:TypeDesc) (hg:w.heap[g]? = some (.cells cs t fr))
  (hu:P.underlying ty=some d) (hd:(match d with | .struct _ | .array _ _=>true | _=>false)=true) (hi:(P.info? ty).map (·.size)=some cs.size)
  (h:K (a.put o.dst (.agg cs)) w):if Region.wanted o (yielded ops a.tmps)=true then Oper.wp P o a w K Q else E:=by
 have hw:Region.wanted o (yielded ops a.tmps)=true:=by simp [Region.wanted,hgd]
 rw [if_pos hw];exact wp_load_row ty x ho g hx t cs fr d hg hu hd hi h
theorem xfn {P:Program} {ops:Array Oper} {o:Oper} {a:Act} {w:World} {K:Act->World->Prop} {Q:Exit->Act->World->Prop} {E:Prop} (hgd:o.guard=none) (ty:TypeId) (x y:Operand) (ho:o.op = .store ty x y)
  (g:Nat) (cells:Array Value) (hx:a.eval x = .pointer (some ⟨g,0,none⟩)) (hy:a.eval y = .agg cells)
  (t:TypeId) (old:Array Value) (hg:w.heap[g]? = some (.cells old t (0,0))) (hi:(P.info? ty).map (·.size)=some cells.size)
  (hold:old.size=cells.size) (h1:cells.all (·.oneCell')=true)
  (h:K (a.put o.dst undef) (w.setRow g cells)):if Region.wanted o (yielded ops a.tmps)=true then Oper.wp P o a w K Q else E:=by
 have hw:Region.wanted o (yielded ops a.tmps)=true:=by simp [Region.wanted,hgd]
 rw [if_pos hw];exact wp_store_row ty x y ho g cells hx hy t old hg hi hold h1 h
theorem xpq:z16.all (·.oneCell')=true:=by simp [z16,Value.oneCell']
theorem xhN (r:Nat) (s:Value) (D:List UInt8) (i:Nat) (w:World) (h:Buf w r s D i) (hc:D[i]? = some 152) (hl:D.length < i+17) :
  Calls prog 125 #[.pointer (some ⟨r,0,none⟩)] w (Fails w r):=by
 have hne:r < w.heap.size:=h.lt;have hk0:Kept (Only r) w ((w.alloc (.cells z16 112)).alloc (.cells z16 112)):=((kR _ w).alloc _).alloc _;have hb0:Buf ((w.alloc (.cells z16 112)).alloc (.cells z16 112)) r s D i:=h.nope (((kR Nope w).alloc _).alloc _);have hn1:(w.alloc (.cells z16 112)).heap.size=w.heap.size+1:=by simp
 have H0:=hid (aI ((Blk.new w 112 z16).alloc (.cells z16 112)) (aI (hn1 ▸ Blk.new (w.alloc (.cells z16 112)) 112 z16) (show At_ w _ r s D i from ⟨hb0,hk0⟩)));have HN:=hid hne;have HB:=hid h;have HX:=hid (aI hc hl);clear h hk0 hb0 hne hc hl hn1;have hu2:(prog.info? 112).map (fun i=>i.size)=some 16:=by kernel_rfl
 have HU:=hid hu2;clear hu2;go_enter func125,ntmps125;go_wp2_with (first | (go_at_call 160;go_must (refine (xaa r s D i _ _ H0.out.2.2.buf (by exact HX.out.1)).mono ?_;rintro e w1 ⟨rfl,hA⟩;have H1:=hid (aI (H0.out.1.kept hA.kept (fun e=>absurd e (Nat.ne_of_gt HN.out))) (aI (H0.out.2.1.kept hA.kept (fun e=>absurd e (Nat.ne_of_gt (Nat.lt_succ_of_lt HN.out)))) (H0.out.2.2.trans hA)));clear hA)) | (go_at_call 161;go_must (refine (xcM r s D (i+1) _ 16 H1.out.2.2.buf (by have:=HX.out.2;omega) (by omega)).mono ?_;rintro e w2 ⟨v,b,rfl,rfl,hA⟩;have H2:=hid (aI (H1.out.1.kept hA.kept (fun e=>absurd e (Nat.ne_of_gt HN.out))) (aI (H1.out.2.1.kept hA.kept (fun e=>absurd e (Nat.ne_of_gt (Nat.lt_succ_of_lt HN.out)))) (H1.out.2.2.trans hA)));clear hA)));refine wp_region_any (by kernel_rfl) ?_
 (try (change wpAny _ _ _ _ _ _ _ (World.drew _)))
 refine wpAny_ready (rs:=[0,1]) (by kernel_rfl) (by simp) ?_;refine AllReady.cons rfl (fun K hK => ?_) (AllReady.cons rfl (fun K hK => ?_) AllReady.nil)
 ·refine xfL rfl 112 (.tmp 4) rfl (w.heap.size+1) rfl 112 z16 (0,0) _ (by exact H2.out.2.1) underlying112 rfl (by rw [HU.out];rfl) ?_;refine hK _ _ ?_;clear hK K;refine wpAny_ready (rs:=[1]) (by kernel_rfl) (by simp) ?_;refine AllReady.cons rfl (fun K hK => ?_) AllReady.nil;go_simp;go_at_call 55;refine (xah _ _).mono ?_;rintro e w9 ⟨v9,rfl,⟨T,z,rfl⟩,hK9⟩;have H9:=hid (aI (H2.out.1.drew.kept hK9 (fun h=>h)) (aI ((H2.out.2.2.drew).nope hK9) (H2.out.2.1.drew.kept hK9 (fun h=>h))));clear hK9
  (try go_simp)
  refine hK _ _ ?_;clear hK K;refine wpAny_ready (rs:=[2]) (by kernel_rfl) (by simp) ?_;refine AllReady.cons rfl (fun K hK => ?_) AllReady.nil;refine xfn rfl 112 (.tmp 2) (.tmp 29) rfl w.heap.size z16 rfl rfl 112 z16 (by exact H9.out.1) (by rw [HU.out];rfl) rfl xpq ?_;refine hK _ _ ?_;clear hK K;refine wpAny_ready (rs:=[3]) (by kernel_rfl) (by simp) ?_;refine AllReady.cons rfl (fun K hK => ?_) AllReady.nil;go_simp;refine hK _ _ ?_;clear hK K;refine wpAny_done (by kernel_rfl) ?_ _;go_wp2
  (try simp only [Exit.inBlock,Exit.then])
  have hB2:Blk (w9.setRow w.heap.size z16) w.heap.size 112 _:=Blk.setRow_ H9.out.1 _;have hld:=run_loadVar_row (P:=prog) _ w.heap.size 112 112 _ _ _ hB2 underlying112 rfl (by rw [HU.out];rfl);refine bodyPost_ret (v:=.tuple #[.agg z16,.iface T z]) ?_ rfl ⟨_,_,rfl,⟨_,_,rfl⟩,?_⟩
  ·rw [results_cell_tmp rfl];simp only [Array.getD_eq_getD_getElem?,gt,gz,gs,Option.getD_some,asAddr,Sem.run_pure,Result.andThen_ok];rw [hld]
   rfl
  ·exact (H9.out.2.1.below HB.out (below_setRow (Below.refl w.heap.size _) (Nat.le_refl _) _) (Nat.le_refl _)).kept
 ·go_simp;go_at_call 55;refine (xah _ _).mono ?_;rintro e w9 ⟨v9,rfl,⟨T,z,rfl⟩,hK9⟩;have H9:=hid (aI (H2.out.1.drew.kept hK9 (fun h=>h)) (aI ((H2.out.2.2.drew).nope hK9) (H2.out.2.1.drew.kept hK9 (fun h=>h))));clear hK9
  (try go_simp)
  refine hK _ _ ?_;clear hK K;refine wpAny_ready (rs:=[0]) (by kernel_rfl) (by simp) ?_;refine AllReady.cons rfl (fun K hK => ?_) AllReady.nil;refine xfL rfl 112 (.tmp 4) rfl (w.heap.size+1) rfl 112 z16 (0,0) _ (by exact H9.out.2.2) underlying112 rfl (by rw [HU.out];rfl) ?_;refine hK _ _ ?_;clear hK K;refine wpAny_ready (rs:=[2]) (by kernel_rfl) (by simp) ?_;refine AllReady.cons rfl (fun K hK => ?_) AllReady.nil;refine xfn rfl 112 (.tmp 2) (.tmp 29) rfl w.heap.size z16 rfl rfl 112 z16 (by exact H9.out.1) (by rw [HU.out];rfl) rfl xpq ?_;refine hK _ _ ?_;clear hK K;refine wpAny_ready (rs:=[3]) (by kernel_rfl) (by simp) ?_;refine AllReady.cons rfl (fun K hK => ?_) AllReady.nil;go_simp;refine hK _ _ ?_;clear hK K;refine wpAny_done (by kernel_rfl) ?_ _;go_wp2
  (try simp only [Exit.inBlock,Exit.then])
  have hB2:Blk (w9.setRow w.heap.size z16) w.heap.size 112 _:=Blk.setRow_ H9.out.1 _;have hld:=run_loadVar_row (P:=prog) _ w.heap.size 112 112 _ _ _ hB2 underlying112 rfl (by rw [HU.out];rfl);refine bodyPost_ret (v:=.tuple #[.agg z16,.iface T z]) ?_ rfl ⟨_,_,rfl,⟨_,_,rfl⟩,?_⟩
  ·rw [results_cell_tmp rfl];simp only [Array.getD_eq_getD_getElem?,gt,gz,gs,Option.getD_some,asAddr,Sem.run_pure,Result.andThen_ok];rw [hld]
   rfl
  ·exact (H9.out.2.1.below HB.out (below_setRow (Below.refl w.heap.size _) (Nat.le_refl _) _) (Nat.le_refl _)).kept
section
variable (r:Nat) (s:Value) (D:List UInt8) (i:Nat) (w:World)
theorem xmh (h:Buf w r s D i) (hx:D.length<=i):Calls prog 53 #[.pointer (some ⟨r,0,none⟩)] w (Fails w r):=by
 have H0:=hid h;have HX:=hid hx;clear h hx;go_enter func53,ntmps53;go_wp2_with (first | (go_at_call 109;go_must (refine (xhg r s D i _ H0.out HX.out).mono ?_;rintro e w1 ⟨rfl,hA⟩;have H1:=hid hA;clear hA)) | (go_at_call 110;go_must (refine (xhU r s D i _ H1.out.buf HX.out).mono ?_;rintro e w2 ⟨x,v,rfl,rfl,⟨T,z,rfl⟩,k2,rfl⟩;have H2:=hid (H1.out.drewN k2);clear H1)) | (go_at_call 55;go_must (refine (xah _ _).mono ?_;rintro e w9 ⟨v9,rfl,⟨T9,z9,rfl⟩,hK9⟩;have H9:=hid (H2.out.nope hK9);clear hK9)));go_ret2;exact ⟨_,_,rfl,⟨_,_,rfl⟩,H9.out.kept⟩
end
theorem xjb (w0 w:World) (r:Nat) (s:Value) (D:List UInt8) (i p:Nat) (hA:At_ w0 w r s D i)
  (hH:∀ W,Buf W r s D i->Calls prog 104 #[.pointer (some ⟨r,0,none⟩)] W (Fails W r)) :
  Calls prog 45 #[.pointer (some ⟨p,0,none⟩),.pointer (some ⟨r,0,none⟩)] w (Gives fun e w'=>xbC e/\Kept (Only r) w w'):=by
 have HA:=hid hA;have HH:=hid hH;clear hA hH;go_enter func45,ntmps45;go_wp2_with (first | (go_at_call 104;go_must (refine (HH.out _ HA.out.buf).mono ?_;rintro e w1 ⟨x,v,rfl,⟨T,z,rfl⟩,hK⟩;have H1:=hid hK;clear hK)));go_ret;exact ⟨_,rfl,⟨_,_,rfl⟩,H1.out⟩
theorem xhS (w:World) (r:Nat) (s:Value) (D:List UInt8) (i:Nat) (h:Buf w r s D i)
  (hL:∀ W p,At_ w W r s D i->Calls prog 45 #[.pointer (some ⟨p,0,none⟩),.pointer (some ⟨r,0,none⟩)] W (Gives fun e w'=>xbC e/\Kept (Only r) W w')) :
  Calls prog 127 #[.pointer (some ⟨r,0,none⟩)] w (Fails w r):=by
 have H0:=hid (hL (w.alloc (.cells #[.slice none 0 0] 76)) w.heap.size ((At_.refl h).nope ((kR _ _).alloc _)));have hne:¬ Only r w.heap.size:=fun e=>by have:=h.lt;have e':w.heap.size=r:=e;omega
 have HN:=hid hne;clear h hL hne;go_enter func127,ntmps127;go_wp2_with (go_at_call 45;go_must (refine (H0.out).mono ?_;rintro e w1 ⟨_,rfl,⟨T,z,rfl⟩,hK⟩;have c1:w1.cell? ⟨w.heap.size,0,none⟩=some (.slice none 0 0):=((Blk.new w 76 #[.slice none 0 0]).kept hK HN.out).cell 0;have H1:=hid (((kR (Only r) w).alloc (.cells #[.slice none 0 0] 76)).trans' hK);clear hK));go_ret2;exact ⟨_,_,rfl,⟨_,_,rfl⟩,H1.out⟩
theorem EmptyTexts_step (v:V) (w:World) (xa:Value) (ha:VAgg Any_ w xa v) (ih:∀ k,k ∈ v.kids->∀ (W:World) (x:Value),VAgg Any_ W x k->Calls prog 43 #[x] W (xjt W)) :
  Calls prog 43 #[xa] w (xjt w):=by
 obtain ⟨ka,da,rfl,hna,hka,hda⟩:=ha;have HKA:=hid hka;have HI:=hid ih;obtain ⟨p1,c1,rfl,q1,m1⟩:=hka.form;have hlm:v.kids.length<=maxLen:=by omega
 clear hna hka hda ih q1 m1;unfold maxLen at hlm;unfold vagg;obtain ⟨n,hn⟩:∃ m,v.kids.length=m:=⟨_,rfl⟩
 rw [hn] at hlm ⊢;have HL:=hid hn;clear hn;obtain ⟨kd,hkd⟩:∃ m,v.kind=m:=⟨_,rfl⟩
 rw [hkd];clear hkd;go_enter func43,ntmps43;go_wp2;have HT:=Blk.one w #[Value.int .i64 kd,.int .u64 v.num,.string v.text,.slice p1 n c1,.int .i64 v.of_,da] 25;generalize w.alloc (.cells #[Value.int .i64 kd,.int .u64 v.num,.string v.text,.slice p1 n c1,.int .i64 v.of_,da] 25)=W2 at HT ⊢;generalize w.heap.size=A at HT ⊢;have HW:=hid HT;clear HT
 go_loopw [8] (fun c w'=>∃ k:Nat,k<=n/\c = .int .i64 k/\Hid (Kept Nope W2 w')) (fun c _=>n - (RowKit.intOf c).toNat)
 case atStart=>exact ⟨0,by omega,rfl,hid (kR _ _)⟩
 case round =>
  obtain ⟨k,hk,rfl,HR⟩:=hrel;have HKW:=hid (HW.out.2.trans' HR.out)
  by_cases hkn:k < n
  ·have hkn':(k:Int) < (n:Int):=by omega
   have hk0:(0:Int)<=(k:Int):=by omega
   have e1:IntKind.i64.wrap ((k:Int)+1)=(k:Int)+1:=IntWalk.i64_in _ (by omega);have bA:=((HW.out.1.kept HR.out (fun h=>h)).alloc (.cells #[] 0)).cell 0;have bA0:∀ o,(wr.alloc o).cell? ⟨A,0,none⟩=some (.int .i64 kd):=fun o=>by have h:=((HW.out.1.kept HR.out (fun h=>h)).alloc o).cell 0;exact h
   clear bA;obtain ⟨x,hx⟩:∃ u,v.kids[k]? = some u:=⟨v.kids[k]'(by rw [HL.out];exact hkn),ge _⟩
   obtain ⟨b2,off2,cap2,pk,ck,pd,cd,q2,hvx,y0,y1,y2,y3,y4,y5⟩:=(HKA.out.keep HKW.out (fun _ _ _ h=>h)).sixS hx;injection q2 with q2 _ q2'
   subst q2 q2';have HX:=hid (aI hx hvx);clear hx hvx
   by_cases h23:kd=23/\18<=x.kind/\x.kind<=20/\x.text=⟨#[]⟩
   ·obtain ⟨rfl,h18,h20,htx⟩:=h23;rw [htx] at y2;go_wp2;go_ret;exact ⟨_,rfl,HKW.out.alloc _⟩
   ·have hc:kd≠23\/(kd=23/\¬ 18<=x.kind)\/(kd=23/\18<=x.kind/\¬ x.kind<=20)\/(kd=23/\18<=x.kind/\x.kind<=20/\¬ x.text=⟨#[]⟩):=by
     by_cases a1:kd=23
     ·by_cases a2:18<=x.kind
      ·by_cases a3:x.kind<=20
       ·exact .inr (.inr (.inr ⟨a1,a2,a3,fun a4=>h23 ⟨a1,a2,a3,a4⟩⟩))
       ·exact .inr (.inr (.inl ⟨a1,a2,a3⟩))
      ·exact .inr (.inl ⟨a1,a2⟩)
     ·exact .inl a1
    clear h23
    rcases hc with a1 | ⟨rfl,a2⟩ | ⟨rfl,a2,a3⟩ | ⟨rfl,a2,a3,a4⟩
    ·have f1:(kd == 23)=false:=by simpa using a1
     clear a1;go_wp2_with (go_at_call 43;go_must (refine (HI.out x (gm HX.out.1) _ _ (HX.out.2.alloc _)).mono ?_;rintro e w1 ⟨b,rfl,hk1⟩;have H1:=hid (((kR Nope wr).alloc _).trans' hk1);clear hk1;cases b))
     ·go_roundw
      case rel=>exact ⟨k+1,by omega,by go_num,hid (HR.out.trans' H1.out)⟩
      case measure=>simp [RowKit.intOf];omega
     ·go_ret;exact ⟨_,rfl,HKW.out.trans' H1.out⟩
    ·have f1:x.kind < 18:=by omega
     clear a2;go_wp2_with (go_at_call 43;go_must (refine (HI.out x (gm HX.out.1) _ _ (HX.out.2.alloc _)).mono ?_;rintro e w1 ⟨b,rfl,hk1⟩;have H1:=hid (((kR Nope wr).alloc _).trans' hk1);clear hk1;cases b))
     ·go_roundw
      case rel=>exact ⟨k+1,by omega,by go_num,hid (HR.out.trans' H1.out)⟩
      case measure=>simp [RowKit.intOf];omega
     ·go_ret;exact ⟨_,rfl,HKW.out.trans' H1.out⟩
    ·have f1:20 < x.kind:=by omega
     clear a3;go_wp2_with (go_at_call 43;go_must (refine (HI.out x (gm HX.out.1) _ _ (HX.out.2.alloc _)).mono ?_;rintro e w1 ⟨b,rfl,hk1⟩;have H1:=hid (((kR Nope wr).alloc _).trans' hk1);clear hk1;cases b))
     ·go_roundw
      case rel=>exact ⟨k+1,by omega,by go_num,hid (HR.out.trans' H1.out)⟩
      case measure=>simp [RowKit.intOf];omega
     ·go_ret;exact ⟨_,rfl,HKW.out.trans' H1.out⟩
    ·have f1:¬ x.text.toList=[]:=xoc a4;have f2:x.text.toList.isEmpty=false:=by cases h:x.text.toList with | nil=>exact absurd h f1 | cons a l=>rfl
     clear a4;go_wp2_with (go_at_call 43;go_must (refine (HI.out x (gm HX.out.1) _ _ (HX.out.2.alloc _)).mono ?_;rintro e w1 ⟨b,rfl,hk1⟩;have H1:=hid (((kR Nope wr).alloc _).trans' hk1);clear hk1;cases b))
     ·go_roundw
      case rel=>exact ⟨k+1,by omega,by go_num,hid (HR.out.trans' H1.out)⟩
      case measure=>simp [RowKit.intOf];omega
     ·go_ret;exact ⟨_,rfl,HKW.out.trans' H1.out⟩
  ·obtain rfl:k=n:=by omega
   have hlt:¬ (k:Int) < (k:Int):=by omega
   go_wp2;go_ret;exact ⟨_,rfl,HKW.out⟩
theorem xiP:∀ (n:Nat) (v:V),SizeOf.sizeOf v<=n->∀ (w:World) (xa:Value),VAgg Any_ w xa v->Calls prog 43 #[xa] w (xjt w):=by
 intro n
 induction n using Nat.strongRecOn with
 | _ n ih =>
  intro v hn w xa ha
  exact EmptyTexts_step v w xa ha fun k hk W x hx=>by
   have hs:=V.sizeOf_kid hk;exact ih (SizeOf.sizeOf k) (by omega) k (Nat.le_refl _) W x hx
theorem xku (v:V) (w:World) (xa:Value) (ha:VAgg Any_ w xa v):Calls prog 43 #[xa] w (xjt w):=xiP _ v (Nat.le_refl _) w xa ha
theorem xgZ (w0 w:World) (r:Nat) (s:Value) (D:List UInt8) (i p:Nat) (hA:At_ w0 w r s D i)
  (hH:∀ W,Buf W r s D i->Calls prog 100 #[.pointer (some ⟨r,0,none⟩)] W (Fails W r)) :
  Calls prog 47 #[.pointer (some ⟨p,0,none⟩),.pointer (some ⟨r,0,none⟩)] w (Gives fun e w'=>xbC e/\Kept (Only r) w w'):=by
 have HA:=hid hA;have HH:=hid hH;clear hA hH;go_enter func47,ntmps47;go_wp2_with (first | (go_at_call 100;go_must (refine (HH.out _ HA.out.buf).mono ?_;rintro e w1 ⟨x,v,rfl,⟨T,z,rfl⟩,hK⟩;have H1:=hid hK;clear hK)));go_ret;exact ⟨_,rfl,⟨_,_,rfl⟩,H1.out⟩
theorem xiA (w:World) (r:Nat) (s:Value) (D:List UInt8) (i:Nat) (h:Buf w r s D i)
  (hH:∀ W,Buf W r s D i->Calls prog 100 #[.pointer (some ⟨r,0,none⟩)] W (Fails W r)) :
  Calls prog 128 #[.pointer (some ⟨r,0,none⟩)] w (Fails w r):=by
 have H0:=hid (xgZ w (w.alloc (.cells #[.map none] 70)) r s D i w.heap.size ((At_.refl h).nope ((kR _ _).alloc _)) hH);clear h hH;go_enter func128,ntmps128;go_wp2_with (go_at_call 47;go_must (refine (H0.out).mono ?_;rintro e w1 ⟨_,rfl,⟨T,z,rfl⟩,hK⟩;have H1:=hid (((kR (Only r) w).alloc (.cells #[.map none] 70)).trans' hK);clear hK));go_ret2;exact ⟨_,_,rfl,⟨_,_,rfl⟩,H1.out⟩
theorem nine {W W':World} {P:Nat} {a0 a1 a2 a3 a4 a5 a6 a7 a8:Value} (h0:Blk W P 39 #[a0,a1,a2,a3,a4,a5,a6,a7,a8]) (hk:Kept Nope W W') :
  W'.cell? ⟨P,0,none⟩=some a0/\W'.cell? ⟨P,1,none⟩=some a1/\W'.cell? ⟨P,2,none⟩=some a2/\W'.cell? ⟨P,3,none⟩=some a3/\W'.cell? ⟨P,4,none⟩=some a4/\W'.cell? ⟨P,5,none⟩=some a5 /\
  W'.cell? ⟨P,6,none⟩=some a6/\W'.cell? ⟨P,7,none⟩=some a7/\W'.cell? ⟨P,8,none⟩=some a8:=by
 have g0:=h0.kept hk (fun h=>h);exact ⟨g0.cell 0,g0.cell 1,g0.cell 2,g0.cell 3,g0.cell 4,g0.cell 5,g0.cell 6,g0.cell 7,g0.cell 8⟩
def xnX (w:World) (v:V) (bh:List UInt8):Ending->World->Prop:=fun e w'=>Kept Nope w w' /\
  ((∃ x y c,e = .returned (.tuple #[x,y,.bool c,.bool false])) \/
   (Fits v/\v.count<=2000/\v.desc=[]/\bh.length<=100/\∃ bs,Enc v bs /\
     ((∃ x k,e = .returned (.tuple #[x,.slice none 0 0,.bool true,.bool true])/\k < bs.length/\BSl Any_ w' x (bs.take k)) \/
      (∃ x y,e = .returned (.tuple #[x,y,.bool false,.bool true])/\BSl Any_ w' x (bs ++ bh)/\BSl Any_ w' y bh))))
theorem xcQ {fn:Func} {t u v z:Tmp} (h:fn.results = #[.tmp t,.tmp u,.tmp v,.tmp z]) (tmps:Array Value) (P:Program) (w:World) :
  (results fn tmps).run P w = .ok (.tuple #[tmps.getD t undef,tmps.getD u undef,tmps.getD v undef,tmps.getD z undef]) w:=by
 simp [results,h]
theorem xgP (w:World) (v:V) (a0 a1 a2 a3 a4 a5 xb:Value) (st cut:Int) (bh:List UInt8) (hv:VAgg Any_ w (.agg #[a0,a1,a2,a3,a4,a5]) v) (hst:0<=st/\st < 18446744073709551616) (hcut:-9223372036854775808<=cut/\cut<=9223372036854775807) (hb:BSl Any_ w xb bh) (hT:Tabs w) :
  Calls prog 21 #[.agg #[a0,a1,a2,a3,a4,a5,.int .u64 st,xb,.int .i64 cut]] w (xnX w v bh):=by
 have hv':=hv;obtain ⟨kv,dv,e,hnv,hkv,hdv⟩:=hv';obtain ⟨pkv,ckv,rfl,_⟩:=hkv.form;obtain ⟨pdv,cdv,rfl,_⟩:=hdv.form;unfold vagg at e;simp only [Value.agg.injEq,Array.mk.injEq,List.cons.injEq,and_true] at e;obtain ⟨rfl,rfl,rfl,rfl,rfl,rfl⟩:=e;have HD:=hid (aI hv (aI hb (aI hT (aI hst hcut))));obtain ⟨bp,bc,rfl,_⟩:=hb;clear hv hkv hdv hnv hT;obtain ⟨nl,hnl⟩:∃ n,v.kids.length=n:=⟨_,rfl⟩
 obtain ⟨nd,hnd⟩:∃ n,v.desc.length=n:=⟨_,rfl⟩
 obtain ⟨nb,hnb⟩:∃ n,bh.length=n:=⟨_,rfl⟩
 rw [hnl,hnd,hnb] at HD ⊢;have HNN:=hid (aI hnd hnb);clear hnl hnd hnb;go_enter func21,ntmps21;go_wp2_with fail;obtain ⟨P,hP⟩:∃ P,w.heap.size=P:=⟨_,rfl⟩
 obtain ⟨W1,hW1⟩:∃ W1,w.alloc (.cells #[.int .i64 v.kind,.int .u64 v.num,.string v.text,.slice pkv nl ckv,.int .i64 v.of_,.slice pdv nd cdv,.int .u64 st,.slice bp nb bc,.int .i64 cut] 39)=W1:=⟨_,rfl⟩
 have hB0:Blk W1 P 39 #[.int .i64 v.kind,.int .u64 v.num,.string v.text,.slice pkv nl ckv,.int .i64 v.of_,.slice pdv nd cdv,.int .u64 st,.slice bp nb bc,.int .i64 cut]:=by rw [<- hW1,<- hP];exact Blk.new w 39 _
 have hK1:Kept Nope w W1:=by rw [<- hW1];exact (kR Nope w).alloc _
 rw [hW1]
 (try rw [hP])
 have HB:=hid (aI hB0 (aI hK1 hP));clear hB0 hK1 hW1 hP;refine (xhf v 6 _ _ (by omega) (HD.out.1.keep HB.out.2.1 (fun _ _ _ h=>h)) (HD.out.2.2.1.nope HB.out.2.1)).mono ?_;rintro e w2 ⟨⟨rfl,hf⟩ | rfl,hk2⟩
 case inr =>
  have K2:=hid (HB.out.2.1.trans' hk2);clear hk2;go_wp2
  (try simp only [Exit.inBlock,Exit.then])
  refine bodyPost_ret (xcQ rfl _ _ _) rfl ?_;exact ⟨K2.out,.inl ⟨_,_,_,rfl⟩⟩
 have HF:=hid hf;clear hf;have K2:=hid (HB.out.2.1.trans' hk2);have J2:=hid hk2;clear hk2;obtain ⟨c0,c1,c2,c3,c4,c5,c6,c7,c8⟩:=nine HB.out.1 J2.out;go_wp2_with fail;refine (xjs Fits (fun v hv=>⟨hv.own.few,hv.own.desc,fun k hk=>(List.mem_append.1 hk).elim hv.kid hv.descr⟩) _ v (Nat.le_refl _) HF.out.1 _ _ (HD.out.1.keep K2.out (fun _ _ _ h=>h))).mono ?_;rintro e w3 ⟨nv,rfl,hk3⟩;have K3:=hid (K2.out.trans' hk3);have J3:=hid (J2.out.trans' hk3);clear hk3 c0 c1 c2 c3 c4 c5 c6 c7 c8;obtain ⟨c0,c1,c2,c3,c4,c5,c6,c7,c8⟩:=nine HB.out.1 J3.out;go_wp2_with fail
 all_goals first
  | ((try simp only [Exit.inBlock,Exit.then]);refine bodyPost_ret (xcQ rfl _ _ _) rfl ?_;exact ⟨K3.out,.inl ⟨_,_,_,rfl⟩⟩)
  | skip
 have HL:Hid (nb<=100):=hid (by omega);obtain rfl:nd=0:=by omega
 refine (xku v _ _ (HD.out.1.keep K3.out (fun _ _ _ h=>h))).mono ?_;rintro e w4 ⟨b4,rfl,hk4⟩;have K4:=hid (K3.out.trans' hk4);have J4:=hid (J3.out.trans' hk4);clear hk4 c0 c1 c2 c3 c4 c5 c6 c7 c8;obtain ⟨c0,c1,c2,c3,c4,c5,c6,c7,c8⟩:=nine HB.out.1 J4.out;cases b4
 case true =>
  go_wp2
  (try simp only [Exit.inBlock,Exit.then])
  refine bodyPost_ret (xcQ rfl _ _ _) rfl ?_;exact ⟨K4.out,.inl ⟨_,_,_,rfl⟩⟩
 have hdn:v.desc=[]:=List.eq_nil_of_length_eq_zero HNN.out.1;have HV:=hid (aI hdn (put_all _ v (Nat.le_refl _) HF.out.1 HD.out.1.nums (by have h1:=room_le _ v (Nat.le_refl _) HF.out.1;have h2:=HF.out.2;omega)).1);clear hdn;go_wp2_with fail;refine (HV.out.2 _ w4.heap.size _ ⟨st,false,Blk.new w4 _ _,HD.out.2.2.2.1⟩ (((HD.out.1.keep K4.out (fun _ _ _ h=>h)).mono (S':=fun b=>b≠w4.heap.size) fun b hb _=>Nat.ne_of_lt hb).keep ((kR Nope w4).alloc _) (fun _ _ _ h=>h))).mono ?_;rintro e w5 ⟨x5,bs,rfl,hb5,he5,_,hk5⟩;obtain ⟨x5p,x5c,rfl⟩:=hb5.form;rw [World.size_alloc] at hb5;have HB5:=hid hb5;have H5:=hid he5;have HS5:Hid (w4.heap.size+1<=w5.heap.size):=hid (by have h1:=hk5.size;rw [World.size_alloc] at h1;exact h1);have K5:=hid ((K4.out.alloc _).trans hk5 (fun k hk e=>by have e':k=w4.heap.size:=e;have h1:=K4.out.size;omega));have J5:=hid ((J4.out.alloc _).trans hk5 (fun k hk e=>by have e':k=w4.heap.size:=e;have h1:=J4.out.size;omega));clear hb5 he5 hk5 c0 c1 c2 c3 c4 c5 c6 c7 c8;obtain ⟨c0,c1,c2,c3,c4,c5,c6,c7,c8⟩:=nine HB.out.1 J5.out;have hlen:bs.length<=1000000000:=by have h0:=H5.out.len;have h1:=room_le _ v (Nat.le_refl _) HF.out.1;have h2:=HF.out.2;omega
 obtain ⟨n5,hn5⟩:∃ n5,bs.length=n5:=⟨_,rfl⟩
 rw [hn5] at hlen ⊢
 have hc5:n5<=x5c:=by
  obtain ⟨p,c,e,h1,_⟩:=HB5.out.bsl;injection e with _ e1 e2
  omega
 have HN5:=hid hn5;clear hn5;go_wp2_with fail
 ·(try simp only [Exit.inBlock,Exit.then])
  refine bodyPost_ret (xcQ rfl _ _ _) rfl ?_;have hne:0 < bs.length:=by cases H5.out <;> simp
  have hc:0 < cut:=by assumption
  have hn:=HN5.out;obtain ⟨q,hq⟩:∃ q:Nat,(n5:Int) - min cut n5=q:=⟨((n5:Int) - min cut n5).toNat,by omega⟩
  refine ⟨K5.out,.inr ⟨HF.out.1,HF.out.2,HV.out.1,by rw [HNN.out.2];have:=HL.out;omega,bs,H5.out,.inl ⟨.slice x5p q x5c,q,?_,by omega,?_⟩⟩⟩
  ·simp [hq]
  ·obtain ⟨a,c,e,h1,h2,h3⟩:=HB5.out.bsl;injection e with e0 e1 e2
   subst e0 e2;refine ⟨x5p,x5c,by rw [List.length_take,show min q bs.length=q by omega],by rw [List.length_take];omega,h2,?_⟩
   rcases h3 with h3 | ⟨b,off,rfl,_,h4⟩
   ·exact .inl (by rw [h3,List.take_nil])
   ·exact .inr ⟨b,off,rfl,trivial,fun j x hj=>h4 j x (by rw [List.getElem?_take] at hj;split at hj <;> simp_all)⟩
 have HBn:Hid (BRow (w4.heap.size+1) w5 (.slice x5p n5 x5c) bs):=hid (HN5.out ▸ HB5.out);have HM:Hid (∀ w',Kept (OwnB (.slice x5p n5 x5c)) w5 w'->w'.cell? ⟨P,7,none⟩=some (.slice bp nb bc)):=hid fun w' hk=>hk.cell c7 (fun e=>by have h1:=HBn.out.own _ e;have h2:w4.heap.size+1<=P:=h1;have h3:=HB.out.2.2;have h4:=K4.out.size;omega)
 clear c0 c1 c2 c3 c4 c5 c6 c7 c8
 go_region_held3 (fun w'=>w'.cell? ⟨P,7,none⟩=some (.slice bp nb bc)) (first | exact HM.out _ (kR _ w5).drew | exact HM.out _ ‹Kept (OwnB (.slice x5p n5 x5c)) w5 _›) (first
  | (refine xbm _ (.tmp 54) (.tmp 56) rfl rfl (w4.heap.size+1) _ bs rfl (HBn.out.nope (kR Nope w5).drew) Any_ _ bh rfl ((HD.out.2.1.keep K5.out (fun _ _ _ h=>h)).keep (kR Nope w5).drew (fun _ _ _ h=>h)) (by have h1:=HN5.out;have h2:=HNN.out.2;have h3:=HL.out;omega) HS5.out ?_;intro p6 c6 w6 h6;have hS6:Kept (OwnB (.slice x5p n5 x5c)) w5 w6:=(kR _ w5).drew.trans' h6.2.1;have H6:=hid h6.1;clear h6))
 go_wp2
 (try simp only [Exit.inBlock,Exit.then])
 refine bodyPost_ret (xcQ rfl _ _ _) rfl ?_;have k6:Kept Nope w w6:=K5.out.trans hS6 (fun k hk e=>by have h1:=HBn.out.own k e;have h4:=K4.out.size;omega);exact ⟨k6,.inr ⟨HF.out.1,HF.out.2,HV.out.1,by rw [HNN.out.2];have:=HL.out;omega,bs,H5.out,.inr ⟨_,_,rfl,(show BSl _ w6 _ (bs ++ bh) from H6.out.bsl).mono fun _ _ _=>trivial,HD.out.2.1.keep k6 (fun _ _ _ h=>h)⟩⟩⟩
theorem xdj (a0 a1 a2 a3 a4 a5 a6 a8:Value) (p:Option Addr) (n c:Nat) (w:World):Calls prog 19 #[.agg #[a0,a1,a2,a3,a4,a5,a6,.slice p n c,a8]] w (xjt w):=by
 go_enter func19,ntmps19;go_wp2
 all_goals
  go_ret;exact ⟨_,rfl,(kR _ _).alloc _⟩
theorem xes (w:World) (a:Option Addr) (n c:Nat):Calls prog 30 #[.slice a n c] w fun e w'=>e = .returned (.pointer (some ⟨w.heap.size,0,none⟩))/\w'=w.alloc (.cells #[.slice a n c,.int .i64 0] 92):=by
 go_enter func30,ntmps30;go_wp2;go_ret;exact ⟨rfl,rfl⟩
def Eof (w:World):Prop:=∃ v,xbC v/\w.cell? ⟨0,0,none⟩=some v
theorem Eof.nope {w w':World} (h:Eof w) (hk:Kept Nope w w'):Eof w':=by
 obtain ⟨v,hv,hc⟩:=h;exact ⟨v,hv,hk.cell hc (fun h=>h)⟩
theorem Eof.lt {w:World} (h:Eof w):0 < w.heap.size:=by
 obtain ⟨v,hv,hc⟩:=h;exact World.block_lt_of_cell? w _ hc
theorem Buf.fresh {w w1:World} {y:Value} {D:List UInt8} (he:Eof w) (hk:Kept Nope w w1) (hy:BSl (xaf w) w1 y D) (hl:D.length<=1099511627776):Buf (w1.alloc (.cells #[y,.int .i64 0] 92)) w1.heap.size y D 0 :=
 ⟨Blk.new _ _ _,(hy.mono (S':=fun b=>b≠w1.heap.size) fun b hb _=>by omega).keep ((kR Nope w1).alloc _) (fun _ _ _ h=>h),Nat.zero_le _,hl,he.nope (hk.alloc _),by have:=he.lt;have:=hk.size;omega⟩
structure Three (W:World) (P:Nat) (x y z:Value):Prop where
 b0:Blk W P 23 #[x]
 b1:Blk W (P+1) 26 #[y]
 b2:Blk W (P+1+1) 4 #[z]
def xcw (P:Nat) (b:Nat):Prop:=P<=b/\b < P+3
theorem Buf.keepQ {M:Nat->Prop} {w w':World} {r:Nat} {s:Value} {D:List UInt8} {i:Nat} (h:Buf w r s D i) (hk:Kept M w w') (hr:¬ M r) (hb:BSl (fun b=>b≠r/\¬ M b) w s D) (he:¬ M 0):Buf w' r s D i:=by
 obtain ⟨v,hv,hc⟩:=h.eof;exact ⟨h.blk.kept hk hr,(hb.keep hk (fun b _ hb e=>hb.2 e)).mono fun _ _ hb=>hb.1,h.le,h.small,⟨v,hv,hk.cell hc he⟩,h.ne⟩
theorem xfo {fn:Func} {a b c:Tmp} {t1 t2 t3:TypeId} (h:fn.results = #[.cell a t1,.cell b t2,.cell c t3]) (tmps:Array Value) (P:Program) (w:World) {p1 p2 p3:Addr} {x1 x2 x3:Value}
  (h1:tmps.getD a undef = .pointer (some p1)) (h2:tmps.getD b undef = .pointer (some p2)) (h3:tmps.getD c undef = .pointer (some p3))
  (l1:(loadVar t1 p1).run P w = .ok x1 w) (l2:(loadVar t2 p2).run P w = .ok x2 w) (l3:(loadVar t3 p3).run P w = .ok x3 w) :
  (results fn tmps).run P w = .ok (.tuple #[x1,x2,x3]) w:=by
 simp only [results,h];simp only [Array.getD_eq_getD_getElem?] at h1 h2 h3;simp [Sem.run_bind,Result.andThen,h1,h2,h3,asAddr,l1,l2,l3]
theorem xfW {c x:Nat} (h:c < 256) (hx:x < 256) (hn:c≠x):UInt8.ofNat c≠UInt8.ofNat x:=fun e=>by
 have:=congrArg UInt8.toNat e;simp at this;omega
def LCode (c:UInt8):Prop:=(c≠69/\c≠192/\c≠208)/\c≠193/\c≠209
theorem xbR {c:Nat} (h:c < 256) (h1:c≠69/\c≠192/\c≠208/\c≠193/\c≠209):LCode (UInt8.ofNat c) :=
 ⟨⟨xfW h (x:=69) (by omega) h1.1,xfW h (x:=192) (by omega) h1.2.1,xfW h (x:=208) (by omega) h1.2.2.1⟩,xfW h (x:=193) (by omega) h1.2.2.2.1,xfW h (x:=209) (by omega) h1.2.2.2.2⟩
theorem Form.code {v:V} {c:Nat} {p:List UInt8} (h:Form v c p) :
  (v.kind=21/\((c=69/\p=[]/\v.kids=[])\/(c=192/\∃ d,EncL v.kids d/\d.length+1 < 256/\p=be 1 (d.length+1) ++ be 1 v.kids.length ++ d)\/(c=208/\∃ d,EncL v.kids d/\p=be 4 (d.length+4) ++ be 4 v.kids.length ++ d))) \/
  (v.kind=22/\((c=193/\∃ d,EncL v.kids d/\d.length+1 < 256/\p=be 1 (d.length+1) ++ be 1 v.kids.length ++ d)\/(c=209/\∃ d,EncL v.kids d/\p=be 4 (d.length+4) ++ be 4 v.kids.length ++ d))) \/
  (v.kind≠21/\v.kind≠22/\LCode (UInt8.ofNat c)):=by
 cases h with
 | null h=>exact .inr (.inr ⟨by omega,by omega,xbR (by decide) (by decide)⟩)
 | flag h=>exact .inr (.inr ⟨by omega,by omega,xbR (by omega) (by omega)⟩)
 | bool h=>exact .inr (.inr ⟨by omega,by omega,xbR (by decide) (by decide)⟩)
 | full h =>
  have h2:v.kind=2\/v.kind=3\/v.kind=4\/v.kind=5\/v.kind=6\/v.kind=7\/v.kind=8\/v.kind=9\/v.kind=10\/v.kind=11\/v.kind=12\/v.kind=13\/v.kind=15\/v.kind=16:=by unfold xay at h;omega
  refine .inr (.inr ⟨by omega,by omega,?_⟩)
  rcases h2 with e | e | e | e | e | e | e | e | e | e | e | e | e | e <;> rw [e] <;> exact xbR (by decide) (by decide)
 | uint0 h=>exact .inr (.inr ⟨by omega,by omega,xbR (by decide) (by decide)⟩)
 | ulong0 h=>exact .inr (.inr ⟨by omega,by omega,xbR (by decide) (by decide)⟩)
 | uint1 h=>exact .inr (.inr ⟨by omega,by omega,xbR (by decide) (by decide)⟩)
 | ulong1 h=>exact .inr (.inr ⟨by omega,by omega,xbR (by decide) (by decide)⟩)
 | int1 h=>exact .inr (.inr ⟨by omega,by omega,xbR (by decide) (by decide)⟩)
 | long1 h=>exact .inr (.inr ⟨by omega,by omega,xbR (by decide) (by decide)⟩)
 | wide h =>
  refine .inr (.inr ⟨by omega,by omega,?_⟩)
  rcases h with e | e <;> rw [e] <;> exact xbR (by decide) (by decide)
 | text1 h =>
  refine .inr (.inr ⟨by omega,by omega,?_⟩)
  rcases h with e | e | e <;> rw [e] <;> exact xbR (by decide) (by decide)
 | text4 h =>
  refine .inr (.inr ⟨by omega,by omega,?_⟩)
  rcases h with e | e | e <;> rw [e] <;> exact xbR (by decide) (by decide)
 | list0 h hk=>exact .inl ⟨h,.inl ⟨rfl,rfl,hk⟩⟩
 | @kids1 _ d h hE hn hd =>
  rcases h with h | h
  ·exact .inl ⟨h,.inr (.inl ⟨by rw [h];rfl,d,hE,hd,rfl⟩)⟩
  ·exact .inr (.inl ⟨h,.inl ⟨by rw [h];rfl,d,hE,hd,rfl⟩⟩)
 | @kids4 _ d h hE =>
  rcases h with h | h
  ·exact .inl ⟨h,.inr (.inr ⟨by rw [h];rfl,d,hE,rfl⟩)⟩
  ·exact .inr (.inl ⟨h,.inr ⟨by rw [h];rfl,d,hE,rfl⟩⟩)
 | array1 h=>exact .inr (.inr ⟨by omega,by omega,xbR (by decide) (by decide)⟩)
 | array4 h=>exact .inr (.inr ⟨by omega,by omega,xbR (by decide) (by decide)⟩)
def xbY (k:Int) (v:V) (D:List UInt8):Prop:=∃ bs,Enc v bs/\v.desc=[]/\bs.length < 4294967296/\((∃ m,m < bs.length/\D=bs.take m)\/(v.kind≠k/\∃ bh,D=bs ++ bh))
section
variable (r:Nat) (s:Value) (D:List UInt8) (w:World)
theorem xaP {bs:List UInt8} {m j:Nat} {x:UInt8} (h:bs[j]? = some x) (hj:j < m):(bs.take m)[j]? = some x:=by rw [List.getElem?_take,if_pos hj];exact h
theorem xfB {v:V} (hR:xbY 21 v D) (h:Buf w r s D 0):Calls prog 104 #[.pointer (some ⟨r,0,none⟩)] w (Fails w r):=by
 obtain ⟨bs,hE,hd,hlen,hc⟩:=hR
 cases hE with
 | desc h1 _ _=>rw [hd] at h1;cases h1
 | @plain _ c p _ hF =>
  rcases hc with ⟨m,hm,rfl⟩ | ⟨hk,bh,rfl⟩
  ·simp only [lC] at hm hlen
   match m,hm,h with
   | 0,_,h=>exact xfz r s _ 0 w h (Nat.le_refl _)
   | m+1,hm,h =>
    have hhead:((UInt8.ofNat c :: p).take (m+1))[0]? = some (UInt8.ofNat c):=rfl;have hl:((UInt8.ofNat c :: p).take (m+1)).length=m+1:=by rw [List.length_take,lC];omega
    rcases hF.code with ⟨h21,⟨_,rfl,_⟩ | ⟨rfl,d,_,hd1,rfl⟩ | ⟨rfl,d,_,rfl⟩⟩ | ⟨h22,hx⟩ | ⟨_,_,hA⟩
    ·simp at hm
    ·have hp:(be 1 (d.length+1) ++ be 1 v.kids.length ++ d).length=2+d.length:=by simp;omega
     rcases Nat.lt_or_ge (m+1) 3 with h3 | h3
     ·exact xez r s _ 0 w h hhead (by rw [hl];omega)
     ·have h0:(UInt8.ofNat ((d.length+1) % 256)).toNat=d.length+1:=by simp;omega
      exact xfk r s _ 0 w (UInt8.ofNat ((d.length+1) % 256)) (UInt8.ofNat (v.kids.length % 256)) h hhead (xaP (by simp [be1]) (by omega)) (xaP (by simp [be1]) (by omega)) (by rw [hl,h0];omega)
    ·have hp:(be 4 (d.length+4) ++ be 4 v.kids.length ++ d).length=8+d.length:=by simp;omega
     have hN:Lib.beNat (be 4 (d.length+4))=d.length+4:=by rw [xcT];omega
     rcases Nat.lt_or_ge (m+1) 9 with h3 | h3
     ·exact xey r s _ 0 w h hhead (by rw [hl];omega)
     ·exact xfj r s _ 0 w _ _ _ _ _ _ _ _ h hhead ⟨xaP rfl (by omega),xaP rfl (by omega),xaP rfl (by omega),xaP rfl (by omega),xaP rfl (by omega),xaP rfl (by omega),xaP rfl (by omega),xaP rfl (by omega)⟩
       (by rw [hl];show m+1 < 0+5+Lib.beNat (be 4 (d.length+4));omega)
    ·refine xcm r s _ 0 w _ h hhead ?_
     rcases hx with ⟨rfl,_⟩ | ⟨rfl,_⟩ <;> decide
    ·exact xcm r s _ 0 w _ h hhead hA.1
  ·refine xcm r s _ 0 w (UInt8.ofNat c) h rfl ?_
   rcases hF.code with ⟨h21,_⟩ | ⟨_,⟨rfl,_⟩ | ⟨rfl,_⟩⟩ | ⟨_,_,hA⟩
   ·exact absurd h21 hk
   ·decide
   ·decide
   ·exact hA.1
theorem xdl {v:V} (hR:xbY 22 v D) (h:Buf w r s D 0):Calls prog 100 #[.pointer (some ⟨r,0,none⟩)] w (Fails w r):=by
 obtain ⟨bs,hE,hd,hlen,hc⟩:=hR
 cases hE with
 | desc h1 _ _=>rw [hd] at h1;cases h1
 | @plain _ c p _ hF =>
  rcases hc with ⟨m,hm,rfl⟩ | ⟨hk,bh,rfl⟩
  ·simp only [lC] at hm hlen
   match m,hm,h with
   | 0,_,h=>exact xfP r s _ 0 w h (Nat.le_refl _)
   | m+1,hm,h =>
    have hhead:((UInt8.ofNat c :: p).take (m+1))[0]? = some (UInt8.ofNat c):=rfl;have hl:((UInt8.ofNat c :: p).take (m+1)).length=m+1:=by rw [List.length_take,lC];omega
    rcases hF.code with ⟨h21,hx⟩ | ⟨h22,⟨rfl,d,_,hd1,rfl⟩ | ⟨rfl,d,_,rfl⟩⟩ | ⟨_,_,hA⟩
    ·refine xcu r s _ 0 w _ h hhead ?_
     rcases hx with ⟨rfl,_⟩ | ⟨rfl,_⟩ | ⟨rfl,_⟩ <;> decide
    ·have hp:(be 1 (d.length+1) ++ be 1 v.kids.length ++ d).length=2+d.length:=by simp;omega
     refine xfv r s _ 0 w h hhead fun W hW => ?_
     rcases Nat.lt_or_ge (m+1) 3 with h3 | h3
     ·exact xfx r s _ 1 W hW (by rw [hl];omega)
     ·have h0:(UInt8.ofNat ((d.length+1) % 256)).toNat=d.length+1:=by simp;omega
      exact xfR r s _ 1 W (UInt8.ofNat ((d.length+1) % 256)) (UInt8.ofNat (v.kids.length % 256)) hW (xaP (by simp [be1]) (by omega)) (xaP (by simp [be1]) (by omega)) (by rw [hl,h0];omega)
    ·have hp:(be 4 (d.length+4) ++ be 4 v.kids.length ++ d).length=8+d.length:=by simp;omega
     have hN:Lib.beNat (be 4 (d.length+4))=d.length+4:=by rw [xcT];omega
     refine xfh r s _ 0 w h hhead fun W hW => ?_
     rcases Nat.lt_or_ge (m+1) 9 with h3 | h3
     ·exact xfi r s _ 1 W hW (by rw [hl];omega)
     ·exact xfy r s _ 1 W _ _ _ _ _ _ _ _ hW ⟨xaP rfl (by omega),xaP rfl (by omega),xaP rfl (by omega),xaP rfl (by omega),xaP rfl (by omega),xaP rfl (by omega),xaP rfl (by omega),xaP rfl (by omega)⟩
       (by rw [hl];show m+1 < 1+4+Lib.beNat (be 4 (d.length+4));omega)
    ·exact xcu r s _ 0 w _ h hhead hA.2
  ·refine xcu r s _ 0 w (UInt8.ofNat c) h rfl ?_
   rcases hF.code with ⟨_,⟨rfl,_⟩ | ⟨rfl,_⟩ | ⟨rfl,_⟩⟩ | ⟨h22,_⟩ | ⟨_,_,hA⟩
   ·decide
   ·decide
   ·decide
   ·exact absurd h22 hk
   ·exact hA.2
end
structure xiq (W:World) (x:Value) (t:V) (st cut:Int) (xb:Value) (bs:List UInt8):Prop where
 form:∃ a0 a1 a2 a3 a4 a5,x = .agg #[a0,a1,a2,a3,a4,a5,.int .u64 st,xb,.int .i64 cut]/\VAgg Any_ W (.agg #[a0,a1,a2,a3,a4,a5]) t
 state:0<=st/\st<=18446744073709551615
 cut_:-9223372036854775808<=cut/\cut<=9223372036854775807
 bytes:BSl Any_ W xb bs
def Given (w':World) (v:V) (bh:List UInt8) (x y:Value) (c:Bool):Prop :=
 Fits v/\v.count<=2000/\v.desc=[]/\bh.length<=100/\∃ bs D,Enc v bs/\BSl Any_ w' x D/\((c=true/\∃ m,m < bs.length/\D=bs.take m)\/(c=false/\D=bs ++ bh/\BSl Any_ w' y bh))
theorem xnX.one {w w':World} {v:V} {bh:List UInt8} {e:Ending} (h:xnX w v bh e w'):Kept Nope w w'/\((∃ x y c,e = .returned (.tuple #[x,y,.bool c,.bool false]))\/∃ x y c,e = .returned (.tuple #[x,y,.bool c,.bool true])/\Given w' v bh x y c):=by
 obtain ⟨hk,h | ⟨hf,hc,hd,hb,bs,hE,⟨x,k,he,hl,hx⟩ | ⟨x,y,he,hx,hy⟩⟩⟩:=h
 ·exact ⟨hk,.inl h⟩
 ·exact ⟨hk,.inr ⟨_,_,_,he,hf,hc,hd,hb,bs,_,hE,hx,.inl ⟨rfl,k,hl,rfl⟩⟩⟩
 ·exact ⟨hk,.inr ⟨_,_,_,he,hf,hc,hd,hb,bs,_,hE,hx,.inr ⟨rfl,rfl,hy⟩⟩⟩
theorem xfa {v:V} {bs:List UInt8} (hf:Fits v) (hc:v.count<=2000) (hE:Enc v bs):bs.length<=1000000000:=by
 have h0:=hE.len;have h1:=room_le _ v (Nat.le_refl _) hf;omega
theorem xds {v:V} (hn:Nums v) (ha:Askd v) (hy:xip v):Good v:=good_of _ _ (Nat.le_refl _) hn ha.fits ha.say hy
theorem xeU {v:V} (ha:Askd v):Utf (asRead v):=(utf_of _ _ (Nat.le_refl _) ha.fits).2
theorem xeZ (w:World) (T:TypeId) (bs:List UInt8) (hl:bs.length<=1000):BSl Any_ (w.alloc (.cells (bs.map u8).toArray T)) (.slice (some ⟨w.heap.size,0,none⟩) bs.length bs.length) bs :=
 ⟨some ⟨w.heap.size,0,none⟩,bs.length,rfl,Nat.le_refl _,by unfold maxLen;omega,.inr ⟨w.heap.size,0,rfl,trivial,fun j x hx=>by
  rw [(Blk.new w T (bs.map u8).toArray).cell,Nat.zero_add,gt,gM,hx];rfl⟩⟩
def xdf:V:=.mk 1 1 ⟨#[]⟩ [] 0 []
theorem xhY:Good xdf:=by
 refine .mk ⟨by decide,fun _=>by decide,?_,?_,?_,?_,?_,?_,fun h => ?_,fun _=>rfl,?_,by decide,by decide,fun _=>rfl,.inl (by decide)⟩ rfl (fun _ h=>by cases h) (fun h => ?_) (fun h => ?_)
 all_goals simp only [xdf,V.kind_mk] at *
 all_goals (first | omega | (intro h;omega))
theorem utf_true:Utf (asRead xdf):=by
 rw [xbj];exact .mk (fun h=>by simp only [xdf,V.kind_mk] at h;omega) (fun k h=>by cases h)
theorem xly:prog.cellsOf 39=9:=by kernel_rfl
theorem xig:prog.cellsOf 26=1:=by kernel_rfl
section
variable {H:Type} {enc:TypeId × Value->H} {W:World} {sp:Nat->Bool}
theorem xkc {fuel:Nat} {s:Value} {x:DataW H × List MemPlace} (h:DataW.trod enc prog W 0 sp true fuel 26 [s]=some x):∃ bs:List UInt8,BSl Any_ W s bs:=by
 rcases DataW.trod_slice underlying26 h with ⟨hcs,_⟩ | ⟨a,len,cap,elems,rest,m,rfl,hcs,_,_,hl,hm,hlen,hel,_,_⟩
 ·obtain rfl:=(List.cons.inj hcs).1;exact ⟨[],.nil none 0 (Nat.zero_le _)⟩
 ·obtain rfl:=(List.cons.inj hcs).1
  have hall:∀ i,i < len->∃ z:UInt8,W.cell? (a.add i)=some (u8 z):=fun i hi=>by
   have h1:=hel i hi;rw [ge (by omega),xoq,Nat.mul_one] at h1;obtain ⟨cs,h2,h3⟩:=Option.bind_eq_some_iff.1 h1;obtain ⟨n,rfl,_,hw⟩:=DataW.trod_int underlying5 h3;have h4:=(World.cells?_some h2).2.2 0 (by decide);have h5:=wf_u8_le hw;refine ⟨UInt8.ofNat n.toNat,?_⟩;rw [show (a.add i).add 0=a.add i by simp [Addr.add]] at h4;rw [h4];simp only [gz,u8]
   congr 2
   simp only [UInt8.toNat_ofNat'];omega
  obtain ⟨f,hf⟩:=Go.Deep.choose_lt hall
  rcases Nat.eq_zero_or_pos len with rfl | hpos
  ·exact ⟨[],.nil _ _ hm⟩
  ·obtain ⟨b,off,spot⟩:=a;have hspot:spot=none:=by simpa [Addr.add] using World.cell?_spot (hf 0 hpos)
   subst hspot;have hlen':((List.range len).map f).length=len:=by simp
   refine ⟨(List.range len).map f,some ⟨b,off,none⟩,cap,by rw [hlen'],by rw [hlen'];exact hl,hm,.inr ⟨b,off,rfl,trivial,fun j x hj => ?_⟩⟩
   have hj':j < len:=by
    have:=(gi.1 hj).1;rwa [hlen'] at this
   rw [gM,List.getElem?_range hj'] at hj;obtain rfl:=Option.some.inj hj;have:=hf j hj';rwa [Addr.add_lit] at this
theorem open_Handed {base:Nat} {v:Value} {d:DataW H} {p:List MemPlace} (hval:Value.okWide prog W .any base 39 v) (h:DataW.Trod enc prog W 0 sp true 39 v d p):∃ t st cut xb bs,xiq W v t st cut xb bs:=by
 unfold Value.okWide at hval;rw [underlying39] at hval;obtain ⟨cs,rfl,_⟩:=hval;obtain ⟨fuel,hf⟩:=h;obtain ⟨xs,n,rfl,_,hl,hlen,hf⟩:=DataW.trod_struct underlying39 hf;rw [xly] at hl;obtain ⟨cs⟩:=cs;simp only [Value.cells] at hl hf
 match cs,hl with
 | [c0,c1,c2,c3,c4,c5,c6,c7,c8],_ =>
  match xs,hlen with
  | [y0,y1,y2,y3],_ =>
   have f0:DataW.trod enc prog W 0 sp true n 25 [c0,c1,c2,c3,c4,c5]=some y0:=by
    have h:=hf 0 _ rfl
    simpa [xdW] using h
   have f1:DataW.trod enc prog W 0 sp true n 22 [c6]=some y1:=by
    have h:=hf 1 _ rfl
    simpa [xgd,xdW] using h
   have f2:DataW.trod enc prog W 0 sp true n 26 [c7]=some y2:=by
    have h:=hf 2 _ rfl
    simpa [xgd,xdW,xig] using h
   have f3:DataW.trod enc prog W 0 sp true n 3 [c8]=some y3:=by
    have h:=hf 3 _ rfl
    simpa [xgd,xdW,xig,xif] using h
   obtain ⟨q,e0,q1,q2,q3⟩:=xhM _ _ _ f0;obtain ⟨st,e1,_,w1⟩:=DataW.trod_int underlying22 f1;obtain ⟨bs,hb⟩:=xkc f2;obtain ⟨cut,e3,_,w3⟩:=DataW.trod_int underlying3 f3;obtain rfl:=(List.cons.inj e1).1;obtain rfl:=(List.cons.inj e3).1;simp only [List.cons.injEq,and_true] at e0;obtain ⟨rfl,rfl,rfl,rfl,rfl,rfl⟩:=e0;exact ⟨q.1,st,cut,c7,bs,⟨_,_,_,_,_,_,rfl,_,_,rfl,q1,q2,q3⟩,wf_u64_le w1,xhI w3,hb⟩
end
theorem xoM (bs bh:List UInt8):Lies (bs ++ bh) 0 bs:=fun k x hk=>by
 rw [Nat.zero_add,List.getElem?_append_left (gi.1 hk).1];exact hk
end Go.Proofs.YtmdpodeegdjkeaaGreatDoor
