/- FnReadSymbolMap, part 0 (texts Opn2 Gn0 Gn1 Gn2 Dat Zz1 RdT). No conditions. -/
import Derived.ChangeArms
import Derived.Deep.Slices
import Derived.WideKeyArgs
import Derived.Carry
import Derived.WalkKit
import Derived.Deep.Draws
import Derived.Maps.AppendAt
import Derived.Deep.AppendLies
import Derived.RegionTactic
import Derived.OwnWalk
import Derived.WalkSpells
import Derived.WalkLawsBesides
import Derived.BigQuiet
import Derived.Deep.QuietTactic
import Derived.StillTailTactics
import Derived.Lib.Hide
import Derived.Deep.DeepMust
import Derived.Deep.DeepFit
import Derived.Deep.RegionWith
import Derived.Laws.ResultCell
import Derived.Laws.Tables
import Derived.Laws.CopyOwn
import Derived.Deep.OwnRows
import Derived.LoopTactic
import Derived.IntWalk
import Derived.Outline
import Derived.OrdersHeld
import Derived.Maps.Own
import Derived.Deep.RegionHeld3
import Derived.Deep.DrawnRows
import Derived.Defers
import Derived.Recover
import Derived.Test.YtmdpodeegdjkeaaGreatDoorU5
import Derived.Test.YtmdpodeegdjkeaaGreatDoorU0
import Derived.Test.YtmdpodeegdjkeaaGreatDoorU1
import Derived.Test.YtmdpodeegdjkeaaGreatDoorU2
import Derived.Test.YtmdpodeegdjkeaaGreatDoorU3
import Derived.Test.YtmdpodeegdjkeaaGreatDoorU4
import Derived.Test.YtmdpodeegdjkeaaGreatDoorU6
import Derived.Test.YtmdpodeegdjkeaaGreatDoorU7
import Derived.Test.YtmdpodeegdjkeaaGreatDoorU9
import Derived.Test.YtmdpodeegdjkeaaGreatDoorU17
import Derived.Test.YtmdpodeegdjkeaaGreatDoorU18
import Derived.Test.YtmdpodeegdjkeaaGreatDoorU27
import Derived.Test.YtmdpodeegdjkeaaGreatDoorU36
import Derived.Test.YtmdpodeegdjkeaaGreatDoorU35
import Derived.Test.YtmdpodeegdjkeaaGreatDoorU31
import Derived.Test.YtmdpodeegdjkeaaGreatDoorU8
set_option maxRecDepth 100000
set_option maxHeartbeats 3200000
namespace Go.Proofs.YtmdpodeegdjkeaaGreatDoor
open Go Go.RowKit Go.Lib Tryz
theorem xdW:prog.cellsOf 25=6:=by kernel_rfl
theorem xif:prog.cellsOf 3=1:=by kernel_rfl
theorem xgd:prog.cellsOf 22=1:=by kernel_rfl
theorem xlx:prog.cellsOf 9=1:=by kernel_rfl
theorem xjk:prog.cellsOf 23=1:=by kernel_rfl
theorem xoq:prog.cellsOf 5=1:=by kernel_rfl
theorem xhI {n:Int} (h:(Lit.int .i64 n).wf=true):-9223372036854775808<=n/\n<=9223372036854775807:=by
 unfold Lit.wf at h;rw [Bool.and_eq_true,decide_eq_true_eq,decide_eq_true_eq,show IntKind.i64.min = -9223372036854775808 by decide,show IntKind.i64.max=9223372036854775807 by decide] at h;exact h
theorem wf_u64_le {n:Int} (h:(Lit.int .u64 n).wf=true):0<=n/\n<=18446744073709551615:=by
 unfold Lit.wf at h;rw [Bool.and_eq_true,decide_eq_true_eq,decide_eq_true_eq,show IntKind.u64.min=0 by decide,show IntKind.u64.max=18446744073709551615 by decide] at h;exact h
theorem wf_u8_le {n:Int} (h:(Lit.int .u8 n).wf=true):0<=n/\n<=255:=by
 unfold Lit.wf at h;rw [Bool.and_eq_true,decide_eq_true_eq,decide_eq_true_eq,show IntKind.u8.min=0 by decide,show IntKind.u8.max=255 by decide] at h;exact h
def SixOf (W:World) (cs:List Value) (q:V × Value × Value):Prop :=
 cs=[.int .i64 q.1.kind,.int .u64 q.1.num,.string q.1.text,q.2.1,.int .i64 q.1.of_,q.2.2]/\VNum q.1/\VSl Any_ W q.2.1 q.1.kids/\VSl Any_ W q.2.2 q.1.desc
instance:Inhabited (V × Value × Value):=⟨(.mk 0 0 ⟨#[]⟩ [] 0 [],.nilIface,.nilIface)⟩
section
variable {H:Type} {enc:TypeId × Value->H} {W:World} {sp:Nat->Bool}
theorem xhJ {fuel:Nat} {s:Value} {x:DataW H × List MemPlace} (h:DataW.trod enc prog W 0 sp true fuel 23 [s]=some x)
  (ih:∀ m cs y,m < fuel->DataW.trod enc prog W 0 sp true m 25 cs=some y->∃ q,SixOf W cs q):∃ l,VSl Any_ W s l:=by
 rcases DataW.trod_slice underlying23 h with ⟨hcs,_⟩ | ⟨a,len,cap,elems,rest,m,rfl,hcs,_,_,hl,hm,hlen,hel,_,_⟩
 ·obtain rfl:=(List.cons.inj hcs).1;exact ⟨[],.nil none 0 (Nat.zero_le _)⟩
 ·obtain rfl:=(List.cons.inj hcs).1
  have hall:∀ i,i < len->∃ q:V × Value × Value,∃ cs,W.cells? 0 (a.add (i*6)) 6=some cs/\SixOf W cs q:=fun i hi=>by
   have h1:=hel i hi;rw [ge (by omega),xdW] at h1;obtain ⟨cs,h2,h3⟩:=Option.bind_eq_some_iff.1 h1;obtain ⟨q,hq⟩:=ih m cs _ (Nat.lt_succ_self m) h3;exact ⟨q,cs,h2,hq⟩
  obtain ⟨f,hf⟩:=Go.Deep.choose_lt hall
  rcases Nat.eq_zero_or_pos len with rfl | hpos
  ·exact ⟨[],.nil _ _ hm⟩
  ·obtain ⟨b,off,spot⟩:=a
   have hspot:spot=none:=by
    obtain ⟨cs,h1,h2⟩:=hf 0 hpos;have h3:=(World.cells?_some h1).2.2 0 (by decide);rw [h2.1] at h3
    simpa [Addr.add] using World.cell?_spot h3
   subst hspot;have hlen':((List.range len).map fun i=>(f i).1).length=len:=by simp
   have hget:∀ i v,((List.range len).map fun i=>(f i).1)[i]? = some v->i < len/\v=(f i).1:=fun i v hv=>by
    have hi:i < len:=by
     have:=(gi.1 hv).1;rwa [hlen'] at this
    refine ⟨hi,?_⟩;rw [gM,List.getElem?_range hi] at hv;exact (Option.some.inj hv).symm
   have key:=VSl.mk (S:=Any_) (w:=W) b off cap ((List.range len).map fun i=>(f i).1) (fun i=>(f i).2.1) (fun i=>(f i).2.2) trivial (by rw [hlen'];exact hpos) (by rw [hlen'];exact hl) hm
    (fun i v hv=>by
     obtain ⟨hi,rfl⟩:=hget i v hv;obtain ⟨cs,h1,h2,h3,_⟩:=hf i hi;have h4:=(World.cells?_some h1).2.2;rw [h2] at h4;have hadd:∀ j,((⟨b,off,none⟩:Addr).add (i*6)).add j=⟨b,off+i*6+j,none⟩:=fun j=>by rw [Addr.add_lit,Addr.add_lit]
     have e0:=h4 0 (by decide);have e1:=h4 1 (by decide);have e2:=h4 2 (by decide);have e3:=h4 3 (by decide);have e4:=h4 4 (by decide);have e5:=h4 5 (by decide);rw [hadd] at e0 e1 e2 e3 e4 e5
     exact ⟨h3,e0,e1,e2,e3,e4,e5⟩)
    (fun i v hv=>by
     obtain ⟨hi,rfl⟩:=hget i v hv;obtain ⟨cs,h1,h2,h3,h4,h5⟩:=hf i hi
     exact h4)
    (fun i v hv=>by
     obtain ⟨hi,rfl⟩:=hget i v hv;obtain ⟨cs,h1,h2,h3,h4,h5⟩:=hf i hi
     exact h5)
   rw [hlen'] at key;exact ⟨_,key⟩
theorem xhM:∀ (fuel:Nat) (cs:List Value) (x:DataW H × List MemPlace),DataW.trod enc prog W 0 sp true fuel 25 cs=some x->∃ q,SixOf W cs q:=by
 intro fuel
 induction fuel using Nat.strongRecOn with
 | _ fuel ih =>
  intro cs x h;obtain ⟨xs,n,rfl,_,hl,hlen,hf⟩:=DataW.trod_struct underlying25 h;rw [xdW] at hl
  match cs,hl with
  | [c0,c1,c2,c3,c4,c5],_ =>
   match xs,hlen with
   | [y0,y1,y2,y3,y4,y5],_ =>
    have f0:DataW.trod enc prog W 0 sp true n 3 [c0]=some y0:=by
     have h:=hf 0 _ rfl
     simpa [xif] using h
    have f1:DataW.trod enc prog W 0 sp true n 22 [c1]=some y1:=by
     have h:=hf 1 _ rfl
     simpa [xgd] using h
    have f2:DataW.trod enc prog W 0 sp true n 9 [c2]=some y2:=by
     have h:=hf 2 _ rfl
     simpa [xlx] using h
    have f3:DataW.trod enc prog W 0 sp true n 23 [c3]=some y3:=by
     have h:=hf 3 _ rfl
     simpa [xjk] using h
    have f4:DataW.trod enc prog W 0 sp true n 3 [c4]=some y4:=by
     have h:=hf 4 _ rfl
     simpa [xif] using h
    have f5:DataW.trod enc prog W 0 sp true n 23 [c5]=some y5:=by
     have h:=hf 5 _ rfl
     simpa [xjk] using h
    obtain ⟨k,e0,_,w0⟩:=DataW.trod_int underlying3 f0;obtain ⟨nm,e1,_,w1⟩:=DataW.trod_int underlying22 f1;obtain ⟨t,e2,_,w2⟩:=DataW.trod_string underlying9 f2;obtain ⟨o,e4,_,w4⟩:=DataW.trod_int underlying3 f4;obtain rfl:=(List.cons.inj e0).1;obtain rfl:=(List.cons.inj e1).1;obtain rfl:=(List.cons.inj e2).1;obtain rfl:=(List.cons.inj e4).1;obtain ⟨l,hk⟩:=xhJ f3 fun m cs y hm hy=>ih m (by omega) cs y hy
    obtain ⟨l',hd⟩:=xhJ f5 fun m cs y hm hy=>ih m (by omega) cs y hy
    exact ⟨(.mk k nm t l o l',c3,c5),rfl,⟨xhI w0,wf_u64_le w1,w2,xhI w4⟩,hk,hd⟩
end
section
variable (r:Nat) (s:Value) (D:List UInt8) (i:Nat) (w:World)
theorem xcM (n:Nat) (h:Buf w r s D i) (hn:D.length < i+n) (hb:n<=4611686018427387904) :
  Calls prog 161 #[.pointer (some ⟨r,0,none⟩),.int .i64 n] w (xac fun _ b w'=>b = .bool false/\At_ w w' r s D D.length):=by
 have hsm:=h.small;have hle:=h.le;have hck:=xch r s D i w n h (by omega) (by omega) (by omega);have c1:w.cell? ⟨r,1,none⟩=some (.int .i64 i):=h.blk.cell 1;have f1:w.frozen? ⟨r,1,none⟩=false:=h.blk.frozen 1;obtain ⟨a,c,rfl,hc,hm,_⟩:=h.bytes;have c0:w.cell? ⟨r,0,none⟩=some (.slice a D.length c):=h.blk.cell 0;have HB:=hid h;have HC:=hid hck;clear h hck;unfold maxLen at hm
 by_cases hci:c=i
 ·subst hci;go_enter func161,ntmps161;go_wp2_with (go_at_call 129;refine HC.out.mono ?_;rintro e w' ⟨rfl,k,rfl⟩);go_quiet (fail);go_wp2;go_ret2;exact ⟨_,_,rfl,rfl,(HB.out.drewN _).move (Nat.le_refl _),((kR (Only r) w).drewN _).set1 1 _⟩
 ·go_enter func161,ntmps161;go_wp2_with (go_at_call 129;refine HC.out.mono ?_;rintro e w' ⟨rfl,k,rfl⟩);go_quiet (fail);go_wp2;go_ret2;exact ⟨_,_,rfl,rfl,(HB.out.drewN _).move (Nat.le_refl _),((kR (Only r) w).drewN _).set1 1 _⟩
theorem xbK (h:Buf w r s D i) (hx:D.length<=i) :
  Calls prog 54 #[.pointer (some ⟨r,0,none⟩)] w (xac fun x v w'=>x = .int .u8 0/\xbC v/\At_ w w' r s D i):=by
 have hsm:=h.small;have hck:=xch r s D i w 1 h (by omega) (by omega) (by omega);obtain ⟨v,hv,ce⟩:=h.eof;have HB:=hid h;have HC:=hid hck;have HV:=hid hv;clear h hck hv;go_enter func54,ntmps54;go_wp2_with (go_at_call 129;refine HC.out.mono ?_;rintro e w' ⟨rfl,k,rfl⟩);go_quiet (fail);go_wp2;go_ret2;rw [World.drewN_drewN];exact ⟨_,v,rfl,rfl,HV.out,HB.out.drewN _,(kR (Only r) w).drewN _⟩
theorem xnP (h:Buf w r s D i) (hx:D.length<=i) :
  Calls prog 166 #[.pointer (some ⟨r,0,none⟩)] w (xac fun x v w'=>x = .int .u8 0/\xbC v/\Drew w w'):=by
 have hsm:=h.small;have hck:=xch r s D i w 1 h (by omega) (by omega) (by omega);obtain ⟨v,hv,ce⟩:=h.eof;have HC:=hid hck;have HV:=hid hv;clear h hck hv;go_enter func166,ntmps166;go_wp2_with (go_at_call 129;refine HC.out.mono ?_;rintro e w' ⟨rfl,k,rfl⟩);go_quiet (fail);go_wp2;go_ret2;exact ⟨_,v,rfl,rfl,HV.out,_,World.drewN_drewN _ _ _⟩
end
section
variable (r:Nat) (s:Value) (D:List UInt8) (i:Nat) (w:World)
theorem xhO (h:Buf w r s D i) (hx:D.length<=i) :
  Calls prog 160 #[.pointer (some ⟨r,0,none⟩)] w (xac fun x v w'=>x = .int .u8 0/\xbC v/\At_ w w' r s D i):=by
 have hc:=xbK r s D i w h hx;have HC:=hid hc;clear hc h hx;go_enter func160,ntmps160;go_wp2_with (go_at_call 54;refine HC.out.mono ?_;rintro e w' ⟨x,v,rfl,rfl,hv,hq⟩;have HQ:=hid (aI hv hq);clear hq hv);go_ret2;exact ⟨_,_,rfl,rfl,HQ.out⟩
theorem xhU (h:Buf w r s D i) (hx:D.length<=i) :
  Calls prog 110 #[.pointer (some ⟨r,0,none⟩)] w (xac fun x v w'=>x = .int .u8 0/\xbC v/\Drew w w'):=by
 have hc:=xnP r s D i w h hx;have HC:=hid hc;clear hc h hx;go_enter func110,ntmps110;go_wp2_with (go_at_call 166;refine HC.out.mono ?_;rintro e w' ⟨x,v,rfl,rfl,hv,hq⟩;have HQ:=hid (aI hv hq);clear hq hv);go_ret2;exact ⟨_,_,rfl,rfl,HQ.out⟩
theorem xah (t:ByteArray):Calls prog 55 #[.string t] w (Gives fun v w'=>xbC v/\Kept Nope w w'):=by
 go_enter func55,ntmps55;go_wp2;go_ret;exact ⟨_,rfl,⟨_,_,rfl⟩,(kR Nope w).alloc _⟩
end
def Fails (w:World) (r:Nat):Ending->World->Prop:=xac fun _ v w'=>xbC v/\Kept (Only r) w w'
section
variable (r:Nat) (s:Value) (D:List UInt8) (i:Nat) (w:World)
theorem xez (h:Buf w r s D i) (hc:D[i]? = some 192) (hl:D.length < i+3) :
  Calls prog 104 #[.pointer (some ⟨r,0,none⟩)] w (Fails w r):=by
  have ht:=xaa r s D i w _ h hc;have HT:=hid ht;clear ht h hc;go_enter func104,ntmps104;go_wp2_with ((go_at_call 160;go_must (refine HT.out.mono ?_;rintro e w1 ⟨rfl,hA1⟩;have H1:=hid hA1;clear hA1)));go_wp2_with ((go_at_call 105;go_must (refine (xaY r s D (i+1) _ H1.out.buf).mono ?_;rintro e w2 ⟨rfl,k2,rfl⟩;have H2:=hid (H1.out.drewN k2))));go_wp2_with ((go_at_call 161;go_must (refine (xcM r s D (i+1) _ 2 H2.out.buf (by omega) (by omega)).mono ?_;rintro e w3 ⟨v,b,rfl,rfl,hA3⟩;have H3:=hid (H2.out.trans hA3);clear hA3)));go_wp2_with ((go_at_call 55;go_must (refine (xah _ _).mono ?_;rintro e w9 ⟨v9,rfl,⟨T,z,rfl⟩,hK9⟩;have H9:=hid (H3.out.nope hK9);clear hK9)));go_ret2;exact ⟨_,_,rfl,⟨_,_,rfl⟩,H9.out.kept⟩
theorem xfk (x0 x1:UInt8) (h:Buf w r s D i) (hc:D[i]? = some 192) (h0:D[i+1]? = some x0) (h1:D[i+2]? = some x1) (hl:D.length < i+2+x0.toNat) :
  Calls prog 104 #[.pointer (some ⟨r,0,none⟩)] w (Fails w r):=by
  have ht:=xaa r s D i w _ h hc;have HT:=hid ht;have hx0:=x0.toNat_lt;have hx1:=x1.toNat_lt;have hi2:=(gi.1 h1).1;have HX:=hid (aI h0 h1);have hsm:=h.small;clear ht h hc h0 h1;have e1:IntKind.i64.wrap ((D.length:Int) - ↑(i+1) - 1)=(D.length:Int) - ↑(i+1) - 1:=IntWalk.i64_in _ (by omega);go_enter func104,ntmps104;go_wp2_with ((go_at_call 160;go_must (refine HT.out.mono ?_;rintro e w1 ⟨rfl,hA1⟩;have H1:=hid hA1;clear hA1)));go_wp2_with ((go_at_call 105;go_must (refine (xaY r s D (i+1) _ H1.out.buf).mono ?_;rintro e w2 ⟨rfl,k2,rfl⟩;have H2:=hid (H1.out.drewN k2))));go_wp2_with (first | (go_at_call 161;go_must (refine (xbd r s D (i+1) _ 2 H2.out.buf (by omega) (by omega)).mono ?_;rintro e w3 ⟨v,b,rfl,rfl,⟨g,off,c4,rfl,hg,hgc,hcm,hcell⟩,hA2⟩;have q0:=hcell 0 x0 (by omega) (by exact HX.out.1);have q1:=hcell 1 x1 (by omega) (by exact HX.out.2);rw [Nat.add_zero] at q0;clear hcell;have H3:=hid (H2.out.trans hA2);clear hA2 hg hcm)) | (go_at_call 55;go_must (refine (xah _ _).mono ?_;rintro e w9 ⟨v9,rfl,⟨T,z,rfl⟩,hK9⟩;have H9:=hid (H3.out.nope hK9);clear hK9)));go_ret2;exact ⟨_,_,rfl,⟨_,_,rfl⟩,H9.out.kept⟩
end
section
variable (r:Nat) (s:Value) (D:List UInt8) (i:Nat) (w:World)
theorem xey (h:Buf w r s D i) (hc:D[i]? = some 208) (hl:D.length < i+9) :
  Calls prog 104 #[.pointer (some ⟨r,0,none⟩)] w (Fails w r):=by
  have ht:=xaa r s D i w _ h hc;have HT:=hid ht;clear ht h hc;go_enter func104,ntmps104;go_wp2_with ((go_at_call 160;go_must (refine HT.out.mono ?_;rintro e w1 ⟨rfl,hA1⟩;have H1:=hid hA1;clear hA1)));go_wp2_with ((go_at_call 105;go_must (refine (xaY r s D (i+1) _ H1.out.buf).mono ?_;rintro e w2 ⟨rfl,k2,rfl⟩;have H2:=hid (H1.out.drewN k2))));go_wp2_with ((go_at_call 161;go_must (refine (xcM r s D (i+1) _ 8 H2.out.buf (by omega) (by omega)).mono ?_;rintro e w3 ⟨v,b,rfl,rfl,hA3⟩;have H3:=hid (H2.out.trans hA3);clear hA3)));go_wp2_with ((go_at_call 55;go_must (refine (xah _ _).mono ?_;rintro e w9 ⟨v9,rfl,⟨T,z,rfl⟩,hK9⟩;have H9:=hid (H3.out.nope hK9);clear hK9)));go_ret2;exact ⟨_,_,rfl,⟨_,_,rfl⟩,H9.out.kept⟩
theorem xfj (x0 x1 x2 x3 x4 x5 x6 x7:UInt8) (h:Buf w r s D i) (hc:D[i]? = some 208) (h0:D[i+1]? = some x0/\D[i+2]? = some x1/\D[i+3]? = some x2/\D[i+4]? = some x3/\D[i+5]? = some x4/\D[i+6]? = some x5/\D[i+7]? = some x6/\D[i+8]? = some x7) (hl:D.length < i+5+Lib.beNat [x0,x1,x2,x3]) :
  Calls prog 104 #[.pointer (some ⟨r,0,none⟩)] w (Fails w r):=by
  have ht:=xaa r s D i w _ h hc;have HT:=hid ht;have hb:=xba x0 x1 x2 x3;have hb':=xba x4 x5 x6 x7;generalize hN:Lib.beNat [x0,x1,x2,x3]=N at *;generalize hM:Lib.beNat [x4,x5,x6,x7]=M at *;have HN:=hid (aI hN hM);have hx1:(N:Int)<=4294967295:=by omega
  have hx2:(0:Int)<=N:=by omega
  have hx3:(M:Int)<=4294967295:=by omega
  have hx4:(0:Int)<=M:=by omega
  have HX:=hid h0;have hle:=h.le;have hsm:=h.small;have hi9:=(gi.1 h0.2.2.2.2.2.2.2).1;clear ht h hc h0 hN hM hb hb';have e1:IntKind.i64.wrap ((D.length:Int) - ↑(i+1) - 4)=(D.length:Int) - ↑(i+1) - 4:=IntWalk.i64_in _ (by omega);go_enter func104,ntmps104;go_wp2_with ((go_at_call 160;go_must (refine HT.out.mono ?_;rintro e w1 ⟨rfl,hA1⟩;have H1:=hid hA1;clear hA1)));go_wp2_with ((go_at_call 105;go_must (refine (xaY r s D (i+1) _ H1.out.buf).mono ?_;rintro e w2 ⟨rfl,k2,rfl⟩;have H2:=hid (H1.out.drewN k2))));go_wp2_with ((go_at_call 161;go_must (refine (xbd r s D (i+1) _ 8 H2.out.buf (by omega) (by omega)).mono ?_;rintro e w3 ⟨v,b,rfl,rfl,⟨g,off,c4,rfl,hg,hgc,hcm,hcell⟩,hA2⟩;have HQ:=hid (eight HX.out hcell);have q7:=HQ.out.2.2;have hc48:¬ c4=4:=(by omega);have hc8:(8:Int)<=(c4:Int):=(by omega);have hc44:(4:Int)<=(c4:Int):=(by omega);clear hcell;have H3:=hid (H2.out.trans hA2);clear hA2 hg hcm)));refine wp_region_tail 3 (by kernel_rfl) (by kernel_rfl) (fun K hK => ?_);simp only [List.take_succ_cons,List.take_zero,List.drop_succ_cons,List.drop_zero] at hK ⊢
  repeat still_step
  refine wpStill_nil (hK _ ?_);clear hK K;go_wp2_with (first | (go_at_call 162;go_must (refine (xfl _ g off 4 c4 x0 x1 x2 x3 (by omega) (by exact HQ.out.1)).mono ?_;rw [HN.out.1];rintro e w5 ⟨rfl,hK5⟩;have HQ5:=hid (fun j x hx=>hK5.cell (HQ.out.2.1 j x hx) (fun h=>h));have H5:=hid (H3.out.drew.nope hK5);clear hK5)) | (go_at_call 55;go_must (refine (xah _ _).mono ?_;rintro e w9 ⟨v9,rfl,⟨T,z,rfl⟩,hK9⟩;have H9:=hid (H5.out.nope hK9);clear hK9)));go_ret2;exact ⟨_,_,rfl,⟨_,_,rfl⟩,H9.out.kept⟩
end
section
variable (r:Nat) (s:Value) (D:List UInt8) (i:Nat) (w:World)
theorem xfz (h:Buf w r s D i) (hx:D.length<=i) :
  Calls prog 104 #[.pointer (some ⟨r,0,none⟩)] w (Fails w r):=by
  have ht:=xhO r s D i w h hx;have HT:=hid ht;clear ht h hx;go_enter func104,ntmps104;go_wp2_with ((go_at_call 160;go_must (refine HT.out.mono ?_;rintro e w1 ⟨x,v,rfl,rfl,⟨T,z,rfl⟩,hA1⟩;have H1:=hid hA1;clear hA1)));go_ret2;exact ⟨_,_,rfl,⟨_,_,rfl⟩,H1.out.kept⟩
theorem xcm (c:UInt8) (h:Buf w r s D i) (hc:D[i]? = some c) (hn:c≠69/\c≠192/\c≠208) :
  Calls prog 104 #[.pointer (some ⟨r,0,none⟩)] w (Fails w r):=by
  have hn':¬ (c.toNat:Int)=69/\¬ (c.toNat:Int)=192/\¬ (c.toNat:Int)=208:=by
   refine ⟨fun e=>hn.1 (UInt8.toNat.inj (Int.ofNat.inj e)),fun e=>hn.2.1 (UInt8.toNat.inj (Int.ofNat.inj e)),fun e=>hn.2.2 (UInt8.toNat.inj (Int.ofNat.inj e))⟩
  obtain ⟨n0,n1,n2⟩:=hn';have ht:=xaa r s D i w _ h hc;have HT:=hid ht;have hle:=h.le;have hsm:=h.small;clear ht h hc hn;go_enter func104,ntmps104;go_wp2_with (first | (go_at_call 160;go_must (refine HT.out.mono ?_;rintro e w1 ⟨rfl,hA1⟩;have H1:=hid hA1;clear hA1)) | (go_at_call 105;go_must (refine (xaY r s D (i+1) _ H1.out.buf).mono ?_;rintro e w2 ⟨rfl,k2,rfl⟩;have H2:=hid (H1.out.drewN k2))) | (go_at_call 55;go_must (refine (xah _ _).mono ?_;rintro e w9 ⟨v9,rfl,⟨T,z,rfl⟩,hK9⟩;have H9:=hid (H2.out.nope hK9);clear hK9)));go_ret2;exact ⟨_,_,rfl,⟨_,_,rfl⟩,H9.out.kept⟩
theorem xfx (h:Buf w r s D i) (hl:D.length < i+2) :
  Calls prog 152 #[.pointer (some ⟨r,0,none⟩)] w (Fails w r):=by
  have HB:=hid h;clear h;go_enter func152,ntmps152;go_wp2_with ((go_at_call 105;go_must (refine (xaY r s D i _ HB.out).mono ?_;rintro e w2 ⟨rfl,k2,rfl⟩;have H2:=hid ((At_.refl HB.out).drewN k2))));go_wp2_with ((go_at_call 161;go_must (refine (xcM r s D (i) _ 2 H2.out.buf (by omega) (by omega)).mono ?_;rintro e w3 ⟨v,b,rfl,rfl,hA3⟩;have H3:=hid (H2.out.trans hA3);clear hA3)));go_wp2_with ((go_at_call 55;go_must (refine (xah _ _).mono ?_;rintro e w9 ⟨v9,rfl,⟨T,z,rfl⟩,hK9⟩;have H9:=hid (H3.out.nope hK9);clear hK9)));go_ret2;exact ⟨_,_,rfl,⟨_,_,rfl⟩,H9.out.kept⟩
theorem xfR (x0 x1:UInt8) (h:Buf w r s D i) (h0:D[i]? = some x0) (h1:D[i+1]? = some x1) (hl:D.length < i+1+x0.toNat) :
  Calls prog 152 #[.pointer (some ⟨r,0,none⟩)] w (Fails w r):=by
  have HB:=hid h;have hx0:=x0.toNat_lt;have hx1:=x1.toNat_lt;have hi2:=(gi.1 h1).1;have HX:=hid (aI h0 h1);have hsm:=h.small;clear h h0 h1;have e1:IntKind.i64.wrap ((D.length:Int) - ↑i - 1)=(D.length:Int) - ↑i - 1:=IntWalk.i64_in _ (by omega);go_enter func152,ntmps152;go_wp2_with ((go_at_call 105;go_must (refine (xaY r s D i _ HB.out).mono ?_;rintro e w2 ⟨rfl,k2,rfl⟩;have H2:=hid ((At_.refl HB.out).drewN k2))));go_wp2_with (first | (go_at_call 161;go_must (refine (xbd r s D (i) _ 2 H2.out.buf (by omega) (by omega)).mono ?_;rintro e w3 ⟨v,b,rfl,rfl,⟨g,off,c4,rfl,hg,hgc,hcm,hcell⟩,hA2⟩;have q0:=hcell 0 x0 (by omega) (by exact HX.out.1);have q1:=hcell 1 x1 (by omega) (by exact HX.out.2);rw [Nat.add_zero] at q0;clear hcell;have H3:=hid (H2.out.trans hA2);clear hA2 hg hcm)) | (go_at_call 55;go_must (refine (xah _ _).mono ?_;rintro e w9 ⟨v9,rfl,⟨T,z,rfl⟩,hK9⟩;have H9:=hid (H3.out.nope hK9);clear hK9)));go_ret2;exact ⟨_,_,rfl,⟨_,_,rfl⟩,H9.out.kept⟩
theorem xfi (h:Buf w r s D i) (hl:D.length < i+8) :
  Calls prog 153 #[.pointer (some ⟨r,0,none⟩)] w (Fails w r):=by
  have HB:=hid h;clear h;go_enter func153,ntmps153;go_wp2_with ((go_at_call 105;go_must (refine (xaY r s D i _ HB.out).mono ?_;rintro e w2 ⟨rfl,k2,rfl⟩;have H2:=hid ((At_.refl HB.out).drewN k2))));go_wp2_with ((go_at_call 161;go_must (refine (xcM r s D (i) _ 8 H2.out.buf (by omega) (by omega)).mono ?_;rintro e w3 ⟨v,b,rfl,rfl,hA3⟩;have H3:=hid (H2.out.trans hA3);clear hA3)));go_wp2_with ((go_at_call 55;go_must (refine (xah _ _).mono ?_;rintro e w9 ⟨v9,rfl,⟨T,z,rfl⟩,hK9⟩;have H9:=hid (H3.out.nope hK9);clear hK9)));go_ret2;exact ⟨_,_,rfl,⟨_,_,rfl⟩,H9.out.kept⟩
theorem xfy (x0 x1 x2 x3 x4 x5 x6 x7:UInt8) (h:Buf w r s D i) (h0:D[i]? = some x0/\D[i+1]? = some x1/\D[i+2]? = some x2/\D[i+3]? = some x3/\D[i+4]? = some x4/\D[i+5]? = some x5/\D[i+6]? = some x6/\D[i+7]? = some x7) (hl:D.length < i+4+Lib.beNat [x0,x1,x2,x3]) :
  Calls prog 153 #[.pointer (some ⟨r,0,none⟩)] w (Fails w r):=by
  have HB:=hid h;have hb:=xba x0 x1 x2 x3;have hb':=xba x4 x5 x6 x7;generalize hN:Lib.beNat [x0,x1,x2,x3]=N at *;generalize hM:Lib.beNat [x4,x5,x6,x7]=M at *;have HN:=hid (aI hN hM);have hx1:(N:Int)<=4294967295:=by omega
  have hx2:(0:Int)<=N:=by omega
  have hx3:(M:Int)<=4294967295:=by omega
  have hx4:(0:Int)<=M:=by omega
  have HX:=hid h0;have hle:=h.le;have hsm:=h.small;have hi9:=(gi.1 h0.2.2.2.2.2.2.2).1;clear h h0 hN hM hb hb';have e1:IntKind.i64.wrap ((D.length:Int) - ↑i - 4)=(D.length:Int) - ↑i - 4:=IntWalk.i64_in _ (by omega);go_enter func153,ntmps153;go_wp2_with ((go_at_call 105;go_must (refine (xaY r s D i _ HB.out).mono ?_;rintro e w2 ⟨rfl,k2,rfl⟩;have H2:=hid ((At_.refl HB.out).drewN k2))));go_wp2_with ((go_at_call 161;go_must (refine (xbd r s D (i) _ 8 H2.out.buf (by omega) (by omega)).mono ?_;rintro e w3 ⟨v,b,rfl,rfl,⟨g,off,c4,rfl,hg,hgc,hcm,hcell⟩,hA2⟩;have HQ:=hid (eight HX.out hcell);have q7:=HQ.out.2.2;have hc48:¬ c4=4:=(by omega);have hc8:(8:Int)<=(c4:Int):=(by omega);have hc44:(4:Int)<=(c4:Int):=(by omega);clear hcell;have H3:=hid (H2.out.trans hA2);clear hA2 hg hcm)));refine wp_region_tail 3 (by kernel_rfl) (by kernel_rfl) (fun K hK => ?_);simp only [List.take_succ_cons,List.take_zero,List.drop_succ_cons,List.drop_zero] at hK ⊢
  repeat still_step
  refine wpStill_nil (hK _ ?_);clear hK K;go_wp2_with (first | (go_at_call 162;go_must (refine (xfl _ g off 4 c4 x0 x1 x2 x3 (by omega) (by exact HQ.out.1)).mono ?_;rw [HN.out.1];rintro e w5 ⟨rfl,hK5⟩;have HQ5:=hid (fun j x hx=>hK5.cell (HQ.out.2.1 j x hx) (fun h=>h));have H5:=hid (H3.out.drew.nope hK5);clear hK5)) | (go_at_call 55;go_must (refine (xah _ _).mono ?_;rintro e w9 ⟨v9,rfl,⟨T,z,rfl⟩,hK9⟩;have H9:=hid (H5.out.nope hK9);clear hK9)));go_ret2;exact ⟨_,_,rfl,⟨_,_,rfl⟩,H9.out.kept⟩
theorem xfv (h:Buf w r s D i) (hc:D[i]? = some 193)
  (hh:∀ W,Buf W r s D (i+1)->Calls prog 152 #[.pointer (some ⟨r,0,none⟩)] W (Fails W r)) :
  Calls prog 100 #[.pointer (some ⟨r,0,none⟩)] w (xac fun _ v w'=>xbC v/\Kept (Only r) w w'):=by
  have ht:=xap r s D i w _ h hc;have HT:=hid ht;have HB:=hid h;have HC:=hid hc;have HH:=hid hh;clear ht h hc hh;go_enter func100,ntmps100;go_wp2_with (first | (go_at_call 110;go_must (refine HT.out.mono ?_;rintro e w1 ⟨rfl,k1,rfl⟩;have H1:=hid ((At_.refl HB.out).drewN k1))) | (go_at_call 54;go_must (refine (xax r s D i _ _ H1.out.buf (by exact HC.out)).mono ?_;rintro e w2 ⟨rfl,hA2⟩;have H2:=hid (H1.out.trans hA2);clear hA2)) | (go_at_call 152;go_must (refine (HH.out _ H2.out.buf).mono ?_;rintro e w3 ⟨x,v,rfl,⟨T,z,rfl⟩,hK3⟩;have H3:=hid (H2.out.kept.trans' hK3);clear hK3)));go_ret2;exact ⟨_,_,rfl,⟨_,_,rfl⟩,H3.out⟩
theorem xfh (h:Buf w r s D i) (hc:D[i]? = some 209)
  (hh:∀ W,Buf W r s D (i+1)->Calls prog 153 #[.pointer (some ⟨r,0,none⟩)] W (Fails W r)) :
  Calls prog 100 #[.pointer (some ⟨r,0,none⟩)] w (xac fun _ v w'=>xbC v/\Kept (Only r) w w'):=by
  have ht:=xap r s D i w _ h hc;have HT:=hid ht;have HB:=hid h;have HC:=hid hc;have HH:=hid hh;clear ht h hc hh;go_enter func100,ntmps100;go_wp2_with (first | (go_at_call 110;go_must (refine HT.out.mono ?_;rintro e w1 ⟨rfl,k1,rfl⟩;have H1:=hid ((At_.refl HB.out).drewN k1))) | (go_at_call 54;go_must (refine (xax r s D i _ _ H1.out.buf (by exact HC.out)).mono ?_;rintro e w2 ⟨rfl,hA2⟩;have H2:=hid (H1.out.trans hA2);clear hA2)) | (go_at_call 153;go_must (refine (HH.out _ H2.out.buf).mono ?_;rintro e w3 ⟨x,v,rfl,⟨T,z,rfl⟩,hK3⟩;have H3:=hid (H2.out.kept.trans' hK3);clear hK3)));go_ret2;exact ⟨_,_,rfl,⟨_,_,rfl⟩,H3.out⟩
theorem xfP (h:Buf w r s D i) (hx:D.length<=i) :
  Calls prog 100 #[.pointer (some ⟨r,0,none⟩)] w (Fails w r):=by
  have ht:=xhU r s D i w h hx;have HT:=hid ht;have HB:=hid h;clear ht h hx;go_enter func100,ntmps100;go_wp2_with ((go_at_call 110;go_must (refine HT.out.mono ?_;rintro e w1 ⟨x,v,rfl,rfl,⟨T,z,rfl⟩,k1,rfl⟩;have H1:=hid ((At_.refl HB.out).drewN k1))));go_ret2;exact ⟨_,_,rfl,⟨_,_,rfl⟩,H1.out.kept⟩
theorem xcu (c:UInt8) (h:Buf w r s D i) (hc:D[i]? = some c) (hn:c≠193/\c≠209) :
  Calls prog 100 #[.pointer (some ⟨r,0,none⟩)] w (Fails w r):=by
  have n0:¬ (c.toNat:Int)=193:=fun e=>hn.1 (UInt8.toNat.inj (Int.ofNat.inj e))
  have n1:¬ (c.toNat:Int)=209:=fun e=>hn.2 (UInt8.toNat.inj (Int.ofNat.inj e))
  have ht:=xap r s D i w _ h hc;have HT:=hid ht;have HB:=hid h;clear ht h hc hn;go_enter func100,ntmps100;go_wp2_with (first | (go_at_call 110;go_must (refine HT.out.mono ?_;rintro e w1 ⟨rfl,k1,rfl⟩;have H1:=hid ((At_.refl HB.out).drewN k1))) | (go_at_call 55;go_must (refine (xah _ _).mono ?_;rintro e w9 ⟨v9,rfl,⟨T,z,rfl⟩,hK9⟩;have H9:=hid (H1.out.nope hK9);clear hK9)));go_ret2;exact ⟨_,_,rfl,⟨_,_,rfl⟩,H9.out.kept⟩
end
theorem EmptyTexts_step (v:V) (w:World) (xa:Value) (ha:VAgg Any_ w xa v) (ih:∀ k,k ∈ v.kids->∀ (W:World) (x:Value),VAgg Any_ W x k->Calls prog 43 #[x] W (xjt W)) :
  Calls prog 43 #[xa] w (xjt w):=by
 obtain ⟨ka,da,rfl,hna,hka,hda⟩:=ha;have HKA:=hid hka;have HI:=hid ih;obtain ⟨p1,c1,rfl,q1,m1⟩:=hka.form;have hlm:v.kids.length<=maxLen:=by omega
 clear hna hka hda ih q1 m1;unfold maxLen at hlm;unfold vagg;obtain ⟨n,hn⟩:∃ m,v.kids.length=m:=⟨_,rfl⟩
 rw [hn] at hlm ⊢;have HL:=hid hn;clear hn;obtain ⟨kd,hkd⟩:∃ m,v.kind=m:=⟨_,rfl⟩
 rw [hkd];clear hkd;go_enter func43,ntmps43;go_wp2;have HT:=Blk.one w #[Value.int .i64 kd,.int .u64 v.num,.string v.text,.slice p1 n c1,.int .i64 v.of_,da] 25;generalize w.alloc (.cells #[Value.int .i64 kd,.int .u64 v.num,.string v.text,.slice p1 n c1,.int .i64 v.of_,da] 25)=W2 at HT ⊢;generalize w.heap.size=A at HT ⊢;have HW:=hid HT;clear HT
 go_loopw [8] (fun c w'=>∃ k:Nat,k<=n/\c = .int .i64 k/\Hid (Kept Nope W2 w')) (fun c _=>n - (RowKit.intOf c).toNat)
 case atStart=>exact ⟨0,by omega,rfl,hid (kR _ _)⟩
 case round =>
  obtain ⟨k,hk,rfl,HR⟩:=hrel;have HKW:=hid (HW.out.2.trans' HR.out)
  by_cases hkn:k < n
  ·have hkn':(k:Int) < (n:Int):=by omega
   have hk0:(0:Int)<=(k:Int):=by omega
   have e1:IntKind.i64.wrap ((k:Int)+1)=(k:Int)+1:=IntWalk.i64_in _ (by omega);have bA:=((HW.out.1.kept HR.out (fun h=>h)).alloc (.cells #[] 0)).cell 0;have bA0:∀ o,(wr.alloc o).cell? ⟨A,0,none⟩=some (.int .i64 kd):=fun o=>by have h:=((HW.out.1.kept HR.out (fun h=>h)).alloc o).cell 0;exact h
   clear bA;obtain ⟨x,hx⟩:∃ u,v.kids[k]? = some u:=⟨v.kids[k]'(by rw [HL.out];exact hkn),ge _⟩
   obtain ⟨b2,off2,cap2,pk,ck,pd,cd,q2,hvx,y0,y1,y2,y3,y4,y5⟩:=(HKA.out.keep HKW.out (fun _ _ _ h=>h)).sixS hx;injection q2 with q2 _ q2'
   subst q2 q2';have HX:=hid (aI hx hvx);clear hx hvx
   by_cases h23:kd=23/\18<=x.kind/\x.kind<=20/\x.text=⟨#[]⟩
   ·obtain ⟨rfl,h18,h20,htx⟩:=h23;rw [htx] at y2;go_wp2;go_ret;exact ⟨_,rfl,HKW.out.alloc _⟩
   ·have hc:kd≠23\/(kd=23/\¬ 18<=x.kind)\/(kd=23/\18<=x.kind/\¬ x.kind<=20)\/(kd=23/\18<=x.kind/\x.kind<=20/\¬ x.text=⟨#[]⟩):=by
     by_cases a1:kd=23
     ·by_cases a2:18<=x.kind
      ·by_cases a3:x.kind<=20
       ·exact .inr (.inr (.inr ⟨a1,a2,a3,fun a4=>h23 ⟨a1,a2,a3,a4⟩⟩))
       ·exact .inr (.inr (.inl ⟨a1,a2,a3⟩))
      ·exact .inr (.inl ⟨a1,a2⟩)
     ·exact .inl a1
    clear h23
    rcases hc with a1 | ⟨rfl,a2⟩ | ⟨rfl,a2,a3⟩ | ⟨rfl,a2,a3,a4⟩
    ·have f1:(kd == 23)=false:=by simpa using a1
     clear a1;go_wp2_with (go_at_call 43;go_must (refine (HI.out x (gm HX.out.1) _ _ (HX.out.2.alloc _)).mono ?_;rintro e w1 ⟨b,rfl,hk1⟩;have H1:=hid (((kR Nope wr).alloc _).trans' hk1);clear hk1;cases b))
     ·go_roundw
      case rel=>exact ⟨k+1,by omega,by go_num,hid (HR.out.trans' H1.out)⟩
      case measure=>simp [RowKit.intOf];omega
     ·go_ret;exact ⟨_,rfl,HKW.out.trans' H1.out⟩
    ·have f1:x.kind < 18:=by omega
     clear a2;go_wp2_with (go_at_call 43;go_must (refine (HI.out x (gm HX.out.1) _ _ (HX.out.2.alloc _)).mono ?_;rintro e w1 ⟨b,rfl,hk1⟩;have H1:=hid (((kR Nope wr).alloc _).trans' hk1);clear hk1;cases b))
     ·go_roundw
      case rel=>exact ⟨k+1,by omega,by go_num,hid (HR.out.trans' H1.out)⟩
      case measure=>simp [RowKit.intOf];omega
     ·go_ret;exact ⟨_,rfl,HKW.out.trans' H1.out⟩
    ·have f1:20 < x.kind:=by omega
     clear a3;go_wp2_with (go_at_call 43;go_must (refine (HI.out x (gm HX.out.1) _ _ (HX.out.2.alloc _)).mono ?_;rintro e w1 ⟨b,rfl,hk1⟩;have H1:=hid (((kR Nope wr).alloc _).trans' hk1);clear hk1;cases b))
     ·go_roundw
      case rel=>exact ⟨k+1,by omega,by go_num,hid (HR.out.trans' H1.out)⟩
      case measure=>simp [RowKit.intOf];omega
     ·go_ret;exact ⟨_,rfl,HKW.out.trans' H1.out⟩
    ·have f1:¬ x.text.toList=[]:=xoc a4;have f2:x.text.toList.isEmpty=false:=by cases h:x.text.toList with | nil=>exact absurd h f1 | cons a l=>rfl
     clear a4;go_wp2_with (go_at_call 43;go_must (refine (HI.out x (gm HX.out.1) _ _ (HX.out.2.alloc _)).mono ?_;rintro e w1 ⟨b,rfl,hk1⟩;have H1:=hid (((kR Nope wr).alloc _).trans' hk1);clear hk1;cases b))
     ·go_roundw
      case rel=>exact ⟨k+1,by omega,by go_num,hid (HR.out.trans' H1.out)⟩
      case measure=>simp [RowKit.intOf];omega
     ·go_ret;exact ⟨_,rfl,HKW.out.trans' H1.out⟩
  ·obtain rfl:k=n:=by omega
   have hlt:¬ (k:Int) < (k:Int):=by omega
   go_wp2;go_ret;exact ⟨_,rfl,HKW.out⟩
theorem xiP:∀ (n:Nat) (v:V),SizeOf.sizeOf v<=n->∀ (w:World) (xa:Value),VAgg Any_ w xa v->Calls prog 43 #[xa] w (xjt w):=by
 intro n
 induction n using Nat.strongRecOn with
 | _ n ih =>
  intro v hn w xa ha
  exact EmptyTexts_step v w xa ha fun k hk W x hx=>by
   have hs:=V.sizeOf_kid hk;exact ih (SizeOf.sizeOf k) (by omega) k (Nat.le_refl _) W x hx
theorem xku (v:V) (w:World) (xa:Value) (ha:VAgg Any_ w xa v):Calls prog 43 #[xa] w (xjt w):=xiP _ v (Nat.le_refl _) w xa ha
theorem annUn_ok (w0 w:World) (r:Nat) (s:Value) (D:List UInt8) (i0 p:Nat) (t:TypeId) (l:List V) (m:Nat) (pos:Nat->Nat) (i:Nat) (h0:Buf w0 r s D i0) (hA:At_ w0 w r s D i) (hp:w0.heap.size<=p) (hc:Blk w p t #[.map none])
  (hH:∀ W,Buf W r s D i->Calls prog 100 #[.pointer (some ⟨r,0,none⟩)] W fun e W'=>e = .returned (.tuple #[.int .u32 (2*(m:Int)),.nilIface])/\At_ W W' r s D (pos 0)) (hn:l.length=2*m) (hle:m<=32768) (hR:Reads r s D l pos) (hK:xgs l) :
  Calls prog 41 #[.pointer (some ⟨p,0,none⟩),.pointer (some ⟨r,0,none⟩)] w (Gives fun e w'=>e = .nilIface/\xeO w0 r s D (pos (2*m)) p t l m w'):=by
 have HL:=hid hn;have HB:=hid h0;have HA:=hid (aI hA (aI hc hp));have HR:=hid hR;have HK:=hid hK;have hq:(2*(m:Int)).tdiv 2=m:=by rw [Int.tdiv_eq_ediv_of_nonneg (by omega)];omega
 have hqq:IntKind.u32.wrap (m:Int)=m:=u32_in (by omega);have HH:=hid hH;have hpr:¬ Only r p:=fun e=>by have e':p=r:=e;have:=h0.lt;omega
 have HP:=hid hpr;clear h0 hA hp hc hR hK hn hH hpr;have hmk:=fun W=>xdq underlying71 .u32 (m:Int) W
 go_enter func41,ntmps41;go_wp2_with (go_at_call 100;go_must (refine (HH.out _ HA.out.1.buf).mono ?_;rintro e w1 ⟨rfl,hA1⟩;have H1:=hid (aI (HA.out.1.trans hA1) (HA.out.2.1.kept hA1.kept HP.out));clear hA1));have HI:=hid (MInv.start (l:=l) (pos:=pos) H1.out.1 H1.out.2 HA.out.2.2);clear hq hqq hmk;generalize hW:w1.alloc (.map #[] 0)=W at HI ⊢;obtain ⟨b,hb⟩:∃ b,w1.heap.size=b:=⟨_,rfl⟩
 rw [hb] at HI ⊢;clear hW hb H1
 go_loopw [8] (fun c w'=>∃ k:Nat,k<=m/\c = .int .u32 (2*(k:Int))/\Hid (MInv w0 r s D p t b l pos k w')) (fun c _=>2*m - (RowKit.intOf c).toNat)
 case atStart=>exact ⟨0,by omega,rfl,HI⟩
 case round =>
  obtain ⟨k,hk,rfl,HI⟩:=hrel
  by_cases hkn:k < m
  ·have hkn':2*(k:Int) < 2*(m:Int):=by omega
   have e1:IntKind.u32.wrap (2*(k:Int)+2)=2*(k:Int)+2:=u32_in (by omega);have hl1:2*k < l.length:=by rw [HL.out];omega
   have hl2:2*k+1 < l.length:=by rw [HL.out];omega
   obtain ⟨u,hu⟩:∃ v,l[2*k]? = some v:=⟨_,ge hl1⟩
   obtain ⟨v,hv⟩:∃ v,l[2*k+1]? = some v:=⟨_,ge hl2⟩
   have hkl:∀ i,i < k->∃ z,l[2*i]? = some z:=fun i hi=>⟨_,ge (by omega)⟩
   have HV:=hid (aI hu (aI hv hkl));have hko:=HK.out.ok k u hu;have HKO:=hid hko;clear hu hv hkl hl1 hl2 hko;go_wp2_with (first | (go_at_call 53;refine (HR.out _ u HV.out.1 _ HI.out.at_.buf).mono ?_;rintro e w3 ⟨x,y,rfl,rfl,hx,hA3⟩;have H3:=hid (aI hA3 hx);have hx0:=hx.key HKO.out.1;subst hx0;clear hx hA3) | (go_at_call 53;go_must (refine (HR.out _ v HV.out.2.1 _ H3.out.1.buf).mono ?_;rintro e w4 ⟨z,y,rfl,rfl,hz,hA4⟩;have H4:=hid (HI.out.mid HB.out H3.out.1 H3.out.2 hA4 hz);clear hz hA4;obtain ⟨es,hes,hno⟩:=H4.out.fresh HV.out.1 HK.out HV.out.2.2;have H5:=hid (aI hes hno);clear hes hno)) | (at_mapUpdate;go_must (refine xbw rfl (.tmp 44) (.tmp 45) (.tmp 46) 71 rfl rfl rfl rfl H5.out.1 underlying71 (fun W=>xlr HKO.out W) H5.out.2 ?_;intro w6 hm6 hk6;have H6:=hid (H4.out.step HB.out HV.out.1 HV.out.2.1 H5.out.1 hm6 hk6);clear hm6 hk6)));go_roundw
   case rel=>exact ⟨k+1,by omega,by go_num,H6⟩
   case measure=>simp [RowKit.intOf];omega
  ·obtain rfl:k=m:=by omega
   have c4:=HI.out.cell.cell 0;have f4:=HI.out.cell.frozen 0;have hlt:¬ 2*(k:Int) < 2*(k:Int):=by omega
   have HD:=hid (HI.out.done HB.out);go_wp2_with (fail);go_ret;exact ⟨_,rfl,rfl,HD.out⟩
structure TInv (w0:World) (r:Nat) (s:Value) (D:List UInt8) (p:Nat) (t:TypeId) (b:Nat) (l:List V) (pos:Nat->Nat) (k:Nat) (w:World):Prop where
 at_:At_ w0 w r s D (pos (2*k))
 cell:Blk w p t #[.map none]
 big:w0.heap.size<=b
 bigp:w0.heap.size<=p
 ne:p < b
 row:∃ es,MapAt w b es/\es.length=k/\(∀ (i:Nat) (e:Value × Value) (u:V),es[i]? = some e->l[2*i]? = some u->e.1 = .string u.text)/\(∀ (i:Nat) (e:Value × Value) (u:V),es[i]? = some e->l[2*i+1]? = some u->AnyV (fun c=>b < c) w e.2 u)
theorem TInv.start {w0 w:World} {r:Nat} {s:Value} {D:List UInt8} {p:Nat} {t:TypeId} {l:List V} {pos:Nat->Nat}
  (hA:At_ w0 w r s D (pos 0)) (hb:Blk w p t #[.map none]) (hp:w0.heap.size<=p):TInv w0 r s D p t w.heap.size l pos 0 (w.alloc (.map #[] 0)) :=
 ⟨hA.nope ((kR _ _).alloc _),hb.alloc _,hA.kept.size,hp,hb.lt,[],MapAt.new _,rfl,fun i e u he=>by simp at he,fun i e u he=>by simp at he⟩
structure TMid (w0:World) (r:Nat) (s:Value) (D:List UInt8) (p:Nat) (t:TypeId) (b:Nat) (l:List V) (pos:Nat->Nat) (k:Nat) (y:Value) (u v:V) (w:World):Prop where
 at_:At_ w0 w r s D (pos (2*(k+1)))
 cell:Blk w p t #[.map none]
 big:w0.heap.size<=b
 bigp:w0.heap.size<=p
 ne:p < b
 val:AnyV (fun c=>b < c) w y v
 row:∃ es,MapAt w b es/\es.length=k/\(∀ (i:Nat) (e:Value × Value) (u:V),es[i]? = some e->l[2*i]? = some u->e.1 = .string u.text)/\(∀ (i:Nat) (e:Value × Value) (u:V),es[i]? = some e->l[2*i+1]? = some u->AnyV (fun c=>b < c) w e.2 u)
theorem TInv.mid {w0 w w1 w2:World} {r:Nat} {s:Value} {D:List UInt8} {i0 p:Nat} {t:TypeId} {b:Nat} {l:List V} {pos:Nat->Nat} {k:Nat} {y:Value} {u v:V}
  (h:TInv w0 r s D p t b l pos k w) (h0:Buf w0 r s D i0) (hA:At_ w w1 r s D (pos (2*k+1))) (hA2:At_ w1 w2 r s D (pos (2*k+1+1))) (hy:AnyV (xaf w1) w2 y v) :
  TMid w0 r s D p t b l pos k y u v w2:=by
 obtain ⟨es,hm,hl,h1,h2⟩:=h.row;have hr:r < w0.heap.size:=h0.lt;have hpr:¬ Only r p:=fun e=>by have e':p=r:=e;have:=h.bigp;omega
 have hbr:¬ Only r b:=fun e=>by have e':b=r:=e;have:=h.big;omega
 have hS:∀ c:Nat,b < c->¬ Only r c:=fun c hc e=>by have e':c=r:=e;have:=h.big;omega
 have hbw:b < w.heap.size:=hm.lt;have hk:=hA.kept.trans' hA2.kept;refine ⟨h.at_.trans (hA.trans hA2),h.cell.kept hk hpr,h.big,h.bigp,h.ne,?_,es,hm.keep hk hbr,hl,h1,fun i e z he hz=>(h2 i e z he hz).keep hk fun c _ hc=>hS c hc⟩
 ·refine hy.mono fun c hc => ?_
  have hc':w1.heap.size<=c:=hc;have:=hA.kept.size
  show b < c;omega
theorem TMid.step {w0 w w':World} {r:Nat} {s:Value} {D:List UInt8} {i0 p:Nat} {t:TypeId} {b:Nat} {l:List V} {pos:Nat->Nat} {k:Nat} {y:Value} {u v:V} {es:List (Value × Value)}
  (h:TMid w0 r s D p t b l pos k y u v w) (h0:Buf w0 r s D i0) (hu:l[2*k]? = some u) (hv:l[2*k+1]? = some v) (he:MapAt w b es) (hes:MapAt w' b (es ++ [(Value.string u.text,y)])) (hk:Kept (Only b) w w') :
  TInv w0 r s D p t b l pos (k+1) w':=by
 obtain ⟨es',hm,hl,h1,h2⟩:=h.row
 obtain rfl:es'=es:=by
  obtain ⟨a1,c1,g1,e1,_⟩:=hm;obtain ⟨a2,c2,g2,e2,_⟩:=he;rw [g1] at g2;cases g2;rw [<- e1,<- e2]
 have hpb:¬ Only b p:=fun e=>by have e':p=b:=e;have:=h.ne;omega
 have hS:∀ c:Nat,b < c->¬ Only b c:=fun c hc e=>by have e':c=b:=e;omega
 have hbelow:RowKit.Below w0.heap.size w w':=⟨hk.os,hk.tape,hk.output,hk.size,fun c hc=>hk.block c (Nat.lt_of_lt_of_le hc h.at_.kept.size) (fun e=>by have e':c=b:=e;have:=h.big;omega)⟩;refine ⟨h.at_.below h0 hbelow (Nat.le_refl _),h.cell.kept hk hpb,h.big,h.bigp,h.ne,_,hes,by simp [hl],fun i e z hi hz => ?_,fun i e z hi hz => ?_⟩
 ·rcases Nat.lt_or_ge i es'.length with hlt | hge
  ·rw [List.getElem?_append_left hlt] at hi;exact h1 i e z hi hz
  ·have hi':i < (es' ++ [(Value.string u.text,y)]).length:=(gi.1 hi).1;obtain rfl:i=k:=by simp at hi';omega
   rw [List.getElem?_append_right hge,<- hl] at hi;simp at hi;subst hi;rw [hu] at hz;cases hz
   rfl
 ·rcases Nat.lt_or_ge i es'.length with hlt | hge
  ·rw [List.getElem?_append_left hlt] at hi;exact (h2 i e z hi hz).keep hk fun c _ hc=>hS c hc
  ·have hi':i < (es' ++ [(Value.string u.text,y)]).length:=(gi.1 hi).1;obtain rfl:i=k:=by simp at hi';omega
   rw [List.getElem?_append_right hge,<- hl] at hi;simp at hi;subst hi;rw [hv] at hz;cases hz;exact h.val.keep hk fun c _ hc=>hS c hc
structure xkm (l:List V):Prop where
 ne:∀ (i j:Nat) (u u':V),i < j->l[2*i]? = some u->l[2*j]? = some u'->u.text≠u'.text
def xql (r:Nat) (s:Value) (D:List UInt8) (l:List V) (pos:Nat->Nat):Prop :=
 (∀ k u,l[2*k]? = some u->∀ W,Buf W r s D (pos (2*k))->Calls prog 107 #[.pointer (some ⟨r,0,none⟩)] W fun e W'=>e = .returned (.tuple #[.string u.text,.nilIface])/\At_ W W' r s D (pos (2*k+1))) /\
 ∀ k v,l[2*k+1]? = some v->∀ W,Buf W r s D (pos (2*k+1))->Calls prog 53 #[.pointer (some ⟨r,0,none⟩)] W (xac fun x e W'=>e = .nilIface/\AnyV (xaf W) W' x v/\At_ W W' r s D (pos (2*k+1+1)))
theorem xqf (t:ByteArray) (W:World):(Instr.checkKey false 10000 83 (.string t)).run prog W = .ok () W:=by kernel_rfl
theorem TMid.fresh {w0 w:World} {r:Nat} {s:Value} {D:List UInt8} {p:Nat} {t:TypeId} {b:Nat} {l:List V} {pos:Nat->Nat} {k:Nat} {y:Value} {u v:V} {kt:TypeId} (hkt:prog.underlying kt=some .string)
  (h:TMid w0 r s D p t b l pos k y u v w) (hu:l[2*k]? = some u) (hK:xkm l) (hkl:∀ i,i < k->∃ z,l[2*i]? = some z):∃ es,MapAt w b es/\xeN kt (.string u.text) es:=by
 obtain ⟨es,hm,hl,h1,h2⟩:=h.row;refine ⟨es,hm,xeN.text hkt fun e he => ?_⟩;obtain ⟨i,hi⟩:=List.mem_iff_getElem?.1 he;have hi':i < es.length:=(gi.1 hi).1;obtain ⟨z,hz⟩:=hkl i (by omega);exact ⟨z.text,h1 i e z hi hz,hK.ne i k z u (by omega) hz hu⟩
def xgm (w0:World) (r:Nat) (s:Value) (D:List UInt8) (j p:Nat) (t:TypeId) (l:List V) (m:Nat) (w:World):Prop :=
 At_ w0 w r s D j/\∃ b es,Blk w p t #[.map (some b)]/\w0.heap.size<=b/\MapAt w b es/\es.length=m/\(∀ (i:Nat) (e:Value × Value) (u:V),es[i]? = some e->l[2*i]? = some u->e.1 = .string u.text)/\(∀ (i:Nat) (e:Value × Value) (u:V),es[i]? = some e->l[2*i+1]? = some u->AnyV (xaf w0) w e.2 u)
theorem TInv.done {w0 w:World} {r:Nat} {s:Value} {D:List UInt8} {i0 p:Nat} {t:TypeId} {b:Nat} {l:List V} {pos:Nat->Nat} {m:Nat}
  (h:TInv w0 r s D p t b l pos m w) (h0:Buf w0 r s D i0):xgm w0 r s D (pos (2*m)) p t l m (w.setCell ⟨p,0,none⟩ (.map (some b))):=by
 obtain ⟨es,hm,hl,h1,h2⟩:=h.row;have hks:∀ u,Kept (Only p) w (w.setCell ⟨p,0,none⟩ u):=fun u=>(kR _ _).set1 0 u
 have hS:∀ c:Nat,b < c->¬ Only p c:=fun c hc e=>by have e':c=p:=e;have:=h.ne;omega
 have hab:∀ c:Nat,b < c->xaf w0 c:=fun c hc=>by have:=h.big;show w0.heap.size<=c;omega
 exact ⟨h.at_.setNew h0 h.bigp _,b,es,by simpa using h.cell.set_ 0 (.map (some b)),h.big,hm.keep (hks _) (fun e=>by have e':b=p:=e;have:=h.ne;omega),hl,h1,
  fun i e u he hu=>((h2 i e u he hu).keep (hks _) fun c _ hc=>hS c hc).mono hab⟩
theorem xmW (w0 w:World) (r:Nat) (s:Value) (D:List UInt8) (i0 p:Nat) (t:TypeId) (l:List V) (m:Nat) (pos:Nat->Nat) (i:Nat) (h0:Buf w0 r s D i0) (hA:At_ w0 w r s D i) (hp:w0.heap.size<=p) (hc:Blk w p t #[.map none])
  (hH:∀ W,Buf W r s D i->Calls prog 100 #[.pointer (some ⟨r,0,none⟩)] W fun e W'=>e = .returned (.tuple #[.int .u32 (2*(m:Int)),.nilIface])/\At_ W W' r s D (pos 0)) (hn:l.length=2*m) (hle:m<=32768) (hR:xql r s D l pos) (hK:xkm l) :
  Calls prog 48 #[.pointer (some ⟨p,0,none⟩),.pointer (some ⟨r,0,none⟩)] w (Gives fun e w'=>e = .nilIface/\xgm w0 r s D (pos (2*m)) p t l m w'):=by
 have HL:=hid hn;have HB:=hid h0;have HA:=hid (aI hA (aI hc hp));have HR:=hid hR;have HK:=hid hK;have hq:(2*(m:Int)).tdiv 2=m:=by rw [Int.tdiv_eq_ediv_of_nonneg (by omega)];omega
 have hqq:IntKind.u32.wrap (m:Int)=m:=u32_in (by omega);have HH:=hid hH;have hpr:¬ Only r p:=fun e=>by have e':p=r:=e;have:=h0.lt;omega
 have HP:=hid hpr;clear h0 hA hp hc hR hK hn hH hpr;have hmk:=fun W=>xdq underlying81 .u32 (m:Int) W
 go_enter func48,ntmps48;go_wp2_with (go_at_call 100;go_must (refine (HH.out _ HA.out.1.buf).mono ?_;rintro e w1 ⟨rfl,hA1⟩;have H1:=hid (aI (HA.out.1.trans hA1) (HA.out.2.1.kept hA1.kept HP.out));clear hA1));have HI:=hid (TInv.start (l:=l) (pos:=pos) H1.out.1 H1.out.2 HA.out.2.2);clear hq hqq hmk;generalize hW:w1.alloc (.map #[] 0)=W at HI ⊢;obtain ⟨b,hb⟩:∃ b,w1.heap.size=b:=⟨_,rfl⟩
 rw [hb] at HI ⊢;clear hW hb H1
 go_loopw [8] (fun c w'=>∃ k:Nat,k<=m/\c = .int .u32 (2*(k:Int))/\Hid (TInv w0 r s D p t b l pos k w')) (fun c _=>2*m - (RowKit.intOf c).toNat)
 case atStart=>exact ⟨0,by omega,rfl,HI⟩
 case round =>
  obtain ⟨k,hk,rfl,HI⟩:=hrel
  by_cases hkn:k < m
  ·have hkn':2*(k:Int) < 2*(m:Int):=by omega
   have e1:IntKind.u32.wrap (2*(k:Int)+2)=2*(k:Int)+2:=u32_in (by omega);have hl1:2*k < l.length:=by rw [HL.out];omega
   have hl2:2*k+1 < l.length:=by rw [HL.out];omega
   obtain ⟨u,hu⟩:∃ v,l[2*k]? = some v:=⟨_,ge hl1⟩
   obtain ⟨v,hv⟩:∃ v,l[2*k+1]? = some v:=⟨_,ge hl2⟩
   have hkl:∀ i,i < k->∃ z,l[2*i]? = some z:=fun i hi=>⟨_,ge (by omega)⟩
   have HV:=hid (aI hu (aI hv hkl));clear hu hv hkl hl1 hl2;go_wp2_with (first | (go_at_call 107;go_must (refine (HR.out.1 _ u HV.out.1 _ HI.out.at_.buf).mono ?_;rintro e w3 ⟨rfl,hA3⟩;have H3:=hid hA3;clear hA3)) | (go_at_call 53;go_must (refine (HR.out.2 _ v HV.out.2.1 _ H3.out.buf).mono ?_;rintro e w4 ⟨z,y,rfl,rfl,hz,hA4⟩;have H4:=hid (HI.out.mid (u:=u) HB.out H3.out hA4 hz);clear hz hA4;obtain ⟨es,hes,hno⟩:=H4.out.fresh underlying83 HV.out.1 HK.out HV.out.2.2;have H5:=hid (aI hes hno);clear hes hno)) | (at_mapUpdate;go_must (refine xbw rfl (.tmp 44) (.tmp 45) (.tmp 46) 81 rfl rfl rfl rfl H5.out.1 underlying81 (fun W=>xqf u.text W) H5.out.2 ?_;intro w6 hm6 hk6;have H6:=hid (H4.out.step HB.out HV.out.1 HV.out.2.1 H5.out.1 hm6 hk6);clear hm6 hk6)));go_roundw
   case rel=>exact ⟨k+1,by omega,by go_num,H6⟩
   case measure=>simp [RowKit.intOf];omega
  ·obtain rfl:k=m:=by omega
   have c4:=HI.out.cell.cell 0;have f4:=HI.out.cell.frozen 0;have hlt:¬ 2*(k:Int) < 2*(k:Int):=by omega
   have HD:=hid (HI.out.done HB.out);go_wp2_with (fail);go_ret;exact ⟨_,rfl,rfl,HD.out⟩
theorem xlg (w0 w:World) (r:Nat) (s:Value) (D:List UInt8) (i p:Nat) (hA:At_ w0 w r s D i)
  (hH:∀ W,Buf W r s D i->Calls prog 100 #[.pointer (some ⟨r,0,none⟩)] W (Fails W r)) :
  Calls prog 48 #[.pointer (some ⟨p,0,none⟩),.pointer (some ⟨r,0,none⟩)] w (Gives fun e w'=>xbC e/\Kept (Only r) w w'):=by
 have HA:=hid hA;have HH:=hid hH;clear hA hH;go_enter func48,ntmps48;go_wp2_with (first | (go_at_call 100;go_must (refine (HH.out _ HA.out.buf).mono ?_;rintro e w1 ⟨x,v,rfl,⟨T,z,rfl⟩,hK⟩;have H1:=hid hK;clear hK)));go_ret;exact ⟨_,rfl,⟨_,_,rfl⟩,H1.out⟩
theorem in_ok (q:Int) (s:Value) (ks:List Int) (w:World) (hs:CSl Any_ w 1 s ks.length (ks.map fun k => .int .i64 k)):Calls prog 44 #[.int .i64 q,s] w (AskT (q ∈ ks) w):=by
 obtain ⟨_,A,c,rfl,hnc,hcm,hc⟩:=hs;have HC:=hid hc;clear hc;unfold maxLen at hcm;obtain ⟨n,hnn⟩:∃ n,ks.length=n:=⟨_,rfl⟩
 have HL:=hid hnn;rw [hnn] at hnc ⊢;clear hnn;go_enter func44,ntmps44;go_wp2
 go_loop [9] (fun i=>∃ k:Nat,k<=n/\i = .int .i64 k) (fun i=>n - (RowKit.intOf i).toNat)
 case atStart=>exact ⟨0,Nat.zero_le _,rfl⟩
 case round =>
  obtain ⟨k,hk,rfl⟩:=hrel
  by_cases hlt:k < n
  ·have hlt':(k:Int) < (n:Int):=by omega
   have hk0:(0:Int)<=(k:Int):=by omega
   obtain ⟨x,hx⟩:∃ x,ks[k]? = some x:=⟨ks[k]'(by rw [HL.out];exact hlt),ge _⟩
   obtain ⟨b,off,rfl,hcell⟩:∃ b off,A=some ⟨b,off,none⟩/\∀ j u,(ks.map fun k=>Value.int .i64 k)[j]? = some u->w.cell? ⟨b,off+j,none⟩=some u:=by
    rcases HC.out with h0 | ⟨b,off,h1,_,h2⟩
    ·rw [HL.out] at h0;omega
    ·exact ⟨b,off,h1,h2⟩
   have cx:w.cell? ⟨b,off+k,none⟩=some (.int .i64 x):=hcell k _ (by rw [gM,hx];rfl);have HX:=hid hx;clear hcell hx
   by_cases he:x=q
   ·subst he;go_wp2;go_ret;exact ⟨.inl ⟨rfl,gm HX.out⟩,kR _ _⟩
   ·have he':(x == q)=false:=by simpa using he
    go_wp2
    go_round
    case rel=>exact ⟨k+1,by omega,by go_num⟩
    case measure=>simp [RowKit.intOf];omega
  ·obtain rfl:k=n:=by omega
   have hl:¬ (k:Int) < (k:Int):=by omega
   go_wp2;go_ret;exact ⟨.inr rfl,kR _ _⟩
theorem nine {W W':World} {P:Nat} {a0 a1 a2 a3 a4 a5 a6 a7 a8:Value} (h0:Blk W P 39 #[a0,a1,a2,a3,a4,a5,a6,a7,a8]) (hk:Kept Nope W W') :
  W'.cell? ⟨P,0,none⟩=some a0/\W'.cell? ⟨P,1,none⟩=some a1/\W'.cell? ⟨P,2,none⟩=some a2/\W'.cell? ⟨P,3,none⟩=some a3/\W'.cell? ⟨P,4,none⟩=some a4/\W'.cell? ⟨P,5,none⟩=some a5 /\
  W'.cell? ⟨P,6,none⟩=some a6/\W'.cell? ⟨P,7,none⟩=some a7/\W'.cell? ⟨P,8,none⟩=some a8:=by
 have g0:=h0.kept hk (fun h=>h);exact ⟨g0.cell 0,g0.cell 1,g0.cell 2,g0.cell 3,g0.cell 4,g0.cell 5,g0.cell 6,g0.cell 7,g0.cell 8⟩
def xnX (w:World) (v:V) (bh:List UInt8):Ending->World->Prop:=fun e w'=>Kept Nope w w' /\
  ((∃ x y c,e = .returned (.tuple #[x,y,.bool c,.bool false])) \/
   (Fits v/\v.count<=2000/\v.desc=[]/\bh.length<=100/\∃ bs,Enc v bs /\
     ((∃ x k,e = .returned (.tuple #[x,.slice none 0 0,.bool true,.bool true])/\k < bs.length/\BSl Any_ w' x (bs.take k)) \/
      (∃ x y,e = .returned (.tuple #[x,y,.bool false,.bool true])/\BSl Any_ w' x (bs ++ bh)/\BSl Any_ w' y bh))))
theorem xcQ {fn:Func} {t u v z:Tmp} (h:fn.results = #[.tmp t,.tmp u,.tmp v,.tmp z]) (tmps:Array Value) (P:Program) (w:World) :
  (results fn tmps).run P w = .ok (.tuple #[tmps.getD t undef,tmps.getD u undef,tmps.getD v undef,tmps.getD z undef]) w:=by
 simp [results,h]
theorem xgP (w:World) (v:V) (a0 a1 a2 a3 a4 a5 xb:Value) (st cut:Int) (bh:List UInt8) (hv:VAgg Any_ w (.agg #[a0,a1,a2,a3,a4,a5]) v) (hst:0<=st/\st < 18446744073709551616) (hcut:-9223372036854775808<=cut/\cut<=9223372036854775807) (hb:BSl Any_ w xb bh) (hT:Tabs w) :
  Calls prog 21 #[.agg #[a0,a1,a2,a3,a4,a5,.int .u64 st,xb,.int .i64 cut]] w (xnX w v bh):=by
 have hv':=hv;obtain ⟨kv,dv,e,hnv,hkv,hdv⟩:=hv';obtain ⟨pkv,ckv,rfl,_⟩:=hkv.form;obtain ⟨pdv,cdv,rfl,_⟩:=hdv.form;unfold vagg at e;simp only [Value.agg.injEq,Array.mk.injEq,List.cons.injEq,and_true] at e;obtain ⟨rfl,rfl,rfl,rfl,rfl,rfl⟩:=e;have HD:=hid (aI hv (aI hb (aI hT (aI hst hcut))));obtain ⟨bp,bc,rfl,_⟩:=hb;clear hv hkv hdv hnv hT;obtain ⟨nl,hnl⟩:∃ n,v.kids.length=n:=⟨_,rfl⟩
 obtain ⟨nd,hnd⟩:∃ n,v.desc.length=n:=⟨_,rfl⟩
 obtain ⟨nb,hnb⟩:∃ n,bh.length=n:=⟨_,rfl⟩
 rw [hnl,hnd,hnb] at HD ⊢;have HNN:=hid (aI hnd hnb);clear hnl hnd hnb;go_enter func21,ntmps21;go_wp2_with fail;obtain ⟨P,hP⟩:∃ P,w.heap.size=P:=⟨_,rfl⟩
 obtain ⟨W1,hW1⟩:∃ W1,w.alloc (.cells #[.int .i64 v.kind,.int .u64 v.num,.string v.text,.slice pkv nl ckv,.int .i64 v.of_,.slice pdv nd cdv,.int .u64 st,.slice bp nb bc,.int .i64 cut] 39)=W1:=⟨_,rfl⟩
 have hB0:Blk W1 P 39 #[.int .i64 v.kind,.int .u64 v.num,.string v.text,.slice pkv nl ckv,.int .i64 v.of_,.slice pdv nd cdv,.int .u64 st,.slice bp nb bc,.int .i64 cut]:=by rw [<- hW1,<- hP];exact Blk.new w 39 _
 have hK1:Kept Nope w W1:=by rw [<- hW1];exact (kR Nope w).alloc _
 rw [hW1]
 (try rw [hP])
 have HB:=hid (aI hB0 (aI hK1 hP));clear hB0 hK1 hW1 hP;refine (xhf v 6 _ _ (by omega) (HD.out.1.keep HB.out.2.1 (fun _ _ _ h=>h)) (HD.out.2.2.1.nope HB.out.2.1)).mono ?_;rintro e w2 ⟨⟨rfl,hf⟩ | rfl,hk2⟩
 case inr =>
  have K2:=hid (HB.out.2.1.trans' hk2);clear hk2;go_wp2
  (try simp only [Exit.inBlock,Exit.then])
  refine bodyPost_ret (xcQ rfl _ _ _) rfl ?_;exact ⟨K2.out,.inl ⟨_,_,_,rfl⟩⟩
 have HF:=hid hf;clear hf;have K2:=hid (HB.out.2.1.trans' hk2);have J2:=hid hk2;clear hk2;obtain ⟨c0,c1,c2,c3,c4,c5,c6,c7,c8⟩:=nine HB.out.1 J2.out;go_wp2_with fail;refine (xjs Fits (fun v hv=>⟨hv.own.few,hv.own.desc,fun k hk=>(List.mem_append.1 hk).elim hv.kid hv.descr⟩) _ v (Nat.le_refl _) HF.out.1 _ _ (HD.out.1.keep K2.out (fun _ _ _ h=>h))).mono ?_;rintro e w3 ⟨nv,rfl,hk3⟩;have K3:=hid (K2.out.trans' hk3);have J3:=hid (J2.out.trans' hk3);clear hk3 c0 c1 c2 c3 c4 c5 c6 c7 c8;obtain ⟨c0,c1,c2,c3,c4,c5,c6,c7,c8⟩:=nine HB.out.1 J3.out;go_wp2_with fail
 all_goals first
  | ((try simp only [Exit.inBlock,Exit.then]);refine bodyPost_ret (xcQ rfl _ _ _) rfl ?_;exact ⟨K3.out,.inl ⟨_,_,_,rfl⟩⟩)
  | skip
 have HL:Hid (nb<=100):=hid (by omega);obtain rfl:nd=0:=by omega
 refine (xku v _ _ (HD.out.1.keep K3.out (fun _ _ _ h=>h))).mono ?_;rintro e w4 ⟨b4,rfl,hk4⟩;have K4:=hid (K3.out.trans' hk4);have J4:=hid (J3.out.trans' hk4);clear hk4 c0 c1 c2 c3 c4 c5 c6 c7 c8;obtain ⟨c0,c1,c2,c3,c4,c5,c6,c7,c8⟩:=nine HB.out.1 J4.out;cases b4
 case true =>
  go_wp2
  (try simp only [Exit.inBlock,Exit.then])
  refine bodyPost_ret (xcQ rfl _ _ _) rfl ?_;exact ⟨K4.out,.inl ⟨_,_,_,rfl⟩⟩
 have hdn:v.desc=[]:=List.eq_nil_of_length_eq_zero HNN.out.1;have HV:=hid (aI hdn (put_all _ v (Nat.le_refl _) HF.out.1 HD.out.1.nums (by have h1:=room_le _ v (Nat.le_refl _) HF.out.1;have h2:=HF.out.2;omega)).1);clear hdn;go_wp2_with fail;refine (HV.out.2 _ w4.heap.size _ ⟨st,false,Blk.new w4 _ _,HD.out.2.2.2.1⟩ (((HD.out.1.keep K4.out (fun _ _ _ h=>h)).mono (S':=fun b=>b≠w4.heap.size) fun b hb _=>Nat.ne_of_lt hb).keep ((kR Nope w4).alloc _) (fun _ _ _ h=>h))).mono ?_;rintro e w5 ⟨x5,bs,rfl,hb5,he5,_,hk5⟩;obtain ⟨x5p,x5c,rfl⟩:=hb5.form;rw [World.size_alloc] at hb5;have HB5:=hid hb5;have H5:=hid he5;have HS5:Hid (w4.heap.size+1<=w5.heap.size):=hid (by have h1:=hk5.size;rw [World.size_alloc] at h1;exact h1);have K5:=hid ((K4.out.alloc _).trans hk5 (fun k hk e=>by have e':k=w4.heap.size:=e;have h1:=K4.out.size;omega));have J5:=hid ((J4.out.alloc _).trans hk5 (fun k hk e=>by have e':k=w4.heap.size:=e;have h1:=J4.out.size;omega));clear hb5 he5 hk5 c0 c1 c2 c3 c4 c5 c6 c7 c8;obtain ⟨c0,c1,c2,c3,c4,c5,c6,c7,c8⟩:=nine HB.out.1 J5.out;have hlen:bs.length<=1000000000:=by have h0:=H5.out.len;have h1:=room_le _ v (Nat.le_refl _) HF.out.1;have h2:=HF.out.2;omega
 obtain ⟨n5,hn5⟩:∃ n5,bs.length=n5:=⟨_,rfl⟩
 rw [hn5] at hlen ⊢
 have hc5:n5<=x5c:=by
  obtain ⟨p,c,e,h1,_⟩:=HB5.out.bsl;injection e with _ e1 e2
  omega
 have HN5:=hid hn5;clear hn5;go_wp2_with fail
 ·(try simp only [Exit.inBlock,Exit.then])
  refine bodyPost_ret (xcQ rfl _ _ _) rfl ?_;have hne:0 < bs.length:=by cases H5.out <;> simp
  have hc:0 < cut:=by assumption
  have hn:=HN5.out;obtain ⟨q,hq⟩:∃ q:Nat,(n5:Int) - min cut n5=q:=⟨((n5:Int) - min cut n5).toNat,by omega⟩
  refine ⟨K5.out,.inr ⟨HF.out.1,HF.out.2,HV.out.1,by rw [HNN.out.2];have:=HL.out;omega,bs,H5.out,.inl ⟨.slice x5p q x5c,q,?_,by omega,?_⟩⟩⟩
  ·simp [hq]
  ·obtain ⟨a,c,e,h1,h2,h3⟩:=HB5.out.bsl;injection e with e0 e1 e2
   subst e0 e2;refine ⟨x5p,x5c,by rw [List.length_take,show min q bs.length=q by omega],by rw [List.length_take];omega,h2,?_⟩
   rcases h3 with h3 | ⟨b,off,rfl,_,h4⟩
   ·exact .inl (by rw [h3,List.take_nil])
   ·exact .inr ⟨b,off,rfl,trivial,fun j x hj=>h4 j x (by rw [List.getElem?_take] at hj;split at hj <;> simp_all)⟩
 have HBn:Hid (BRow (w4.heap.size+1) w5 (.slice x5p n5 x5c) bs):=hid (HN5.out ▸ HB5.out);have HM:Hid (∀ w',Kept (OwnB (.slice x5p n5 x5c)) w5 w'->w'.cell? ⟨P,7,none⟩=some (.slice bp nb bc)):=hid fun w' hk=>hk.cell c7 (fun e=>by have h1:=HBn.out.own _ e;have h2:w4.heap.size+1<=P:=h1;have h3:=HB.out.2.2;have h4:=K4.out.size;omega)
 clear c0 c1 c2 c3 c4 c5 c6 c7 c8
 go_region_held3 (fun w'=>w'.cell? ⟨P,7,none⟩=some (.slice bp nb bc)) (first | exact HM.out _ (kR _ w5).drew | exact HM.out _ ‹Kept (OwnB (.slice x5p n5 x5c)) w5 _›) (first
  | (refine xbm _ (.tmp 54) (.tmp 56) rfl rfl (w4.heap.size+1) _ bs rfl (HBn.out.nope (kR Nope w5).drew) Any_ _ bh rfl ((HD.out.2.1.keep K5.out (fun _ _ _ h=>h)).keep (kR Nope w5).drew (fun _ _ _ h=>h)) (by have h1:=HN5.out;have h2:=HNN.out.2;have h3:=HL.out;omega) HS5.out ?_;intro p6 c6 w6 h6;have hS6:Kept (OwnB (.slice x5p n5 x5c)) w5 w6:=(kR _ w5).drew.trans' h6.2.1;have H6:=hid h6.1;clear h6))
 go_wp2
 (try simp only [Exit.inBlock,Exit.then])
 refine bodyPost_ret (xcQ rfl _ _ _) rfl ?_;have k6:Kept Nope w w6:=K5.out.trans hS6 (fun k hk e=>by have h1:=HBn.out.own k e;have h4:=K4.out.size;omega);exact ⟨k6,.inr ⟨HF.out.1,HF.out.2,HV.out.1,by rw [HNN.out.2];have:=HL.out;omega,bs,H5.out,.inr ⟨_,_,rfl,(show BSl _ w6 _ (bs ++ bh) from H6.out.bsl).mono fun _ _ _=>trivial,HD.out.2.1.keep k6 (fun _ _ _ h=>h)⟩⟩⟩
theorem xdj (a0 a1 a2 a3 a4 a5 a6 a8:Value) (p:Option Addr) (n c:Nat) (w:World):Calls prog 19 #[.agg #[a0,a1,a2,a3,a4,a5,a6,.slice p n c,a8]] w (xjt w):=by
 go_enter func19,ntmps19;go_wp2
 all_goals
  go_ret;exact ⟨_,rfl,(kR _ _).alloc _⟩
theorem xes (w:World) (a:Option Addr) (n c:Nat):Calls prog 30 #[.slice a n c] w fun e w'=>e = .returned (.pointer (some ⟨w.heap.size,0,none⟩))/\w'=w.alloc (.cells #[.slice a n c,.int .i64 0] 92):=by
 go_enter func30,ntmps30;go_wp2;go_ret;exact ⟨rfl,rfl⟩
def Eof (w:World):Prop:=∃ v,xbC v/\w.cell? ⟨0,0,none⟩=some v
theorem Eof.nope {w w':World} (h:Eof w) (hk:Kept Nope w w'):Eof w':=by
 obtain ⟨v,hv,hc⟩:=h;exact ⟨v,hv,hk.cell hc (fun h=>h)⟩
theorem Eof.lt {w:World} (h:Eof w):0 < w.heap.size:=by
 obtain ⟨v,hv,hc⟩:=h;exact World.block_lt_of_cell? w _ hc
theorem Buf.fresh {w w1:World} {y:Value} {D:List UInt8} (he:Eof w) (hk:Kept Nope w w1) (hy:BSl (xaf w) w1 y D) (hl:D.length<=1099511627776):Buf (w1.alloc (.cells #[y,.int .i64 0] 92)) w1.heap.size y D 0 :=
 ⟨Blk.new _ _ _,(hy.mono (S':=fun b=>b≠w1.heap.size) fun b hb _=>by omega).keep ((kR Nope w1).alloc _) (fun _ _ _ h=>h),Nat.zero_le _,hl,he.nope (hk.alloc _),by have:=he.lt;have:=hk.size;omega⟩
end Go.Proofs.YtmdpodeegdjkeaaGreatDoor
