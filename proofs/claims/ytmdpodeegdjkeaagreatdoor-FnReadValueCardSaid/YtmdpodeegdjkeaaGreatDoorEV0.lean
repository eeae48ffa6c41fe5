/- FnReadValue, part 0 (texts Opn2 Gn0). No conditions. -/
import Derived.ChangeArms
import Derived.Deep.Slices
import Derived.WideKeyArgs
import Derived.Carry
import Derived.WalkKit
import Derived.Deep.Draws
import Derived.Maps.AppendAt
import Derived.Deep.AppendLies
import Derived.RegionTactic
import Derived.OwnWalk
import Derived.WalkSpells
import Derived.WalkLawsBesides
import Derived.BigQuiet
import Derived.Deep.QuietTactic
import Derived.StillTailTactics
import Derived.Lib.Hide
import Derived.Deep.DeepMust
import Derived.Deep.DeepFit
import Derived.Deep.RegionWith
import Derived.Test.YtmdpodeegdjkeaaGreatDoorU5
import Derived.Test.YtmdpodeegdjkeaaGreatDoorU0
import Derived.Test.YtmdpodeegdjkeaaGreatDoorU1
import Derived.Test.YtmdpodeegdjkeaaGreatDoorU2
set_option maxRecDepth 100000
set_option maxHeartbeats 3200000
namespace Go.Proofs.YtmdpodeegdjkeaaGreatDoor
open Go Go.RowKit Go.Lib Tryz
theorem xdW:prog.cellsOf 25=6:=by kernel_rfl
theorem xif:prog.cellsOf 3=1:=by kernel_rfl
theorem xgd:prog.cellsOf 22=1:=by kernel_rfl
theorem xlx:prog.cellsOf 9=1:=by kernel_rfl
theorem xjk:prog.cellsOf 23=1:=by kernel_rfl
theorem xoq:prog.cellsOf 5=1:=by kernel_rfl
theorem xhI {n:Int} (h:(Lit.int .i64 n).wf=true):-9223372036854775808<=n/\n<=9223372036854775807:=by
 unfold Lit.wf at h;rw [Bool.and_eq_true,decide_eq_true_eq,decide_eq_true_eq,show IntKind.i64.min = -9223372036854775808 by decide,show IntKind.i64.max=9223372036854775807 by decide] at h;exact h
theorem wf_u64_le {n:Int} (h:(Lit.int .u64 n).wf=true):0<=n/\n<=18446744073709551615:=by
 unfold Lit.wf at h;rw [Bool.and_eq_true,decide_eq_true_eq,decide_eq_true_eq,show IntKind.u64.min=0 by decide,show IntKind.u64.max=18446744073709551615 by decide] at h;exact h
theorem wf_u8_le {n:Int} (h:(Lit.int .u8 n).wf=true):0<=n/\n<=255:=by
 unfold Lit.wf at h;rw [Bool.and_eq_true,decide_eq_true_eq,decide_eq_true_eq,show IntKind.u8.min=0 by decide,show IntKind.u8.max=255 by decide] at h;exact h
def SixOf (W:World) (cs:List Value) (q:V × Value × Value):Prop :=
 cs=[.int .i64 q.1.kind,.int .u64 q.1.num,.string q.1.text,q.2.1,.int .i64 q.1.of_,q.2.2]/\VNum q.1/\VSl Any_ W q.2.1 q.1.kids/\VSl Any_ W q.2.2 q.1.desc
instance:Inhabited (V × Value × Value):=⟨(.mk 0 0 ⟨#[]⟩ [] 0 [],.nilIface,.nilIface)⟩
section
variable {H:Type} {enc:TypeId × Value->H} {W:World} {sp:Nat->Bool}
theorem xhJ {fuel:Nat} {s:Value} {x:DataW H × List MemPlace} (h:DataW.trod enc prog W 0 sp true fuel 23 [s]=some x)
  (ih:∀ m cs y,m < fuel->DataW.trod enc prog W 0 sp true m 25 cs=some y->∃ q,SixOf W cs q):∃ l,VSl Any_ W s l:=by
 rcases DataW.trod_slice underlying23 h with ⟨hcs,_⟩ | ⟨a,len,cap,elems,rest,m,rfl,hcs,_,_,hl,hm,hlen,hel,_,_⟩
 ·obtain rfl:=(List.cons.inj hcs).1;exact ⟨[],.nil none 0 (Nat.zero_le _)⟩
 ·obtain rfl:=(List.cons.inj hcs).1
  have hall:∀ i,i < len->∃ q:V × Value × Value,∃ cs,W.cells? 0 (a.add (i*6)) 6=some cs/\SixOf W cs q:=fun i hi=>by
   have h1:=hel i hi;rw [ge (by omega),xdW] at h1;obtain ⟨cs,h2,h3⟩:=Option.bind_eq_some_iff.1 h1;obtain ⟨q,hq⟩:=ih m cs _ (Nat.lt_succ_self m) h3;exact ⟨q,cs,h2,hq⟩
  obtain ⟨f,hf⟩:=Go.Deep.choose_lt hall
  rcases Nat.eq_zero_or_pos len with rfl | hpos
  ·exact ⟨[],.nil _ _ hm⟩
  ·obtain ⟨b,off,spot⟩:=a
   have hspot:spot=none:=by
    obtain ⟨cs,h1,h2⟩:=hf 0 hpos;have h3:=(World.cells?_some h1).2.2 0 (by decide);rw [h2.1] at h3
    simpa [Addr.add] using World.cell?_spot h3
   subst hspot;have hlen':((List.range len).map fun i=>(f i).1).length=len:=by simp
   have hget:∀ i v,((List.range len).map fun i=>(f i).1)[i]? = some v->i < len/\v=(f i).1:=fun i v hv=>by
    have hi:i < len:=by
     have:=(gi.1 hv).1;rwa [hlen'] at this
    refine ⟨hi,?_⟩;rw [gM,List.getElem?_range hi] at hv;exact (Option.some.inj hv).symm
   have key:=VSl.mk (S:=Any_) (w:=W) b off cap ((List.range len).map fun i=>(f i).1) (fun i=>(f i).2.1) (fun i=>(f i).2.2) trivial (by rw [hlen'];exact hpos) (by rw [hlen'];exact hl) hm
    (fun i v hv=>by
     obtain ⟨hi,rfl⟩:=hget i v hv;obtain ⟨cs,h1,h2,h3,_⟩:=hf i hi;have h4:=(World.cells?_some h1).2.2;rw [h2] at h4;have hadd:∀ j,((⟨b,off,none⟩:Addr).add (i*6)).add j=⟨b,off+i*6+j,none⟩:=fun j=>by rw [Addr.add_lit,Addr.add_lit]
     have e0:=h4 0 (by decide);have e1:=h4 1 (by decide);have e2:=h4 2 (by decide);have e3:=h4 3 (by decide);have e4:=h4 4 (by decide);have e5:=h4 5 (by decide);rw [hadd] at e0 e1 e2 e3 e4 e5
     exact ⟨h3,e0,e1,e2,e3,e4,e5⟩)
    (fun i v hv=>by
     obtain ⟨hi,rfl⟩:=hget i v hv;obtain ⟨cs,h1,h2,h3,h4,h5⟩:=hf i hi
     exact h4)
    (fun i v hv=>by
     obtain ⟨hi,rfl⟩:=hget i v hv;obtain ⟨cs,h1,h2,h3,h4,h5⟩:=hf i hi
     exact h5)
   rw [hlen'] at key;exact ⟨_,key⟩
theorem xhM:∀ (fuel:Nat) (cs:List Value) (x:DataW H × List MemPlace),DataW.trod enc prog W 0 sp true fuel 25 cs=some x->∃ q,SixOf W cs q:=by
 intro fuel
 induction fuel using Nat.strongRecOn with
 | _ fuel ih =>
  intro cs x h;obtain ⟨xs,n,rfl,_,hl,hlen,hf⟩:=DataW.trod_struct underlying25 h;rw [xdW] at hl
  match cs,hl with
  | [c0,c1,c2,c3,c4,c5],_ =>
   match xs,hlen with
   | [y0,y1,y2,y3,y4,y5],_ =>
    have f0:DataW.trod enc prog W 0 sp true n 3 [c0]=some y0:=by
     have h:=hf 0 _ rfl
     simpa [xif] using h
    have f1:DataW.trod enc prog W 0 sp true n 22 [c1]=some y1:=by
     have h:=hf 1 _ rfl
     simpa [xgd] using h
    have f2:DataW.trod enc prog W 0 sp true n 9 [c2]=some y2:=by
     have h:=hf 2 _ rfl
     simpa [xlx] using h
    have f3:DataW.trod enc prog W 0 sp true n 23 [c3]=some y3:=by
     have h:=hf 3 _ rfl
     simpa [xjk] using h
    have f4:DataW.trod enc prog W 0 sp true n 3 [c4]=some y4:=by
     have h:=hf 4 _ rfl
     simpa [xif] using h
    have f5:DataW.trod enc prog W 0 sp true n 23 [c5]=some y5:=by
     have h:=hf 5 _ rfl
     simpa [xjk] using h
    obtain ⟨k,e0,_,w0⟩:=DataW.trod_int underlying3 f0;obtain ⟨nm,e1,_,w1⟩:=DataW.trod_int underlying22 f1;obtain ⟨t,e2,_,w2⟩:=DataW.trod_string underlying9 f2;obtain ⟨o,e4,_,w4⟩:=DataW.trod_int underlying3 f4;obtain rfl:=(List.cons.inj e0).1;obtain rfl:=(List.cons.inj e1).1;obtain rfl:=(List.cons.inj e2).1;obtain rfl:=(List.cons.inj e4).1;obtain ⟨l,hk⟩:=xhJ f3 fun m cs y hm hy=>ih m (by omega) cs y hy
    obtain ⟨l',hd⟩:=xhJ f5 fun m cs y hm hy=>ih m (by omega) cs y hy
    exact ⟨(.mk k nm t l o l',c3,c5),rfl,⟨xhI w0,wf_u64_le w1,w2,xhI w4⟩,hk,hd⟩
end
section
variable (r:Nat) (s:Value) (D:List UInt8) (i:Nat) (w:World)
theorem xcM (n:Nat) (h:Buf w r s D i) (hn:D.length < i+n) (hb:n<=4611686018427387904) :
  Calls prog 161 #[.pointer (some ⟨r,0,none⟩),.int .i64 n] w (xac fun _ b w'=>b = .bool false/\At_ w w' r s D D.length):=by
 have hsm:=h.small;have hle:=h.le;have hck:=xch r s D i w n h (by omega) (by omega) (by omega);have c1:w.cell? ⟨r,1,none⟩=some (.int .i64 i):=h.blk.cell 1;have f1:w.frozen? ⟨r,1,none⟩=false:=h.blk.frozen 1;obtain ⟨a,c,rfl,hc,hm,_⟩:=h.bytes;have c0:w.cell? ⟨r,0,none⟩=some (.slice a D.length c):=h.blk.cell 0;have HB:=hid h;have HC:=hid hck;clear h hck;unfold maxLen at hm
 by_cases hci:c=i
 ·subst hci;go_enter func161,ntmps161;go_wp2_with (go_at_call 129;refine HC.out.mono ?_;rintro e w' ⟨rfl,k,rfl⟩);go_quiet (fail);go_wp2;go_ret2;exact ⟨_,_,rfl,rfl,(HB.out.drewN _).move (Nat.le_refl _),((kR (Only r) w).drewN _).set1 1 _⟩
 ·go_enter func161,ntmps161;go_wp2_with (go_at_call 129;refine HC.out.mono ?_;rintro e w' ⟨rfl,k,rfl⟩);go_quiet (fail);go_wp2;go_ret2;exact ⟨_,_,rfl,rfl,(HB.out.drewN _).move (Nat.le_refl _),((kR (Only r) w).drewN _).set1 1 _⟩
theorem xbK (h:Buf w r s D i) (hx:D.length<=i) :
  Calls prog 54 #[.pointer (some ⟨r,0,none⟩)] w (xac fun x v w'=>x = .int .u8 0/\xbC v/\At_ w w' r s D i):=by
 have hsm:=h.small;have hck:=xch r s D i w 1 h (by omega) (by omega) (by omega);obtain ⟨v,hv,ce⟩:=h.eof;have HB:=hid h;have HC:=hid hck;have HV:=hid hv;clear h hck hv;go_enter func54,ntmps54;go_wp2_with (go_at_call 129;refine HC.out.mono ?_;rintro e w' ⟨rfl,k,rfl⟩);go_quiet (fail);go_wp2;go_ret2;rw [World.drewN_drewN];exact ⟨_,v,rfl,rfl,HV.out,HB.out.drewN _,(kR (Only r) w).drewN _⟩
theorem xnP (h:Buf w r s D i) (hx:D.length<=i) :
  Calls prog 166 #[.pointer (some ⟨r,0,none⟩)] w (xac fun x v w'=>x = .int .u8 0/\xbC v/\Drew w w'):=by
 have hsm:=h.small;have hck:=xch r s D i w 1 h (by omega) (by omega) (by omega);obtain ⟨v,hv,ce⟩:=h.eof;have HC:=hid hck;have HV:=hid hv;clear h hck hv;go_enter func166,ntmps166;go_wp2_with (go_at_call 129;refine HC.out.mono ?_;rintro e w' ⟨rfl,k,rfl⟩);go_quiet (fail);go_wp2;go_ret2;exact ⟨_,v,rfl,rfl,HV.out,_,World.drewN_drewN _ _ _⟩
end
section
variable (r:Nat) (s:Value) (D:List UInt8) (i:Nat) (w:World)
theorem xgn (h:Buf w r s D i) (hx:D.length < i+2) :
  Calls prog 175 #[.pointer (some ⟨r,0,none⟩)] w (xac fun x v w'=>x = .int .u16 0/\xbC v/\At_ w w' r s D i):=by
 have hsm:=h.small;have hck:=xch r s D i w 2 h (by omega) (by omega) (by omega);obtain ⟨v,hv,ce⟩:=h.eof;have HB:=hid h;have HC:=hid hck;have HV:=hid hv;clear h hck hv;go_enter func175,ntmps175;go_wp2_with (go_at_call 129;refine HC.out.mono ?_;rintro e w' ⟨rfl,k,rfl⟩);go_quiet (fail);go_wp2;go_ret2;rw [World.drewN_drewN];exact ⟨_,v,rfl,rfl,HV.out,HB.out.drewN _,(kR (Only r) w).drewN _⟩
theorem xen (h:Buf w r s D i) (hx:D.length < i+4) :
  Calls prog 176 #[.pointer (some ⟨r,0,none⟩)] w (xac fun x v w'=>x = .int .u32 0/\xbC v/\At_ w w' r s D i):=by
 have hsm:=h.small;have hck:=xch r s D i w 4 h (by omega) (by omega) (by omega);obtain ⟨v,hv,ce⟩:=h.eof;have HB:=hid h;have HC:=hid hck;have HV:=hid hv;clear h hck hv;go_enter func176,ntmps176;go_wp2_with (go_at_call 129;refine HC.out.mono ?_;rintro e w' ⟨rfl,k,rfl⟩);go_quiet (fail);go_wp2;go_ret2;rw [World.drewN_drewN];exact ⟨_,v,rfl,rfl,HV.out,HB.out.drewN _,(kR (Only r) w).drewN _⟩
theorem xdi (h:Buf w r s D i) (hx:D.length < i+8) :
  Calls prog 177 #[.pointer (some ⟨r,0,none⟩)] w (xac fun x v w'=>x = .int .u64 0/\xbC v/\At_ w w' r s D i):=by
 have hsm:=h.small;have hck:=xch r s D i w 8 h (by omega) (by omega) (by omega);obtain ⟨v,hv,ce⟩:=h.eof;have HB:=hid h;have HC:=hid hck;have HV:=hid hv;clear h hck hv;go_enter func177,ntmps177;go_wp2_with (go_at_call 129;refine HC.out.mono ?_;rintro e w' ⟨rfl,k,rfl⟩);go_quiet (fail);go_wp2;go_ret2;rw [World.drewN_drewN];exact ⟨_,v,rfl,rfl,HV.out,HB.out.drewN _,(kR (Only r) w).drewN _⟩
theorem xhO (h:Buf w r s D i) (hx:D.length<=i) :
  Calls prog 160 #[.pointer (some ⟨r,0,none⟩)] w (xac fun x v w'=>x = .int .u8 0/\xbC v/\At_ w w' r s D i):=by
 have hc:=xbK r s D i w h hx;have HC:=hid hc;clear hc h hx;go_enter func160,ntmps160;go_wp2_with (go_at_call 54;refine HC.out.mono ?_;rintro e w' ⟨x,v,rfl,rfl,hv,hq⟩;have HQ:=hid (aI hv hq);clear hq hv);go_ret2;exact ⟨_,_,rfl,rfl,HQ.out⟩
theorem xhU (h:Buf w r s D i) (hx:D.length<=i) :
  Calls prog 110 #[.pointer (some ⟨r,0,none⟩)] w (xac fun x v w'=>x = .int .u8 0/\xbC v/\Drew w w'):=by
 have hc:=xnP r s D i w h hx;have HC:=hid hc;clear hc h hx;go_enter func110,ntmps110;go_wp2_with (go_at_call 166;refine HC.out.mono ?_;rintro e w' ⟨x,v,rfl,rfl,hv,hq⟩;have HQ:=hid (aI hv hq);clear hq hv);go_ret2;exact ⟨_,_,rfl,rfl,HQ.out⟩
theorem xah (t:ByteArray):Calls prog 55 #[.string t] w (Gives fun v w'=>xbC v/\Kept Nope w w'):=by
 go_enter func55,ntmps55;go_wp2;go_ret;exact ⟨_,rfl,⟨_,_,rfl⟩,(kR Nope w).alloc _⟩
end
def Fails (w:World) (r:Nat):Ending->World->Prop:=xac fun _ v w'=>xbC v/\Kept (Only r) w w'
section
variable (r:Nat) (s:Value) (D:List UInt8) (i:Nat) (w:World)
theorem xgB (h:Buf w r s D i) (hc:D[i]? = some 82) (hn:D.length < i+2) :
  Calls prog 115 #[.pointer (some ⟨r,0,none⟩)] w (Fails w r):=by
 have ht:Calls prog 160 #[.pointer (some ⟨r,0,none⟩)] w fun e w'=>e = .returned (.tuple #[.int .u8 82,.nilIface])/\At_ w w' r s D (i+1):=xaa r s D i w 82 h hc
 have HT:=hid ht;clear ht h hc;go_enter func115,ntmps115;go_wp2_with (first | (go_at_call 160;go_must (refine HT.out.mono ?_;rintro e w1 ⟨rfl,hA1⟩;have H1:=hid hA1;clear hA1)) | (go_at_call 54;go_must (refine (xbK r s D (i+1) _ H1.out.buf (by omega)).mono ?_;rintro e w2 ⟨x,v,rfl,rfl,⟨T,z,rfl⟩,hA2⟩;have H2:=hid (H1.out.trans hA2);clear hA2)));go_ret2;exact ⟨_,_,rfl,⟨_,_,rfl⟩,H2.out.kept⟩
theorem xgA (h:Buf w r s D i) (hc:D[i]? = some 112) (hn:D.length < i+5) :
  Calls prog 115 #[.pointer (some ⟨r,0,none⟩)] w (Fails w r):=by
 have ht:Calls prog 160 #[.pointer (some ⟨r,0,none⟩)] w fun e w'=>e = .returned (.tuple #[.int .u8 112,.nilIface])/\At_ w w' r s D (i+1):=xaa r s D i w 112 h hc
 have HT:=hid ht;clear ht h hc;go_enter func115,ntmps115;go_wp2_with (first | (go_at_call 160;go_must (refine HT.out.mono ?_;rintro e w1 ⟨rfl,hA1⟩;have H1:=hid hA1;clear hA1)) | (go_at_call 176;go_must (refine (xen r s D (i+1) _ H1.out.buf (by omega)).mono ?_;rintro e w2 ⟨x,v,rfl,rfl,⟨T,z,rfl⟩,hA2⟩;have H2:=hid (H1.out.trans hA2);clear hA2)));go_ret2;exact ⟨_,_,rfl,⟨_,_,rfl⟩,H2.out.kept⟩
theorem xhi (h:Buf w r s D i) (hc:D[i]? = some 83) (hn:D.length < i+2) :
  Calls prog 116 #[.pointer (some ⟨r,0,none⟩)] w (Fails w r):=by
 have ht:Calls prog 160 #[.pointer (some ⟨r,0,none⟩)] w fun e w'=>e = .returned (.tuple #[.int .u8 83,.nilIface])/\At_ w w' r s D (i+1):=xaa r s D i w 83 h hc
 have HT:=hid ht;clear ht h hc;go_enter func116,ntmps116;go_wp2_with (first | (go_at_call 160;go_must (refine HT.out.mono ?_;rintro e w1 ⟨rfl,hA1⟩;have H1:=hid hA1;clear hA1)) | (go_at_call 54;go_must (refine (xbK r s D (i+1) _ H1.out.buf (by omega)).mono ?_;rintro e w2 ⟨x,v,rfl,rfl,⟨T,z,rfl⟩,hA2⟩;have H2:=hid (H1.out.trans hA2);clear hA2)));go_ret2;exact ⟨_,_,rfl,⟨_,_,rfl⟩,H2.out.kept⟩
theorem xhh (h:Buf w r s D i) (hc:D[i]? = some 128) (hn:D.length < i+9) :
  Calls prog 116 #[.pointer (some ⟨r,0,none⟩)] w (Fails w r):=by
 have ht:Calls prog 160 #[.pointer (some ⟨r,0,none⟩)] w fun e w'=>e = .returned (.tuple #[.int .u8 128,.nilIface])/\At_ w w' r s D (i+1):=xaa r s D i w 128 h hc
 have HT:=hid ht;clear ht h hc;go_enter func116,ntmps116;go_wp2_with (first | (go_at_call 160;go_must (refine HT.out.mono ?_;rintro e w1 ⟨rfl,hA1⟩;have H1:=hid hA1;clear hA1)) | (go_at_call 177;go_must (refine (xdi r s D (i+1) _ H1.out.buf (by omega)).mono ?_;rintro e w2 ⟨x,v,rfl,rfl,⟨T,z,rfl⟩,hA2⟩;have H2:=hid (H1.out.trans hA2);clear hA2)));go_ret2;exact ⟨_,_,rfl,⟨_,_,rfl⟩,H2.out.kept⟩
theorem xhB (h:Buf w r s D i) (hc:D[i]? = some 80) (hn:D.length < i+2) :
  Calls prog 113 #[.pointer (some ⟨r,0,none⟩)] w (Fails w r):=by
 have ht:Calls prog 160 #[.pointer (some ⟨r,0,none⟩)] w fun e w'=>e = .returned (.tuple #[.int .u8 80,.nilIface])/\At_ w w' r s D (i+1):=xaa r s D i w 80 h hc
 have HT:=hid ht;clear ht h hc;go_enter func113,ntmps113;go_wp2_with (first | (go_at_call 160;go_must (refine HT.out.mono ?_;rintro e w1 ⟨rfl,hA1⟩;have H1:=hid hA1;clear hA1)) | (go_at_call 54;go_must (refine (xbK r s D (i+1) _ H1.out.buf (by omega)).mono ?_;rintro e w2 ⟨x,v,rfl,rfl,⟨T,z,rfl⟩,hA2⟩;have H2:=hid (H1.out.trans hA2);clear hA2)));go_ret2;exact ⟨_,_,rfl,⟨_,_,rfl⟩,H2.out.kept⟩
theorem xgz (h:Buf w r s D i) (hc:D[i]? = some 96) (hn:D.length < i+3) :
  Calls prog 114 #[.pointer (some ⟨r,0,none⟩)] w (Fails w r):=by
 have ht:Calls prog 160 #[.pointer (some ⟨r,0,none⟩)] w fun e w'=>e = .returned (.tuple #[.int .u8 96,.nilIface])/\At_ w w' r s D (i+1):=xaa r s D i w 96 h hc
 have HT:=hid ht;clear ht h hc;go_enter func114,ntmps114;go_wp2_with (first | (go_at_call 160;go_must (refine HT.out.mono ?_;rintro e w1 ⟨rfl,hA1⟩;have H1:=hid hA1;clear hA1)) | (go_at_call 175;go_must (refine (xgn r s D (i+1) _ H1.out.buf (by omega)).mono ?_;rintro e w2 ⟨x,v,rfl,rfl,⟨T,z,rfl⟩,hA2⟩;have H2:=hid (H1.out.trans hA2);clear hA2)));go_ret2;exact ⟨_,_,rfl,⟨_,_,rfl⟩,H2.out.kept⟩
theorem xhl (h:Buf w r s D i) (hc:D[i]? = some 81) (hn:D.length < i+2) :
  Calls prog 117 #[.pointer (some ⟨r,0,none⟩)] w (Fails w r):=by
 have ht:Calls prog 160 #[.pointer (some ⟨r,0,none⟩)] w fun e w'=>e = .returned (.tuple #[.int .u8 81,.nilIface])/\At_ w w' r s D (i+1):=xaa r s D i w 81 h hc
 have HT:=hid ht;clear ht h hc;go_enter func117,ntmps117;go_wp2_with (first | (go_at_call 160;go_must (refine HT.out.mono ?_;rintro e w1 ⟨rfl,hA1⟩;have H1:=hid hA1;clear hA1)) | (go_at_call 54;go_must (refine (xbK r s D (i+1) _ H1.out.buf (by omega)).mono ?_;rintro e w2 ⟨x,v,rfl,rfl,⟨T,z,rfl⟩,hA2⟩;have H2:=hid (H1.out.trans hA2);clear hA2)));go_ret2;exact ⟨_,_,rfl,⟨_,_,rfl⟩,H2.out.kept⟩
theorem xhk (h:Buf w r s D i) (hc:D[i]? = some 97) (hn:D.length < i+3) :
  Calls prog 118 #[.pointer (some ⟨r,0,none⟩)] w (Fails w r):=by
 have ht:Calls prog 160 #[.pointer (some ⟨r,0,none⟩)] w fun e w'=>e = .returned (.tuple #[.int .u8 97,.nilIface])/\At_ w w' r s D (i+1):=xaa r s D i w 97 h hc
 have HT:=hid ht;clear ht h hc;go_enter func118,ntmps118;go_wp2_with (first | (go_at_call 160;go_must (refine HT.out.mono ?_;rintro e w1 ⟨rfl,hA1⟩;have H1:=hid hA1;clear hA1)) | (go_at_call 175;go_must (refine (xgn r s D (i+1) _ H1.out.buf (by omega)).mono ?_;rintro e w2 ⟨x,v,rfl,rfl,⟨T,z,rfl⟩,hA2⟩;have H2:=hid (H1.out.trans hA2);clear hA2)));go_ret2;exact ⟨_,_,rfl,⟨_,_,rfl⟩,H2.out.kept⟩
theorem xhq (h:Buf w r s D i) (hc:D[i]? = some 84) (hn:D.length < i+2) :
  Calls prog 119 #[.pointer (some ⟨r,0,none⟩)] w (Fails w r):=by
 have ht:Calls prog 160 #[.pointer (some ⟨r,0,none⟩)] w fun e w'=>e = .returned (.tuple #[.int .u8 84,.nilIface])/\At_ w w' r s D (i+1):=xaa r s D i w 84 h hc
 have HT:=hid ht;clear ht h hc;go_enter func119,ntmps119;go_wp2_with (first | (go_at_call 160;go_must (refine HT.out.mono ?_;rintro e w1 ⟨rfl,hA1⟩;have H1:=hid hA1;clear hA1)) | (go_at_call 54;go_must (refine (xbK r s D (i+1) _ H1.out.buf (by omega)).mono ?_;rintro e w2 ⟨x,v,rfl,rfl,⟨T,z,rfl⟩,hA2⟩;have H2:=hid (H1.out.trans hA2);clear hA2)));go_ret2;exact ⟨_,_,rfl,⟨_,_,rfl⟩,H2.out.kept⟩
theorem xhp (h:Buf w r s D i) (hc:D[i]? = some 113) (hn:D.length < i+5) :
  Calls prog 119 #[.pointer (some ⟨r,0,none⟩)] w (Fails w r):=by
 have ht:Calls prog 160 #[.pointer (some ⟨r,0,none⟩)] w fun e w'=>e = .returned (.tuple #[.int .u8 113,.nilIface])/\At_ w w' r s D (i+1):=xaa r s D i w 113 h hc
 have HT:=hid ht;clear ht h hc;go_enter func119,ntmps119;go_wp2_with (first | (go_at_call 160;go_must (refine HT.out.mono ?_;rintro e w1 ⟨rfl,hA1⟩;have H1:=hid hA1;clear hA1)) | (go_at_call 176;go_must (refine (xen r s D (i+1) _ H1.out.buf (by omega)).mono ?_;rintro e w2 ⟨x,v,rfl,rfl,⟨T,z,rfl⟩,hA2⟩;have H2:=hid (H1.out.trans hA2);clear hA2)));go_ret2;exact ⟨_,_,rfl,⟨_,_,rfl⟩,H2.out.kept⟩
theorem xhQ (h:Buf w r s D i) (hc:D[i]? = some 85) (hn:D.length < i+2) :
  Calls prog 120 #[.pointer (some ⟨r,0,none⟩)] w (Fails w r):=by
 have ht:Calls prog 160 #[.pointer (some ⟨r,0,none⟩)] w fun e w'=>e = .returned (.tuple #[.int .u8 85,.nilIface])/\At_ w w' r s D (i+1):=xaa r s D i w 85 h hc
 have HT:=hid ht;clear ht h hc;go_enter func120,ntmps120;go_wp2_with (first | (go_at_call 160;go_must (refine HT.out.mono ?_;rintro e w1 ⟨rfl,hA1⟩;have H1:=hid hA1;clear hA1)) | (go_at_call 54;go_must (refine (xbK r s D (i+1) _ H1.out.buf (by omega)).mono ?_;rintro e w2 ⟨x,v,rfl,rfl,⟨T,z,rfl⟩,hA2⟩;have H2:=hid (H1.out.trans hA2);clear hA2)));go_ret2;exact ⟨_,_,rfl,⟨_,_,rfl⟩,H2.out.kept⟩
theorem xhP (h:Buf w r s D i) (hc:D[i]? = some 129) (hn:D.length < i+9) :
  Calls prog 120 #[.pointer (some ⟨r,0,none⟩)] w (Fails w r):=by
 have ht:Calls prog 160 #[.pointer (some ⟨r,0,none⟩)] w fun e w'=>e = .returned (.tuple #[.int .u8 129,.nilIface])/\At_ w w' r s D (i+1):=xaa r s D i w 129 h hc
 have HT:=hid ht;clear ht h hc;go_enter func120,ntmps120;go_wp2_with (first | (go_at_call 160;go_must (refine HT.out.mono ?_;rintro e w1 ⟨rfl,hA1⟩;have H1:=hid hA1;clear hA1)) | (go_at_call 177;go_must (refine (xdi r s D (i+1) _ H1.out.buf (by omega)).mono ?_;rintro e w2 ⟨x,v,rfl,rfl,⟨T,z,rfl⟩,hA2⟩;have H2:=hid (H1.out.trans hA2);clear hA2)));go_ret2;exact ⟨_,_,rfl,⟨_,_,rfl⟩,H2.out.kept⟩
theorem xhR (h:Buf w r s D i) (hc:D[i]? = some 86) (hn:D.length < i+2) :
  Calls prog 112 #[.pointer (some ⟨r,0,none⟩)] w (Fails w r):=by
 have ht:Calls prog 160 #[.pointer (some ⟨r,0,none⟩)] w fun e w'=>e = .returned (.tuple #[.int .u8 86,.nilIface])/\At_ w w' r s D (i+1):=xaa r s D i w 86 h hc
 have HT:=hid ht;clear ht h hc;go_enter func112,ntmps112;go_wp2_with (first | (go_at_call 160;go_must (refine HT.out.mono ?_;rintro e w1 ⟨rfl,hA1⟩;have H1:=hid hA1;clear hA1)) | (go_at_call 54;go_must (refine (xbK r s D (i+1) _ H1.out.buf (by omega)).mono ?_;rintro e w2 ⟨x,v,rfl,rfl,⟨T,z,rfl⟩,hA2⟩;have H2:=hid (H1.out.trans hA2);clear hA2)));go_ret2;exact ⟨_,_,rfl,⟨_,_,rfl⟩,H2.out.kept⟩
theorem xhr (h:Buf w r s D i) (hc:D[i]? = some 114) (hn:D.length < i+5) :
  Calls prog 121 #[.pointer (some ⟨r,0,none⟩)] w (Fails w r):=by
 have ht:Calls prog 160 #[.pointer (some ⟨r,0,none⟩)] w fun e w'=>e = .returned (.tuple #[.int .u8 114,.nilIface])/\At_ w w' r s D (i+1):=xaa r s D i w 114 h hc
 have HT:=hid ht;clear ht h hc;have hf:=fun (n:Nat) (w:World)=>xdv n w
 have hf0:∀ w:World,(callFunc 178 #[.int .u32 0]).run prog w = .ok (.value (.float .f32 0)) w:=fun w=>xdv 0 w
 go_enter func121,ntmps121;go_wp2_with (first | (go_at_call 160;go_must (refine HT.out.mono ?_;rintro e w1 ⟨rfl,hA1⟩;have H1:=hid hA1;clear hA1)) | (go_at_call 176;go_must (refine (xen r s D (i+1) _ H1.out.buf (by omega)).mono ?_;rintro e w2 ⟨x,v,rfl,rfl,⟨T,z,rfl⟩,hA2⟩;have H2:=hid (H1.out.trans hA2);clear hA2)));go_ret2;exact ⟨_,_,rfl,⟨_,_,rfl⟩,H2.out.kept⟩
theorem xgF (h:Buf w r s D i) (hc:D[i]? = some 130) (hn:D.length < i+9) :
  Calls prog 122 #[.pointer (some ⟨r,0,none⟩)] w (Fails w r):=by
 have ht:Calls prog 160 #[.pointer (some ⟨r,0,none⟩)] w fun e w'=>e = .returned (.tuple #[.int .u8 130,.nilIface])/\At_ w w' r s D (i+1):=xaa r s D i w 130 h hc
 have HT:=hid ht;clear ht h hc;have hf:=fun (n:Nat) (w:World)=>xdu n w
 have hf0:∀ w:World,(callFunc 179 #[.int .u64 0]).run prog w = .ok (.value (.float .f64 0)) w:=fun w=>xdu 0 w
 go_enter func122,ntmps122;go_wp2_with (first | (go_at_call 160;go_must (refine HT.out.mono ?_;rintro e w1 ⟨rfl,hA1⟩;have H1:=hid hA1;clear hA1)) | (go_at_call 177;go_must (refine (xdi r s D (i+1) _ H1.out.buf (by omega)).mono ?_;rintro e w2 ⟨x,v,rfl,rfl,⟨T,z,rfl⟩,hA2⟩;have H2:=hid (H1.out.trans hA2);clear hA2)));go_ret2;exact ⟨_,_,rfl,⟨_,_,rfl⟩,H2.out.kept⟩
end
section
variable (r:Nat) (s:Value) (D:List UInt8) (i:Nat) (w:World)
theorem xea (c:UInt8) (hcc:c=0xa1\/c=0xa3) (h:Buf w r s D i) (hc:D[i]? = some c) (hl:D.length<=i+1) :
  Calls prog 107 #[.pointer (some ⟨r,0,none⟩)] w (Fails w r):=by
 rcases hcc with rfl | rfl
 all_goals
  have ht:=xaa r s D i w _ h hc;have HT:=hid ht;have HX:=hid hl;clear ht h hc hl;go_enter func107,ntmps107;go_wp2_with (first | (go_at_call 160;go_must (refine HT.out.mono ?_;rintro e w1 ⟨rfl,hA1⟩;have H1:=hid hA1;clear hA1)) | (go_at_call 54;go_must (refine (xbK r s D (i+1) _ H1.out.buf (by exact HX.out)).mono ?_;rintro e w2 ⟨x,v,rfl,rfl,⟨T,z,rfl⟩,hA2⟩;have H2:=hid (H1.out.trans hA2);clear hA2)));go_ret2;exact ⟨_,_,rfl,⟨_,_,rfl⟩,H2.out.kept⟩
theorem xeq (c x0:UInt8) (hcc:c=0xa1\/c=0xa3) (h:Buf w r s D i) (hc:D[i]? = some c) (h0:D[i+1]? = some x0) (hl:D.length < i+2+x0.toNat) :
  Calls prog 107 #[.pointer (some ⟨r,0,none⟩)] w (Fails w r):=by
 rcases hcc with rfl | rfl
 all_goals
  have ht:=xaa r s D i w _ h hc;have HT:=hid ht;have HX:=hid (aI h0 hl);have hx0:=x0.toNat_lt;have hx1:(x0.toNat:Int)<=255:=by omega
  have hx2:(0:Int)<=x0.toNat:=by omega
  clear ht h hc h0 hl;go_enter func107,ntmps107;go_wp2_with (first | (go_at_call 160;go_must (refine HT.out.mono ?_;rintro e w1 ⟨rfl,hA1⟩;have H1:=hid hA1;clear hA1)) | (go_at_call 54;go_must (refine (xax r s D (i+1) _ x0 H1.out.buf (by exact HX.out.1)).mono ?_;rintro e w2 ⟨rfl,hA2⟩;have H2:=hid (H1.out.trans hA2);clear hA2)) | (go_at_call 161;go_must (refine (xcM r s D (i+1+1) _ x0.toNat H2.out.buf (by have:=HX.out;omega) (by omega)).mono ?_;rintro e w3 ⟨v,b,rfl,rfl,hA3⟩;have H3:=hid (H2.out.trans hA3);clear hA3)) | (go_at_call 55;go_must (refine (xah _ _).mono ?_;rintro e w9 ⟨v9,rfl,⟨T,z,rfl⟩,hK9⟩;have H9:=hid (H3.out.nope hK9);clear hK9)));go_ret2;exact ⟨_,_,rfl,⟨_,_,rfl⟩,H9.out.kept⟩
theorem xdZ (c:UInt8) (hcc:c=0xb1\/c=0xb3) (h:Buf w r s D i) (hc:D[i]? = some c) (hl:D.length < i+5) :
  Calls prog 107 #[.pointer (some ⟨r,0,none⟩)] w (Fails w r):=by
 rcases hcc with rfl | rfl
 all_goals
  have ht:=xaa r s D i w _ h hc;have HT:=hid ht;have HX:=hid hl;clear ht h hc hl;go_enter func107,ntmps107;go_wp2_with ((go_at_call 160;go_must (refine HT.out.mono ?_;rintro e w1 ⟨rfl,hA1⟩;have H1:=hid hA1;clear hA1)));go_wp2_with ((go_at_call 161;go_must (refine (xcM r s D (i+1) _ 4 H1.out.buf (by have:=HX.out;omega) (by omega)).mono ?_;rintro e w3 ⟨v,b,rfl,rfl,hA3⟩;have H3:=hid (H1.out.trans hA3);clear hA3)));go_wp2_with ((go_at_call 55;go_must (refine (xah _ _).mono ?_;rintro e w9 ⟨v9,rfl,⟨T,z,rfl⟩,hK9⟩;have H9:=hid (H3.out.nope hK9);clear hK9)));go_ret2;exact ⟨_,_,rfl,⟨_,_,rfl⟩,H9.out.kept⟩
theorem xep (c x0 x1 x2 x3:UInt8) (hcc:c=0xb1\/c=0xb3) (h:Buf w r s D i) (hc:D[i]? = some c) (h0:D[i+1]? = some x0) (h1:D[i+2]? = some x1) (h2:D[i+3]? = some x2) (h3:D[i+4]? = some x3) (hl:D.length < i+5+Lib.beNat [x0,x1,x2,x3]) :
  Calls prog 107 #[.pointer (some ⟨r,0,none⟩)] w (Fails w r):=by
 rcases hcc with rfl | rfl
 all_goals
  have ht:=xaa r s D i w _ h hc;have HT:=hid ht;have hb:=xba x0 x1 x2 x3;generalize hN:Lib.beNat [x0,x1,x2,x3]=N at *;have HN:=hid hN;have hx1:(N:Int)<=4294967295:=by omega
  have hx2:(0:Int)<=N:=by omega
  have HX:=hid (aI h0 (aI h1 (aI h2 (aI h3 hl))));clear ht h hc h0 h1 h2 h3 hl hN hb;go_enter func107,ntmps107;go_wp2_with ((go_at_call 160;go_must (refine HT.out.mono ?_;rintro e w1 ⟨rfl,hA1⟩;have H1:=hid hA1;clear hA1)));go_wp2_with ((go_at_call 161;go_must (refine (xbd r s D (i+1) _ 4 H1.out.buf (by have:=HX.out.2.2.2.1;have:=HX.out.2.2.2.2;have:=(gi.1 HX.out.2.2.2.1).1;omega) (by omega)).mono ?_;rintro e w2 ⟨v,b,rfl,rfl,⟨g,off,c4,rfl,hg,hgc,hcm,hcell⟩,hA2⟩;have HC4:=hid (aI hg (aI hgc (aI hcm hcell)));have H2:=hid (H1.out.trans hA2);clear hA2 hg hgc hcm hcell)));go_wp2_with ((go_at_call 162;go_must (refine (xfl _ g off 4 c4 x0 x1 x2 x3 (by omega) (by exact four HX.out.1 HX.out.2.1 HX.out.2.2.1 HX.out.2.2.2.1 HC4.out.2.2.2)).mono ?_;rw [HN.out];rintro e w5 ⟨rfl,hK5⟩;have H5:=hid (H2.out.nope hK5);clear hK5)));go_wp2_with ((go_at_call 161;go_must (refine (xcM r s D (i+1+4) _ N H5.out.buf (by have:=HX.out.2.2.2.2;omega) (by omega)).mono ?_;rintro e w3 ⟨v,b,rfl,rfl,hA3⟩;have H3:=hid (H5.out.trans hA3);clear hA3)));go_wp2_with ((go_at_call 55;go_must (refine (xah _ _).mono ?_;rintro e w9 ⟨v9,rfl,⟨T,z,rfl⟩,hK9⟩;have H9:=hid (H3.out.nope hK9);clear hK9)));go_ret2;exact ⟨_,_,rfl,⟨_,_,rfl⟩,H9.out.kept⟩
theorem xgJ (c:UInt8) (hcc:c=0xa0) (h:Buf w r s D i) (hc:D[i]? = some c) (hl:D.length<=i+1) :
  Calls prog 123 #[.pointer (some ⟨r,0,none⟩)] w (Fails w r):=by
 subst hcc;have ht:=xaa r s D i w _ h hc;have HT:=hid ht;have HX:=hid hl;clear ht h hc hl;go_enter func123,ntmps123;go_wp2_with ((go_at_call 160;go_must (refine HT.out.mono ?_;rintro e w1 ⟨rfl,hA1⟩;have H1:=hid hA1;clear hA1)));go_wp2_with ((go_at_call 54;go_must (refine (xbK r s D (i+1) _ H1.out.buf (by exact HX.out)).mono ?_;rintro e w2 ⟨x,v,rfl,rfl,⟨T,z,rfl⟩,hA2⟩;have H2:=hid (H1.out.trans hA2);clear hA2)));go_ret2;exact ⟨_,_,rfl,⟨_,_,rfl⟩,H2.out.kept⟩
theorem xht (c x0:UInt8) (hcc:c=0xa0) (h:Buf w r s D i) (hc:D[i]? = some c) (h0:D[i+1]? = some x0) (hl:D.length < i+2+x0.toNat) :
  Calls prog 123 #[.pointer (some ⟨r,0,none⟩)] w (Fails w r):=by
 subst hcc;have hz:0 < x0.toNat:=by have:=(gi.1 h0).1;omega
 have ht:=xaa r s D i w _ h hc;have HT:=hid ht;have hx0:=x0.toNat_lt;have hx1:(x0.toNat:Int)<=255:=by omega
 have hx2:(0:Int)<=x0.toNat:=by omega
 have hpos:((x0.toNat:Int) == 0)=false:=by rw [beq_eq_false_iff_ne];omega
 have HX:=hid hl;have HZ:=hid h0;clear ht h hc h0 hl hz;go_enter func123,ntmps123;go_wp2_with ((go_at_call 160;go_must (refine HT.out.mono ?_;rintro e w1 ⟨rfl,hA1⟩;have H1:=hid hA1;clear hA1)));go_wp2_with ((go_at_call 54;go_must (refine (xax r s D (i+1) _ x0 H1.out.buf (by exact HZ.out)).mono ?_;rintro e w2 ⟨rfl,hA2⟩;have H2:=hid (H1.out.trans hA2);clear hA2)));go_wp2_with ((go_at_call 161;go_must (refine (xcM r s D (i+1+1) _ x0.toNat H2.out.buf (by have:=HX.out;omega) (by omega)).mono ?_;rintro e w3 ⟨v,b,rfl,rfl,hA3⟩;have H3:=hid (H2.out.trans hA3);clear hA3)));go_wp2_with ((go_at_call 55;go_must (refine (xah _ _).mono ?_;rintro e w9 ⟨v9,rfl,⟨T,z,rfl⟩,hK9⟩;have H9:=hid (H3.out.nope hK9);clear hK9)));go_ret2;exact ⟨_,_,rfl,⟨_,_,rfl⟩,H9.out.kept⟩
theorem xgH (c:UInt8) (hcc:c=0xb0) (h:Buf w r s D i) (hc:D[i]? = some c) (hl:D.length < i+5) :
  Calls prog 123 #[.pointer (some ⟨r,0,none⟩)] w (Fails w r):=by
 subst hcc;have ht:=xaa r s D i w _ h hc;have HT:=hid ht;have HX:=hid hl;clear ht h hc hl;go_enter func123,ntmps123;go_wp2_with ((go_at_call 160;go_must (refine HT.out.mono ?_;rintro e w1 ⟨rfl,hA1⟩;have H1:=hid hA1;clear hA1)));go_wp2_with ((go_at_call 161;go_must (refine (xcM r s D (i+1) _ 4 H1.out.buf (by have:=HX.out;omega) (by omega)).mono ?_;rintro e w3 ⟨v,b,rfl,rfl,hA3⟩;have H3:=hid (H1.out.trans hA3);clear hA3)));go_wp2_with ((go_at_call 55;go_must (refine (xah _ _).mono ?_;rintro e w9 ⟨v9,rfl,⟨T,z,rfl⟩,hK9⟩;have H9:=hid (H3.out.nope hK9);clear hK9)));go_ret2;exact ⟨_,_,rfl,⟨_,_,rfl⟩,H9.out.kept⟩
theorem xhs (c x0 x1 x2 x3:UInt8) (hcc:c=0xb0) (h:Buf w r s D i) (hc:D[i]? = some c) (h0:D[i+1]? = some x0) (h1:D[i+2]? = some x1) (h2:D[i+3]? = some x2) (h3:D[i+4]? = some x3) (hl:D.length < i+5+Lib.beNat [x0,x1,x2,x3]) :
  Calls prog 123 #[.pointer (some ⟨r,0,none⟩)] w (Fails w r):=by
 subst hcc;have hz:0 < Lib.beNat [x0,x1,x2,x3]:=by have:=(gi.1 h3).1;omega
 have ht:=xaa r s D i w _ h hc;have HT:=hid ht;have hb:=xba x0 x1 x2 x3;generalize hN:Lib.beNat [x0,x1,x2,x3]=N at *;have HN:=hid hN;have hx1:(N:Int)<=4294967295:=by omega
 have hx2:(0:Int)<=N:=by omega
 have hpos:((N:Int) == 0)=false:=by rw [beq_eq_false_iff_ne];omega
 have HX:=hid (aI h0 (aI h1 (aI h2 (aI h3 hl))));clear ht h hc h0 h1 h2 h3 hl hN hb hz;go_enter func123,ntmps123;go_wp2_with ((go_at_call 160;go_must (refine HT.out.mono ?_;rintro e w1 ⟨rfl,hA1⟩;have H1:=hid hA1;clear hA1)));go_wp2_with ((go_at_call 161;go_must (refine (xbd r s D (i+1) _ 4 H1.out.buf (by have:=HX.out.2.2.2.1;have:=HX.out.2.2.2.2;have:=(gi.1 HX.out.2.2.2.1).1;omega) (by omega)).mono ?_;rintro e w2 ⟨v,b,rfl,rfl,⟨g,off,c4,rfl,hg,hgc,hcm,hcell⟩,hA2⟩;have HC4:=hid (aI hg (aI hgc (aI hcm hcell)));have H2:=hid (H1.out.trans hA2);clear hA2 hg hgc hcm hcell)));go_wp2_with ((go_at_call 162;go_must (refine (xfl _ g off 4 c4 x0 x1 x2 x3 (by omega) (by exact four HX.out.1 HX.out.2.1 HX.out.2.2.1 HX.out.2.2.2.1 HC4.out.2.2.2)).mono ?_;rw [HN.out];rintro e w5 ⟨rfl,hK5⟩;have H5:=hid (H2.out.nope hK5);clear hK5)));go_wp2_with ((go_at_call 161;go_must (refine (xcM r s D (i+1+4) _ N H5.out.buf (by have:=HX.out.2.2.2.2;omega) (by omega)).mono ?_;rintro e w3 ⟨v,b,rfl,rfl,hA3⟩;have H3:=hid (H5.out.trans hA3);clear hA3)));go_wp2_with ((go_at_call 55;go_must (refine (xah _ _).mono ?_;rintro e w9 ⟨v9,rfl,⟨T,z,rfl⟩,hK9⟩;have H9:=hid (H3.out.nope hK9);clear hK9)));go_ret2;exact ⟨_,_,rfl,⟨_,_,rfl⟩,H9.out.kept⟩
end
section
variable (r:Nat) (s:Value) (D:List UInt8) (i:Nat) (w:World)
theorem xez (h:Buf w r s D i) (hc:D[i]? = some 192) (hl:D.length < i+3) :
  Calls prog 104 #[.pointer (some ⟨r,0,none⟩)] w (Fails w r):=by
  have ht:=xaa r s D i w _ h hc;have HT:=hid ht;clear ht h hc;go_enter func104,ntmps104;go_wp2_with ((go_at_call 160;go_must (refine HT.out.mono ?_;rintro e w1 ⟨rfl,hA1⟩;have H1:=hid hA1;clear hA1)));go_wp2_with ((go_at_call 105;go_must (refine (xaY r s D (i+1) _ H1.out.buf).mono ?_;rintro e w2 ⟨rfl,k2,rfl⟩;have H2:=hid (H1.out.drewN k2))));go_wp2_with ((go_at_call 161;go_must (refine (xcM r s D (i+1) _ 2 H2.out.buf (by omega) (by omega)).mono ?_;rintro e w3 ⟨v,b,rfl,rfl,hA3⟩;have H3:=hid (H2.out.trans hA3);clear hA3)));go_wp2_with ((go_at_call 55;go_must (refine (xah _ _).mono ?_;rintro e w9 ⟨v9,rfl,⟨T,z,rfl⟩,hK9⟩;have H9:=hid (H3.out.nope hK9);clear hK9)));go_ret2;exact ⟨_,_,rfl,⟨_,_,rfl⟩,H9.out.kept⟩
theorem xfk (x0 x1:UInt8) (h:Buf w r s D i) (hc:D[i]? = some 192) (h0:D[i+1]? = some x0) (h1:D[i+2]? = some x1) (hl:D.length < i+2+x0.toNat) :
  Calls prog 104 #[.pointer (some ⟨r,0,none⟩)] w (Fails w r):=by
  have ht:=xaa r s D i w _ h hc;have HT:=hid ht;have hx0:=x0.toNat_lt;have hx1:=x1.toNat_lt;have hi2:=(gi.1 h1).1;have HX:=hid (aI h0 h1);have hsm:=h.small;clear ht h hc h0 h1;have e1:IntKind.i64.wrap ((D.length:Int) - ↑(i+1) - 1)=(D.length:Int) - ↑(i+1) - 1:=IntWalk.i64_in _ (by omega);go_enter func104,ntmps104;go_wp2_with ((go_at_call 160;go_must (refine HT.out.mono ?_;rintro e w1 ⟨rfl,hA1⟩;have H1:=hid hA1;clear hA1)));go_wp2_with ((go_at_call 105;go_must (refine (xaY r s D (i+1) _ H1.out.buf).mono ?_;rintro e w2 ⟨rfl,k2,rfl⟩;have H2:=hid (H1.out.drewN k2))));go_wp2_with (first | (go_at_call 161;go_must (refine (xbd r s D (i+1) _ 2 H2.out.buf (by omega) (by omega)).mono ?_;rintro e w3 ⟨v,b,rfl,rfl,⟨g,off,c4,rfl,hg,hgc,hcm,hcell⟩,hA2⟩;have q0:=hcell 0 x0 (by omega) (by exact HX.out.1);have q1:=hcell 1 x1 (by omega) (by exact HX.out.2);rw [Nat.add_zero] at q0;clear hcell;have H3:=hid (H2.out.trans hA2);clear hA2 hg hcm)) | (go_at_call 55;go_must (refine (xah _ _).mono ?_;rintro e w9 ⟨v9,rfl,⟨T,z,rfl⟩,hK9⟩;have H9:=hid (H3.out.nope hK9);clear hK9)));go_ret2;exact ⟨_,_,rfl,⟨_,_,rfl⟩,H9.out.kept⟩
theorem xeB (x0 x1:UInt8) (h:Buf w r s D i) (hc:D[i]? = some 224) (h0:D[i+1]? = some x0) (h1:D[i+2]? = some x1) (hl:D.length < i+2+x0.toNat) :
  Calls prog 183 #[.pointer (some ⟨r,0,none⟩)] w (Fails w r):=by
  have ht:=xaa r s D i w _ h hc;have HT:=hid ht;have hx0:=x0.toNat_lt;have hx1:=x1.toNat_lt;have hi2:=(gi.1 h1).1;have HX:=hid (aI h0 h1);have hsm:=h.small;clear ht h hc h0 h1;have e1:IntKind.i64.wrap ((D.length:Int) - ↑(i+1) - 1)=(D.length:Int) - ↑(i+1) - 1:=IntWalk.i64_in _ (by omega);go_enter func183,ntmps183;go_wp2_with ((go_at_call 160;go_must (refine HT.out.mono ?_;rintro e w1 ⟨rfl,hA1⟩;have H1:=hid hA1;clear hA1)));go_wp2_with ((go_at_call 105;go_must (refine (xaY r s D (i+1) _ H1.out.buf).mono ?_;rintro e w2 ⟨rfl,k2,rfl⟩;have H2:=hid (H1.out.drewN k2))));go_wp2_with (first | (go_at_call 161;go_must (refine (xbd r s D (i+1) _ 2 H2.out.buf (by omega) (by omega)).mono ?_;rintro e w3 ⟨v,b,rfl,rfl,⟨g,off,c4,rfl,hg,hgc,hcm,hcell⟩,hA2⟩;have q0:=hcell 0 x0 (by omega) (by exact HX.out.1);have q1:=hcell 1 x1 (by omega) (by exact HX.out.2);rw [Nat.add_zero] at q0;clear hcell;have H3:=hid (H2.out.trans hA2);clear hA2 hg hcm)) | (go_at_call 55;go_must (refine (xah _ _).mono ?_;rintro e w9 ⟨v9,rfl,⟨T,z,rfl⟩,hK9⟩;have H9:=hid (H3.out.nope hK9);clear hK9)));go_ret2;exact ⟨_,_,rfl,⟨_,_,rfl⟩,H9.out.kept⟩
end
end Go.Proofs.YtmdpodeegdjkeaaGreatDoor
