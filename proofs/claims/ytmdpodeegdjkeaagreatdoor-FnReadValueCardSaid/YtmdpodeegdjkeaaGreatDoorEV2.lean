/- FnReadValue, part 2 (texts Cut1 Cut2 CutA CutZ RkValue LsV). No conditions. -/
import Derived.Test.YtmdpodeegdjkeaaGreatDoorU25
import Derived.Test.YtmdpodeegdjkeaaGreatDoorU21
import Derived.Test.YtmdpodeegdjkeaaGreatDoorU23
import Derived.Test.YtmdpodeegdjkeaaGreatDoorEV1
set_option maxRecDepth 100000
set_option maxHeartbeats 3200000
namespace Go.Proofs.YtmdpodeegdjkeaaGreatDoor
open Go Go.RowKit Go.Lib Tryz
section
variable (w:World) (r:Nat) (s:Value) (D:List UInt8) (i:Nat)
theorem RC_50 (h:Buf w r s D i) (hc:D[i]? = some 80) (hn:D.length < i+2):Calls prog 53 #[.pointer (some ⟨r,0,none⟩)] w (Fails w r):=by
 refine (xee r s D i w 80 (by decide) h hc (fun _ e w'=>xbC e/\Kept (Only r) w w') (fun W hW=>(xhB r s D i W hW.buf hc (by omega)).mono ?_)).mono ?_
 ·rintro e w' ⟨x,y,rfl,hy,hk⟩;exact ⟨_,_,rfl,hy,hW.kept.trans' hk⟩
 ·rintro e w' ⟨y,z,rfl,x,rfl,hz,hk⟩;exact ⟨_,_,rfl,hz,hk⟩
theorem RC_60 (h:Buf w r s D i) (hc:D[i]? = some 96) (hn:D.length < i+3):Calls prog 53 #[.pointer (some ⟨r,0,none⟩)] w (Fails w r):=by
 refine (xdH r s D i w 96 (by decide) h hc (fun _ e w'=>xbC e/\Kept (Only r) w w') (fun W hW=>(xgz r s D i W hW.buf hc (by omega)).mono ?_)).mono ?_
 ·rintro e w' ⟨x,y,rfl,hy,hk⟩;exact ⟨_,_,rfl,hy,hW.kept.trans' hk⟩
 ·rintro e w' ⟨y,z,rfl,x,rfl,hz,hk⟩;exact ⟨_,_,rfl,hz,hk⟩
theorem RC_70 (h:Buf w r s D i) (hc:D[i]? = some 112) (hn:D.length < i+5):Calls prog 53 #[.pointer (some ⟨r,0,none⟩)] w (Fails w r):=by
 refine (xbI r s D i w 112 (by decide) h hc (fun _ e w'=>xbC e/\Kept (Only r) w w') (fun W hW=>(xgA r s D i W hW.buf hc (by omega)).mono ?_)).mono ?_
 ·rintro e w' ⟨x,y,rfl,hy,hk⟩;exact ⟨_,_,rfl,hy,hW.kept.trans' hk⟩
 ·rintro e w' ⟨y,z,rfl,x,rfl,hz,hk⟩;exact ⟨_,_,rfl,hz,hk⟩
theorem RC_80 (h:Buf w r s D i) (hc:D[i]? = some 128) (hn:D.length < i+9):Calls prog 53 #[.pointer (some ⟨r,0,none⟩)] w (Fails w r):=by
 refine (xbO r s D i w 128 (by decide) h hc (fun _ e w'=>xbC e/\Kept (Only r) w w') (fun W hW=>(xhh r s D i W hW.buf hc (by omega)).mono ?_)).mono ?_
 ·rintro e w' ⟨x,y,rfl,hy,hk⟩;exact ⟨_,_,rfl,hy,hW.kept.trans' hk⟩
 ·rintro e w' ⟨y,z,rfl,x,rfl,hz,hk⟩;exact ⟨_,_,rfl,hz,hk⟩
theorem RC_51 (h:Buf w r s D i) (hc:D[i]? = some 81) (hn:D.length < i+2):Calls prog 53 #[.pointer (some ⟨r,0,none⟩)] w (Fails w r):=by
 refine (xec r s D i w 81 (by decide) h hc (fun _ e w'=>xbC e/\Kept (Only r) w w') (fun W hW=>(xhl r s D i W hW.buf hc (by omega)).mono ?_)).mono ?_
 ·rintro e w' ⟨x,y,rfl,hy,hk⟩;exact ⟨_,_,rfl,hy,hW.kept.trans' hk⟩
 ·rintro e w' ⟨y,z,rfl,x,rfl,hz,hk⟩;exact ⟨_,_,rfl,hz,hk⟩
theorem RC_61 (h:Buf w r s D i) (hc:D[i]? = some 97) (hn:D.length < i+3):Calls prog 53 #[.pointer (some ⟨r,0,none⟩)] w (Fails w r):=by
 refine (xeb r s D i w 97 (by decide) h hc (fun _ e w'=>xbC e/\Kept (Only r) w w') (fun W hW=>(xhk r s D i W hW.buf hc (by omega)).mono ?_)).mono ?_
 ·rintro e w' ⟨x,y,rfl,hy,hk⟩;exact ⟨_,_,rfl,hy,hW.kept.trans' hk⟩
 ·rintro e w' ⟨y,z,rfl,x,rfl,hz,hk⟩;exact ⟨_,_,rfl,hz,hk⟩
theorem RC_71 (h:Buf w r s D i) (hc:D[i]? = some 113) (hn:D.length < i+5):Calls prog 53 #[.pointer (some ⟨r,0,none⟩)] w (Fails w r):=by
 refine (xcl r s D i w 113 (by decide) h hc (fun _ e w'=>xbC e/\Kept (Only r) w w') (fun W hW=>(xhp r s D i W hW.buf hc (by omega)).mono ?_)).mono ?_
 ·rintro e w' ⟨x,y,rfl,hy,hk⟩;exact ⟨_,_,rfl,hy,hW.kept.trans' hk⟩
 ·rintro e w' ⟨y,z,rfl,x,rfl,hz,hk⟩;exact ⟨_,_,rfl,hz,hk⟩
theorem RC_81 (h:Buf w r s D i) (hc:D[i]? = some 129) (hn:D.length < i+9):Calls prog 53 #[.pointer (some ⟨r,0,none⟩)] w (Fails w r):=by
 refine (xcs r s D i w 129 (by decide) h hc (fun _ e w'=>xbC e/\Kept (Only r) w w') (fun W hW=>(xhP r s D i W hW.buf hc (by omega)).mono ?_)).mono ?_
 ·rintro e w' ⟨x,y,rfl,hy,hk⟩;exact ⟨_,_,rfl,hy,hW.kept.trans' hk⟩
 ·rintro e w' ⟨y,z,rfl,x,rfl,hz,hk⟩;exact ⟨_,_,rfl,hz,hk⟩
theorem RC_72 (h:Buf w r s D i) (hc:D[i]? = some 114) (hn:D.length < i+5):Calls prog 53 #[.pointer (some ⟨r,0,none⟩)] w (Fails w r):=by
 refine (xed r s D i w 114 (by decide) h hc (fun _ e w'=>xbC e/\Kept (Only r) w w') (fun W hW=>(xhr r s D i W hW.buf hc (by omega)).mono ?_)).mono ?_
 ·rintro e w' ⟨x,y,rfl,hy,hk⟩;exact ⟨_,_,rfl,hy,hW.kept.trans' hk⟩
 ·rintro e w' ⟨y,z,rfl,x,rfl,hz,hk⟩;exact ⟨_,_,rfl,hz,hk⟩
theorem RC_82 (h:Buf w r s D i) (hc:D[i]? = some 130) (hn:D.length < i+9):Calls prog 53 #[.pointer (some ⟨r,0,none⟩)] w (Fails w r):=by
 refine (xdI r s D i w 130 (by decide) h hc (fun _ e w'=>xbC e/\Kept (Only r) w w') (fun W hW=>(xgF r s D i W hW.buf hc (by omega)).mono ?_)).mono ?_
 ·rintro e w' ⟨x,y,rfl,hy,hk⟩;exact ⟨_,_,rfl,hy,hW.kept.trans' hk⟩
 ·rintro e w' ⟨y,z,rfl,x,rfl,hz,hk⟩;exact ⟨_,_,rfl,hz,hk⟩
theorem RC_83 (h:Buf w r s D i) (hc:D[i]? = some 131) (hn:D.length < i+9):Calls prog 53 #[.pointer (some ⟨r,0,none⟩)] w (Fails w r):=by
 refine (xcW r s D i w 131 (by decide) h hc (fun _ e w'=>xbC e/\Kept (Only r) w w') (fun W hW=>(xfg r s D i W hW.buf hc (by omega)).mono ?_)).mono ?_
 ·rintro e w' ⟨x,y,rfl,hy,hk⟩;exact ⟨_,_,rfl,hy,hW.kept.trans' hk⟩
 ·rintro e w' ⟨y,z,rfl,x,rfl,hz,hk⟩;exact ⟨_,_,rfl,hz,hk⟩
theorem RC_52 (h:Buf w r s D i) (hc:D[i]? = some 82) (hn:D.length < i+2):Calls prog 53 #[.pointer (some ⟨r,0,none⟩)] w (Fails w r):=by
 refine (xbI r s D i w 82 (by decide) h hc (fun _ e w'=>xbC e/\Kept (Only r) w w') (fun W hW=>(xgB r s D i W hW.buf hc (by omega)).mono ?_)).mono ?_
 ·rintro e w' ⟨x,y,rfl,hy,hk⟩;exact ⟨_,_,rfl,hy,hW.kept.trans' hk⟩
 ·rintro e w' ⟨y,z,rfl,x,rfl,hz,hk⟩;exact ⟨_,_,rfl,hz,hk⟩
theorem RC_53 (h:Buf w r s D i) (hc:D[i]? = some 83) (hn:D.length < i+2):Calls prog 53 #[.pointer (some ⟨r,0,none⟩)] w (Fails w r):=by
 refine (xbO r s D i w 83 (by decide) h hc (fun _ e w'=>xbC e/\Kept (Only r) w w') (fun W hW=>(xhi r s D i W hW.buf hc (by omega)).mono ?_)).mono ?_
 ·rintro e w' ⟨x,y,rfl,hy,hk⟩;exact ⟨_,_,rfl,hy,hW.kept.trans' hk⟩
 ·rintro e w' ⟨y,z,rfl,x,rfl,hz,hk⟩;exact ⟨_,_,rfl,hz,hk⟩
theorem RC_54 (h:Buf w r s D i) (hc:D[i]? = some 84) (hn:D.length < i+2):Calls prog 53 #[.pointer (some ⟨r,0,none⟩)] w (Fails w r):=by
 refine (xcl r s D i w 84 (by decide) h hc (fun _ e w'=>xbC e/\Kept (Only r) w w') (fun W hW=>(xhq r s D i W hW.buf hc (by omega)).mono ?_)).mono ?_
 ·rintro e w' ⟨x,y,rfl,hy,hk⟩;exact ⟨_,_,rfl,hy,hW.kept.trans' hk⟩
 ·rintro e w' ⟨y,z,rfl,x,rfl,hz,hk⟩;exact ⟨_,_,rfl,hz,hk⟩
theorem RC_55 (h:Buf w r s D i) (hc:D[i]? = some 85) (hn:D.length < i+2):Calls prog 53 #[.pointer (some ⟨r,0,none⟩)] w (Fails w r):=by
 refine (xcs r s D i w 85 (by decide) h hc (fun _ e w'=>xbC e/\Kept (Only r) w w') (fun W hW=>(xhQ r s D i W hW.buf hc (by omega)).mono ?_)).mono ?_
 ·rintro e w' ⟨x,y,rfl,hy,hk⟩;exact ⟨_,_,rfl,hy,hW.kept.trans' hk⟩
 ·rintro e w' ⟨y,z,rfl,x,rfl,hz,hk⟩;exact ⟨_,_,rfl,hz,hk⟩
theorem RC_56 (h:Buf w r s D i) (hc:D[i]? = some 86) (hn:D.length < i+2):Calls prog 53 #[.pointer (some ⟨r,0,none⟩)] w (Fails w r):=by
 refine (xct r s D i w 86 (by decide) h hc (fun _ e w'=>xbC e/\Kept (Only r) w w') (fun W hW=>(xhR r s D i W hW.buf hc (by omega)).mono ?_)).mono ?_
 ·rintro e w' ⟨x,y,rfl,hy,hk⟩;exact ⟨_,_,rfl,hy,hW.kept.trans' hk⟩
 ·rintro e w' ⟨y,z,rfl,x,rfl,hz,hk⟩;exact ⟨_,_,rfl,hz,hk⟩
theorem RC_98 (h:Buf w r s D i) (hc:D[i]? = some 152) (hn:D.length < i+17):Calls prog 53 #[.pointer (some ⟨r,0,none⟩)] w (Fails w r):=by
 refine (xer r s D i w 152 (by decide) h hc (fun _ e w'=>xbC e/\Kept (Only r) w w') (fun W hW=>(xhN r s D i W hW.buf hc (by omega)).mono ?_)).mono ?_
 ·rintro e w' ⟨x,y,rfl,hy,hk⟩;exact ⟨_,_,rfl,hy,hW.kept.trans' hk⟩
 ·rintro e w' ⟨y,z,rfl,x,rfl,hz,hk⟩;exact ⟨_,_,rfl,hz,hk⟩
end
section
variable (w:World) (r:Nat) (s:Value) (D:List UInt8) (i:Nat)
theorem xot (c:UInt8) (hcc:c=161\/c=177\/c=163\/c=179) (h:Buf w r s D i) (hc:D[i]? = some c)
  (hr:∀ W,Buf W r s D i->Calls prog 107 #[.pointer (some ⟨r,0,none⟩)] W (Fails W r)):Calls prog 53 #[.pointer (some ⟨r,0,none⟩)] w (Fails w r):=by
 refine (xdL r s D i w c hcc h hc (fun _ e w'=>xbC e/\Kept (Only r) w w') (fun W hW=>(hr W hW.buf).mono ?_)).mono ?_
 ·rintro e w' ⟨x,y,rfl,hy,hk⟩;exact ⟨_,_,rfl,hy,hW.kept.trans' hk⟩
 ·rintro e w' ⟨y,z,rfl,x,rfl,hz,hk⟩;exact ⟨_,_,rfl,hz,hk⟩
theorem RC_bin (c:UInt8) (hcc:c=160\/c=176) (h:Buf w r s D i) (hc:D[i]? = some c)
  (hr:∀ W,Buf W r s D i->Calls prog 123 #[.pointer (some ⟨r,0,none⟩)] W (Fails W r)):Calls prog 53 #[.pointer (some ⟨r,0,none⟩)] w (Fails w r):=by
 refine (xdJ r s D i w c hcc h hc (fun _ e w'=>xbC e/\Kept (Only r) w w') (fun W hW=>(hr W hW.buf).mono ?_)).mono ?_
 ·rintro e w' ⟨x,y,rfl,hy,hk⟩;exact ⟨_,_,rfl,hy,hW.kept.trans' hk⟩
 ·rintro e w' ⟨y,z,rfl,x,rfl,hz,hk⟩;exact ⟨_,_,rfl,hz,hk⟩
theorem xqm (c:UInt8) (hcc:c=69\/c=192\/c=208) (h:Buf w r s D i) (hc:D[i]? = some c)
  (hr:∀ W,Buf W r s D i->Calls prog 104 #[.pointer (some ⟨r,0,none⟩)] W (Fails W r)):Calls prog 53 #[.pointer (some ⟨r,0,none⟩)] w (Fails w r):=by
 refine (xdy r s D i w c hcc h hc (fun _ e w'=>xbC e/\Kept (Only r) w w') (fun W hW=>(xhS W r s D i hW.buf fun W' p hA=>xjb W W' r s D i p hA hr).mono ?_)).mono ?_
 ·rintro e w' ⟨x,y,rfl,hy,hk⟩;exact ⟨_,_,rfl,hy,hW.kept.trans' hk⟩
 ·rintro e w' ⟨y,z,rfl,hz,hk⟩;exact ⟨_,_,rfl,hz,hk⟩
theorem RC_map (c:UInt8) (hcc:c=193\/c=209) (h:Buf w r s D i) (hc:D[i]? = some c)
  (hr:∀ W,Buf W r s D i->Calls prog 100 #[.pointer (some ⟨r,0,none⟩)] W (Fails W r)):Calls prog 53 #[.pointer (some ⟨r,0,none⟩)] w (Fails w r):=by
 refine (xdK r s D i w c hcc h hc (fun _ e w'=>xbC e/\Kept (Only r) w w') (fun W hW=>(xiA W r s D i hW.buf hr).mono ?_)).mono ?_
 ·rintro e w' ⟨x,y,rfl,hy,hk⟩;exact ⟨_,_,rfl,hy,hW.kept.trans' hk⟩
 ·rintro e w' ⟨y,z,rfl,hz,hk⟩;exact ⟨_,_,rfl,hz,hk⟩
end
def xdc (F:Nat):Prop:=∀ (w0 w:World) (r:Nat) (s:Value) (D:List UInt8) (i p:Nat),At_ w0 w r s D i->(∀ W,Buf W r s D i->Calls prog 183 #[.pointer (some ⟨r,0,none⟩)] W (Fails W r)) ->
  Calls prog F #[.pointer (some ⟨p,0,none⟩),.pointer (some ⟨r,0,none⟩)] w (Gives fun e w'=>xbC e/\Kept (Only r) w w')
theorem xny:xdc 131:=by
 intro w0 w r s D i p hA hH;have HA:=hid hA;have HH:=hid hH;clear hA hH;go_enter func131,ntmps131;go_wp2_with (first | (go_at_call 183;go_must (refine (HH.out _ HA.out.buf).mono ?_;rintro e w1 ⟨x,v,rfl,⟨T,z,rfl⟩,hK⟩;have H1:=hid hK;clear hK)));go_ret;exact ⟨_,rfl,⟨_,_,rfl⟩,H1.out⟩
theorem xlT:xdc 181:=by
 intro w0 w r s D i p hA hH;have HA:=hid hA;have HH:=hid hH;clear hA hH;go_enter func181,ntmps181;go_wp2_with (first | (go_at_call 183;go_must (refine (HH.out _ HA.out.buf).mono ?_;rintro e w1 ⟨x,v,rfl,⟨T,z,rfl⟩,hK⟩;have H1:=hid hK;clear hK)));go_ret;exact ⟨_,rfl,⟨_,_,rfl⟩,H1.out⟩
theorem xkg:xdc 132:=by
 intro w0 w r s D i p hA hH;have HA:=hid hA;have HH:=hid hH;clear hA hH;go_enter func132,ntmps132;go_wp2_with (first | (go_at_call 183;go_must (refine (HH.out _ HA.out.buf).mono ?_;rintro e w1 ⟨x,v,rfl,⟨T,z,rfl⟩,hK⟩;have H1:=hid hK;clear hK)));go_ret;exact ⟨_,rfl,⟨_,_,rfl⟩,H1.out⟩
theorem xlW:xdc 133:=by
 intro w0 w r s D i p hA hH;have HA:=hid hA;have HH:=hid hH;clear hA hH;go_enter func133,ntmps133;go_wp2_with (first | (go_at_call 183;go_must (refine (HH.out _ HA.out.buf).mono ?_;rintro e w1 ⟨x,v,rfl,⟨T,z,rfl⟩,hK⟩;have H1:=hid hK;clear hK)));go_ret;exact ⟨_,rfl,⟨_,_,rfl⟩,H1.out⟩
theorem xgg:xdc 134:=by
 intro w0 w r s D i p hA hH;have HA:=hid hA;have HH:=hid hH;clear hA hH;go_enter func134,ntmps134;go_wp2_with (first | (go_at_call 183;go_must (refine (HH.out _ HA.out.buf).mono ?_;rintro e w1 ⟨x,v,rfl,⟨T,z,rfl⟩,hK⟩;have H1:=hid hK;clear hK)));go_ret;exact ⟨_,rfl,⟨_,_,rfl⟩,H1.out⟩
theorem xhe:xdc 135:=by
 intro w0 w r s D i p hA hH;have HA:=hid hA;have HH:=hid hH;clear hA hH;go_enter func135,ntmps135;go_wp2_with (first | (go_at_call 183;go_must (refine (HH.out _ HA.out.buf).mono ?_;rintro e w1 ⟨x,v,rfl,⟨T,z,rfl⟩,hK⟩;have H1:=hid hK;clear hK)));go_ret;exact ⟨_,rfl,⟨_,_,rfl⟩,H1.out⟩
theorem xgf:xdc 136:=by
 intro w0 w r s D i p hA hH;have HA:=hid hA;have HH:=hid hH;clear hA hH;go_enter func136,ntmps136;go_wp2_with (first | (go_at_call 183;go_must (refine (HH.out _ HA.out.buf).mono ?_;rintro e w1 ⟨x,v,rfl,⟨T,z,rfl⟩,hK⟩;have H1:=hid hK;clear hK)));go_ret;exact ⟨_,rfl,⟨_,_,rfl⟩,H1.out⟩
theorem xhd:xdc 137:=by
 intro w0 w r s D i p hA hH;have HA:=hid hA;have HH:=hid hH;clear hA hH;go_enter func137,ntmps137;go_wp2_with (first | (go_at_call 183;go_must (refine (HH.out _ HA.out.buf).mono ?_;rintro e w1 ⟨x,v,rfl,⟨T,z,rfl⟩,hK⟩;have H1:=hid hK;clear hK)));go_ret;exact ⟨_,rfl,⟨_,_,rfl⟩,H1.out⟩
theorem xlX:xdc 138:=by
 intro w0 w r s D i p hA hH;have HA:=hid hA;have HH:=hid hH;clear hA hH;go_enter func138,ntmps138;go_wp2_with (first | (go_at_call 183;go_must (refine (HH.out _ HA.out.buf).mono ?_;rintro e w1 ⟨x,v,rfl,⟨T,z,rfl⟩,hK⟩;have H1:=hid hK;clear hK)));go_ret;exact ⟨_,rfl,⟨_,_,rfl⟩,H1.out⟩
theorem xkh:xdc 139:=by
 intro w0 w r s D i p hA hH;have HA:=hid hA;have HH:=hid hH;clear hA hH;go_enter func139,ntmps139;go_wp2_with (first | (go_at_call 183;go_must (refine (HH.out _ HA.out.buf).mono ?_;rintro e w1 ⟨x,v,rfl,⟨T,z,rfl⟩,hK⟩;have H1:=hid hK;clear hK)));go_ret;exact ⟨_,rfl,⟨_,_,rfl⟩,H1.out⟩
theorem xnF:xdc 140:=by
 intro w0 w r s D i p hA hH;have HA:=hid hA;have HH:=hid hH;clear hA hH;go_enter func140,ntmps140;go_wp2_with (first | (go_at_call 183;go_must (refine (HH.out _ HA.out.buf).mono ?_;rintro e w1 ⟨x,v,rfl,⟨T,z,rfl⟩,hK⟩;have H1:=hid hK;clear hK)));go_ret;exact ⟨_,rfl,⟨_,_,rfl⟩,H1.out⟩
theorem xgh:xdc 141:=by
 intro w0 w r s D i p hA hH;have HA:=hid hA;have HH:=hid hH;clear hA hH;go_enter func141,ntmps141;go_wp2_with (first | (go_at_call 183;go_must (refine (HH.out _ HA.out.buf).mono ?_;rintro e w1 ⟨x,v,rfl,⟨T,z,rfl⟩,hK⟩;have H1:=hid hK;clear hK)));go_ret;exact ⟨_,rfl,⟨_,_,rfl⟩,H1.out⟩
theorem xgi:xdc 143:=by
 intro w0 w r s D i p hA hH;have HA:=hid hA;have HH:=hid hH;clear hA hH;go_enter func143,ntmps143;go_wp2_with (first | (go_at_call 183;go_must (refine (HH.out _ HA.out.buf).mono ?_;rintro e w1 ⟨x,v,rfl,⟨T,z,rfl⟩,hK⟩;have H1:=hid hK;clear hK)));go_ret;exact ⟨_,rfl,⟨_,_,rfl⟩,H1.out⟩
theorem xhw:xdc 144:=by
 intro w0 w r s D i p hA hH;have HA:=hid hA;have HH:=hid hH;clear hA hH;go_enter func144,ntmps144;go_wp2_with (first | (go_at_call 183;go_must (refine (HH.out _ HA.out.buf).mono ?_;rintro e w1 ⟨x,v,rfl,⟨T,z,rfl⟩,hK⟩;have H1:=hid hK;clear hK)));go_ret;exact ⟨_,rfl,⟨_,_,rfl⟩,H1.out⟩
theorem arrUUID_bad:xdc 146:=by
 intro w0 w r s D i p hA hH;have HA:=hid hA;have HH:=hid hH;clear hA hH;go_enter func146,ntmps146;go_wp2_with (first | (go_at_call 183;go_must (refine (HH.out _ HA.out.buf).mono ?_;rintro e w1 ⟨x,v,rfl,⟨T,z,rfl⟩,hK⟩;have H1:=hid hK;clear hK)));go_ret;exact ⟨_,rfl,⟨_,_,rfl⟩,H1.out⟩
theorem xqj {F T:Nat} {c:UInt8} (h:(F,T,c) ∈ xeH):xdc F:=by
 simp only [xeH,List.mem_cons,List.mem_nil_iff,or_false,Prod.mk.injEq] at h
 rcases h with ⟨rfl,rfl,rfl⟩ | ⟨rfl,rfl,rfl⟩ | ⟨rfl,rfl,rfl⟩ | ⟨rfl,rfl,rfl⟩ | ⟨rfl,rfl,rfl⟩ | ⟨rfl,rfl,rfl⟩ | ⟨rfl,rfl,rfl⟩ | ⟨rfl,rfl,rfl⟩ | ⟨rfl,rfl,rfl⟩ | ⟨rfl,rfl,rfl⟩ | ⟨rfl,rfl,rfl⟩ | ⟨rfl,rfl,rfl⟩ | ⟨rfl,rfl,rfl⟩ | ⟨rfl,rfl,rfl⟩ | ⟨rfl,rfl,rfl⟩ | ⟨rfl,rfl,rfl⟩ | ⟨rfl,rfl,rfl⟩ | ⟨rfl,rfl,rfl⟩ | ⟨rfl,rfl,rfl⟩ | ⟨rfl,rfl,rfl⟩ | ⟨rfl,rfl,rfl⟩
 ·exact xny
 ·exact xlT
 ·exact xkg
 ·exact xlW
 ·exact xgg
 ·exact xgg
 ·exact xhe
 ·exact xhe
 ·exact xgf
 ·exact xgf
 ·exact xhd
 ·exact xhd
 ·exact xlX
 ·exact xkh
 ·exact xnF
 ·exact xgh
 ·exact xgh
 ·exact xgi
 ·exact xgi
 ·exact xhw
 ·exact arrUUID_bad
set_option maxHeartbeats 32000000 in
theorem xkj (F T:Nat) (c:UInt8) (hcc:(F,T,c) ∈ xeH) (r:Nat) (s:Value) (D:List UInt8) (i:Nat) (w:World) (h:Buf w r s D i) (hc0:D[i]? = some 224) (hc:D[i+3]? = some c)
  (hH:∀ W,Buf W r s D i->Calls prog 183 #[.pointer (some ⟨r,0,none⟩)] W (Fails W r)) :
  Calls prog 126 #[.pointer (some ⟨r,0,none⟩)] w (Fails w r):=by
 have hr:=xqj hcc;have h0:(D.drop i)[0]? = some 224:=by simpa using hc0
 have h1:(D.drop i)[3]? = some c:=by simpa using hc
 have hl:=(gi.1 hc).1;have hl1:¬ (((D.length - i:Nat):Int) < 1):=by omega
 have hl2:¬ (((D.length - i:Nat):Int) < 4):=by omega
 have hl3:(3:Int) < ((D.length - i:Nat):Int):=by omega
 have hl4:(0:Int) < ((D.length - i:Nat):Int):=by omega
 have hl5:((D.length - i:Nat):Int)=(D.length:Int) - (i:Int):=by omega
 simp only [xeH,List.mem_cons,List.mem_nil_iff,or_false,Prod.mk.injEq] at hcc
 rcases hcc with ⟨rfl,rfl,rfl⟩ | ⟨rfl,rfl,rfl⟩ | ⟨rfl,rfl,rfl⟩ | ⟨rfl,rfl,rfl⟩ | ⟨rfl,rfl,rfl⟩ | ⟨rfl,rfl,rfl⟩ | ⟨rfl,rfl,rfl⟩ | ⟨rfl,rfl,rfl⟩ | ⟨rfl,rfl,rfl⟩ | ⟨rfl,rfl,rfl⟩ | ⟨rfl,rfl,rfl⟩ | ⟨rfl,rfl,rfl⟩ | ⟨rfl,rfl,rfl⟩ | ⟨rfl,rfl,rfl⟩ | ⟨rfl,rfl,rfl⟩ | ⟨rfl,rfl,rfl⟩ | ⟨rfl,rfl,rfl⟩ | ⟨rfl,rfl,rfl⟩ | ⟨rfl,rfl,rfl⟩ | ⟨rfl,rfl,rfl⟩ | ⟨rfl,rfl,rfl⟩
 all_goals
  have HL:=hid (aI h0 h1);have HB:=hid h;have HR:=hid (aI hr hH);clear h hc0 hc hr hH h0 h1;go_enter func126,ntmps126;go_wp2_with (first | (go_at_call 34;go_must (refine (xbJ r s D i _ HB.out).mono ?_;rintro e w2 ⟨v,rfl,hB,k2,rfl⟩;obtain ⟨g,off,c4,rfl,hgr,hgc,hcm,q0⟩:=hB.at_ HL.out.1;have q1:=hB.at_ HL.out.2;obtain ⟨g',off',c4',e',_,_,_,q1⟩:=q1;injection e' with e1 e2 e3;injection e1 with e1;injection e1 with e1 e4;subst e1 e4;rw [Nat.add_zero] at q0;unfold u8 at q0 q1;have H2:=hid ((At_.refl HB.out).drewN k2);simp only [List.length_drop] at *;clear hB e2 e3)) | ((first | go_at_call 131 | go_at_call 181 | go_at_call 132 | go_at_call 133 | go_at_call 134 | go_at_call 135 | go_at_call 136 | go_at_call 137 | go_at_call 138 | go_at_call 139 | go_at_call 140 | go_at_call 141 | go_at_call 143 | go_at_call 144 | go_at_call 146);go_must (refine (HR.out.1 w _ r s D i _ (H2.out.nope ((kR Nope (w.drewN k2)).alloc _)) HR.out.2).mono ?_;rintro e w3 ⟨_,rfl,⟨T3,z3,rfl⟩,hk⟩;have c3:=(show Blk w3 w.heap.size _ #[Value.slice none 0 0] from (Blk.new (w.drewN k2) _ #[.slice none 0 0]).kept hk (fun e=>by have h1:=HB.out.lt;have e':w.heap.size=r:=e;omega)).cell 0;simp only [gt,gz] at c3;have H3:=hid (((kR (Only r) w).drewN k2).alloc (.cells #[.slice none 0 0] _) |>.trans' hk);clear hk)));go_ret2;exact ⟨_,_,rfl,⟨_,_,rfl⟩,H3.out⟩
set_option maxHeartbeats 32000000 in
theorem xki (F T:Nat) (c:UInt8) (hcc:(F,T,c) ∈ xeH) (r:Nat) (s:Value) (D:List UInt8) (i:Nat) (w:World) (h:Buf w r s D i) (hc0:D[i]? = some 240) (hc:D[i+9]? = some c)
  (hH:∀ W,Buf W r s D i->Calls prog 183 #[.pointer (some ⟨r,0,none⟩)] W (Fails W r)) :
  Calls prog 126 #[.pointer (some ⟨r,0,none⟩)] w (Fails w r):=by
 have hr:=xqj hcc;have h0:(D.drop i)[0]? = some 240:=by simpa using hc0
 have h1:(D.drop i)[9]? = some c:=by simpa using hc
 have hl:=(gi.1 hc).1;have hl1:¬ (((D.length - i:Nat):Int) < 1):=by omega
 have hl2:¬ (((D.length - i:Nat):Int) < 10):=by omega
 have hl3:(9:Int) < ((D.length - i:Nat):Int):=by omega
 have hl4:(0:Int) < ((D.length - i:Nat):Int):=by omega
 have hl5:((D.length - i:Nat):Int)=(D.length:Int) - (i:Int):=by omega
 simp only [xeH,List.mem_cons,List.mem_nil_iff,or_false,Prod.mk.injEq] at hcc
 rcases hcc with ⟨rfl,rfl,rfl⟩ | ⟨rfl,rfl,rfl⟩ | ⟨rfl,rfl,rfl⟩ | ⟨rfl,rfl,rfl⟩ | ⟨rfl,rfl,rfl⟩ | ⟨rfl,rfl,rfl⟩ | ⟨rfl,rfl,rfl⟩ | ⟨rfl,rfl,rfl⟩ | ⟨rfl,rfl,rfl⟩ | ⟨rfl,rfl,rfl⟩ | ⟨rfl,rfl,rfl⟩ | ⟨rfl,rfl,rfl⟩ | ⟨rfl,rfl,rfl⟩ | ⟨rfl,rfl,rfl⟩ | ⟨rfl,rfl,rfl⟩ | ⟨rfl,rfl,rfl⟩ | ⟨rfl,rfl,rfl⟩ | ⟨rfl,rfl,rfl⟩ | ⟨rfl,rfl,rfl⟩ | ⟨rfl,rfl,rfl⟩ | ⟨rfl,rfl,rfl⟩
 all_goals
  have HL:=hid (aI h0 h1);have HB:=hid h;have HR:=hid (aI hr hH);clear h hc0 hc hr hH h0 h1;go_enter func126,ntmps126;go_wp2_with (first | (go_at_call 34;go_must (refine (xbJ r s D i _ HB.out).mono ?_;rintro e w2 ⟨v,rfl,hB,k2,rfl⟩;obtain ⟨g,off,c4,rfl,hgr,hgc,hcm,q0⟩:=hB.at_ HL.out.1;have q1:=hB.at_ HL.out.2;obtain ⟨g',off',c4',e',_,_,_,q1⟩:=q1;injection e' with e1 e2 e3;injection e1 with e1;injection e1 with e1 e4;subst e1 e4;rw [Nat.add_zero] at q0;unfold u8 at q0 q1;have H2:=hid ((At_.refl HB.out).drewN k2);simp only [List.length_drop] at *;clear hB e2 e3)) | ((first | go_at_call 131 | go_at_call 181 | go_at_call 132 | go_at_call 133 | go_at_call 134 | go_at_call 135 | go_at_call 136 | go_at_call 137 | go_at_call 138 | go_at_call 139 | go_at_call 140 | go_at_call 141 | go_at_call 143 | go_at_call 144 | go_at_call 146);go_must (refine (HR.out.1 w _ r s D i _ (H2.out.nope ((kR Nope (w.drewN k2)).alloc _)) HR.out.2).mono ?_;rintro e w3 ⟨_,rfl,⟨T3,z3,rfl⟩,hk⟩;have c3:=(show Blk w3 w.heap.size _ #[Value.slice none 0 0] from (Blk.new (w.drewN k2) _ #[.slice none 0 0]).kept hk (fun e=>by have h1:=HB.out.lt;have e':w.heap.size=r:=e;omega)).cell 0;simp only [gt,gz] at c3;have H3:=hid (((kR (Only r) w).drewN k2).alloc (.cells #[.slice none 0 0] _) |>.trans' hk);clear hk)));go_ret2;exact ⟨_,_,rfl,⟨_,_,rfl⟩,H3.out⟩
section
variable (r:Nat) (s:Value) (D:List UInt8) (w:World)
theorem xgj (c:UInt8) (hcc:c=224\/c=240) (h:Buf w r s D 0) (hc:D[0]? = some c) (hl:D.length < (if c=224 then 4 else 10)):Calls prog 126 #[.pointer (some ⟨r,0,none⟩)] w (Fails w r):=by
 have hl0:=(gi.1 hc).1;have hl1:¬ ((D.length:Int) < 1):=by omega
 have hl4:(0:Int) < (D.length:Int):=by omega
 have HL:=hid hc;have HB:=hid h;clear h hc hl0
 rcases hcc with rfl | rfl
 ·have hl2:(D.length:Int) < 4:=by simp at hl;omega
  clear hl;go_enter func126,ntmps126;go_wp2_with (first | (go_at_call 34;go_must (refine (xbJ r s D 0 _ HB.out).mono ?_;rintro e w2 ⟨v,rfl,hB,k2,rfl⟩;rw [List.drop_zero] at hB;obtain ⟨g,off,c4,rfl,hgr,hgc,hcm,q0⟩:=hB.at_ HL.out;rw [Nat.add_zero] at q0;unfold u8 at q0;have H2:=hid ((At_.refl HB.out).drewN k2);clear hB)) | (go_at_call 55;go_must (refine (xah _ _).mono ?_;rintro e w9 ⟨v9,rfl,⟨T,z,rfl⟩,hK9⟩;have H9:=hid (H2.out.nope hK9);clear hK9)));go_ret2;exact ⟨_,_,rfl,⟨_,_,rfl⟩,H9.out.kept⟩
 ·have hl2:(D.length:Int) < 10:=by simp at hl;omega
  clear hl;go_enter func126,ntmps126;go_wp2_with (first | (go_at_call 34;go_must (refine (xbJ r s D 0 _ HB.out).mono ?_;rintro e w2 ⟨v,rfl,hB,k2,rfl⟩;rw [List.drop_zero] at hB;obtain ⟨g,off,c4,rfl,hgr,hgc,hcm,q0⟩:=hB.at_ HL.out;rw [Nat.add_zero] at q0;unfold u8 at q0;have H2:=hid ((At_.refl HB.out).drewN k2);clear hB)) | (go_at_call 55;go_must (refine (xah _ _).mono ?_;rintro e w9 ⟨v9,rfl,⟨T,z,rfl⟩,hK9⟩;have H9:=hid (H2.out.nope hK9);clear hK9)));go_ret2;exact ⟨_,_,rfl,⟨_,_,rfl⟩,H9.out.kept⟩
theorem RC_arr (c:UInt8) (hcc:c=224\/c=240) (i:Nat) (h:Buf w r s D i) (hc:D[i]? = some c)
  (hr:∀ W,Buf W r s D i->Calls prog 126 #[.pointer (some ⟨r,0,none⟩)] W (Fails W r)):Calls prog 53 #[.pointer (some ⟨r,0,none⟩)] w (Fails w r):=by
 refine (xdb r s D i w c hcc h hc (fun _ e w'=>xbC e/\Kept (Only r) w w') (fun W hW=>(hr W hW.buf).mono ?_)).mono ?_
 ·rintro e w' ⟨x,y,rfl,hy,hk⟩;exact ⟨_,_,rfl,hy,hW.kept.trans' hk⟩
 ·rintro e w' ⟨y,z,rfl,hz,hk⟩;exact ⟨_,_,rfl,hz,hk⟩
theorem xop {v:V} {d:List UInt8} (hg:Good v) (hk:v.kind=23) (hE:xhE v d):∃ F T c p,(F,T,c) ∈ xeH/\d=c :: p:=by
 obtain ⟨k0,hk0,hak,hn20⟩:∃ k0,v.kids[0]? = some k0/\xaK k0.kind/\k0.kind≠20:=by
  cases hg with
  | mk _ _ _ _ ha =>
   obtain ⟨k0,h1,h2,h3,_⟩:=ha hk;exact ⟨k0,h1,h2,h3⟩
 have hm0:=gm hk0
 cases hE with
 | @desc _ k d' c e p h1 h2 h3 h4 =>
  rw [hk0] at h1;cases h1;rw [(hg.kid hm0).desc] at h2;cases h2
 | @plain _ c p _ _ hel hF =>
  have hec:=hel k0 hm0;unfold xaK at hak;have e:k0.kind=1\/k0.kind=2\/k0.kind=3\/k0.kind=4\/k0.kind=5\/k0.kind=6\/k0.kind=7\/k0.kind=8\/k0.kind=9\/k0.kind=10\/k0.kind=11\/k0.kind=16\/k0.kind=17\/k0.kind=18\/k0.kind=19:=by omega
  unfold elemCode at hec
  rcases hec with hce | ⟨_,rfl⟩ | ⟨_,rfl⟩ | ⟨_,rfl⟩ | ⟨_,rfl⟩ | ⟨_,rfl⟩ | ⟨_,rfl⟩ | ⟨h20,_⟩
  ·rcases e with h0 | h0 | h0 | h0 | h0 | h0 | h0 | h0 | h0 | h0 | h0 | h0 | h0 | h0 | h0 <;> rw [h0] at hce <;> subst hce
   ·exact ⟨140,113,86,p,by decide,rfl⟩
   ·exact ⟨181,115,80,p,by decide,rfl⟩
   ·exact ⟨132,118,96,p,by decide,rfl⟩
   ·exact ⟨134,121,112,p,by decide,rfl⟩
   ·exact ⟨136,124,128,p,by decide,rfl⟩
   ·exact ⟨131,127,81,p,by decide,rfl⟩
   ·exact ⟨133,130,97,p,by decide,rfl⟩
   ·exact ⟨135,133,113,p,by decide,rfl⟩
   ·exact ⟨137,136,129,p,by decide,rfl⟩
   ·exact ⟨138,139,114,p,by decide,rfl⟩
   ·exact ⟨139,142,130,p,by decide,rfl⟩
   ·exact ⟨144,144,131,p,by decide,rfl⟩
   ·exact ⟨146,147,152,p,by decide,rfl⟩
   ·exact ⟨143,150,176,p,by decide,rfl⟩
   ·exact ⟨141,153,177,p,by decide,rfl⟩
  ·exact ⟨134,121,82,p,by decide,rfl⟩
  ·exact ⟨136,124,83,p,by decide,rfl⟩
  ·exact ⟨135,133,84,p,by decide,rfl⟩
  ·exact ⟨137,136,85,p,by decide,rfl⟩
  ·exact ⟨143,150,160,p,by decide,rfl⟩
  ·exact ⟨141,153,161,p,by decide,rfl⟩
  ·exact absurd h20 hn20
theorem read_cut {v:V} {bs:List UInt8} (hg:Good v) (hE:Enc v bs) (hlen:bs.length < 4294967296) (m:Nat) (hm:m < bs.length) (h:Buf w r s (bs.take m) 0):Calls prog 53 #[.pointer (some ⟨r,0,none⟩)] w (Fails w r):=by
 have hR:∀ k,xbY k v (bs.take m):=fun k=>⟨bs,hE,hg.desc,hlen,.inl ⟨m,hm,rfl⟩⟩
 have t:=hg.tidy
 cases hE with
 | desc h1 _ _=>rw [hg.desc] at h1;cases h1
 | @plain _ c p hd0 hF =>
  simp only [lC] at hm hlen
  match m,hm,h,hR with
  | 0,_,h,_=>exact xmh r s _ 0 w h (Nat.le_refl _)
  | m+1,hm,h,hR =>
   have hhead:((UInt8.ofNat c :: p).take (m+1))[0]? = some (UInt8.ofNat c):=rfl;have hl:((UInt8.ofNat c :: p).take (m+1)).length=m+1:=by rw [List.length_take,lC];omega
   cases hF with
   | null h0=>simp at hm
   | flag h1=>simp at hm
   | uint0 _ _=>simp at hm
   | ulong0 _ _=>simp at hm
   | list0 _ _=>simp at hm
   | bool h1=>simp at hm;exact RC_56 w r s _ 0 h hhead (by rw [hl];omega)
   | uint1 _ _=>simp at hm;exact RC_52 w r s _ 0 h hhead (by rw [hl];omega)
   | ulong1 _ _=>simp at hm;exact RC_53 w r s _ 0 h hhead (by rw [hl];omega)
   | int1 _ _=>simp at hm;exact RC_54 w r s _ 0 h hhead (by rw [hl];omega)
   | long1 _ _=>simp at hm;exact RC_55 w r s _ 0 h hhead (by rw [hl];omega)
   | full hk =>
    rw [be_length] at hm;have hkk:=t.kind;have e:v.kind=2\/v.kind=3\/v.kind=4\/v.kind=5\/v.kind=6\/v.kind=7\/v.kind=8\/v.kind=9\/v.kind=10\/v.kind=11\/v.kind=16:=by unfold xay at hk;omega
    rcases e with h0 | h0 | h0 | h0 | h0 | h0 | h0 | h0 | h0 | h0 | h0 <;> rw [h0] at h hl hhead hm <;> simp only [fsz] at hm
    ·exact RC_50 w r s _ 0 h hhead (by rw [hl];simp at hm;omega)
    ·exact RC_60 w r s _ 0 h hhead (by rw [hl];simp at hm;omega)
    ·exact RC_70 w r s _ 0 h hhead (by rw [hl];simp at hm;omega)
    ·exact RC_80 w r s _ 0 h hhead (by rw [hl];simp at hm;omega)
    ·exact RC_51 w r s _ 0 h hhead (by rw [hl];simp at hm;omega)
    ·exact RC_61 w r s _ 0 h hhead (by rw [hl];simp at hm;omega)
    ·exact RC_71 w r s _ 0 h hhead (by rw [hl];simp at hm;omega)
    ·exact RC_81 w r s _ 0 h hhead (by rw [hl];simp at hm;omega)
    ·exact RC_72 w r s _ 0 h hhead (by rw [hl];simp at hm;omega)
    ·exact RC_82 w r s _ 0 h hhead (by rw [hl];simp at hm;omega)
    ·exact RC_83 w r s _ 0 h hhead (by rw [hl];simp at hm;omega)
   | wide hk hx =>
    have h17:v.kind=17:=by have:=t.kind;omega
    rw [bytesOf_length,hx] at hm;rw [h17] at h hl hhead;exact RC_98 w r s _ 0 h hhead (by rw [hl];omega)
   | text1 hk hx =>
    have hp:(be 1 v.text.size ++ bytesOf v.text).length=1+v.text.size:=by simp [bytesOf_length]
    have h0:(UInt8.ofNat (v.text.size % 256)).toNat=v.text.size:=by simp;omega
    have h1:2<=m+1->∀ c:UInt8,((c :: (be 1 v.text.size ++ bytesOf v.text)).take (m+1))[0+1]? = some (UInt8.ofNat (v.text.size % 256)):=fun h2 c=>xaP (by simp [be1]) (by omega)
    rcases hk with e | e | e <;> rw [e] at h hl hhead
    ·refine RC_bin w r s _ 0 160 (by decide) h hhead fun W hW => ?_
     rcases Nat.lt_or_ge (m+1) 2 with h3 | h3
     ·exact xgJ r s _ 0 W 160 rfl hW hhead (by rw [hl];omega)
     ·exact xht r s _ 0 W 160 _ rfl hW hhead (h1 h3 _) (by rw [hl,h0];omega)
    ·refine xot w r s _ 0 161 (by decide) h hhead fun W hW => ?_
     rcases Nat.lt_or_ge (m+1) 2 with h3 | h3
     ·exact xea r s _ 0 W 161 (.inl rfl) hW hhead (by rw [hl];omega)
     ·exact xeq r s _ 0 W 161 _ (.inl rfl) hW hhead (h1 h3 _) (by rw [hl,h0];omega)
    ·refine xot w r s _ 0 163 (by decide) h hhead fun W hW => ?_
     rcases Nat.lt_or_ge (m+1) 2 with h3 | h3
     ·exact xea r s _ 0 W 163 (.inr rfl) hW hhead (by rw [hl];omega)
     ·exact xeq r s _ 0 W 163 _ (.inr rfl) hW hhead (h1 h3 _) (by rw [hl,h0];omega)
   | text4 hk =>
    have hp:(be 4 v.text.size ++ bytesOf v.text).length=4+v.text.size:=by simp [bytesOf_length]
    have hN:Lib.beNat (be 4 v.text.size)=v.text.size:=by rw [xcT];have:=t.size;omega
    rcases hk with e | e | e <;> rw [e] at h hl hhead
    ·refine RC_bin w r s _ 0 176 (by decide) h hhead fun W hW => ?_
     rcases Nat.lt_or_ge (m+1) 5 with h3 | h3
     ·exact xgH r s _ 0 W 176 rfl hW hhead (by rw [hl];omega)
     ·exact xhs r s _ 0 W 176 _ _ _ _ rfl hW hhead (xaP rfl (by omega)) (xaP rfl (by omega)) (xaP rfl (by omega)) (xaP rfl (by omega)) (by rw [hl];show m+1 < 0+5+Lib.beNat (be 4 v.text.size);omega)
    ·refine xot w r s _ 0 177 (by decide) h hhead fun W hW => ?_
     rcases Nat.lt_or_ge (m+1) 5 with h3 | h3
     ·exact xdZ r s _ 0 W 177 (.inl rfl) hW hhead (by rw [hl];omega)
     ·exact xep r s _ 0 W 177 _ _ _ _ (.inl rfl) hW hhead (xaP rfl (by omega)) (xaP rfl (by omega)) (xaP rfl (by omega)) (xaP rfl (by omega)) (by rw [hl];show m+1 < 0+5+Lib.beNat (be 4 v.text.size);omega)
    ·refine xot w r s _ 0 179 (by decide) h hhead fun W hW => ?_
     rcases Nat.lt_or_ge (m+1) 5 with h3 | h3
     ·exact xdZ r s _ 0 W 179 (.inr rfl) hW hhead (by rw [hl];omega)
     ·exact xep r s _ 0 W 179 _ _ _ _ (.inr rfl) hW hhead (xaP rfl (by omega)) (xaP rfl (by omega)) (xaP rfl (by omega)) (xaP rfl (by omega)) (by rw [hl];show m+1 < 0+5+Lib.beNat (be 4 v.text.size);omega)
   | kids1 hk _ _ _ =>
    rcases hk with e | e
    ·exact xqm w r s _ 0 192 (by decide) h (by rw [hhead,e];rfl) fun W hW=>xfB r s _ W (hR 21) hW
    ·exact RC_map w r s _ 0 193 (by decide) h (by rw [hhead,e];rfl) fun W hW=>xdl r s _ W (hR 22) hW
   | kids4 hk _ =>
    rcases hk with e | e
    ·exact xqm w r s _ 0 208 (by decide) h (by rw [hhead,e];rfl) fun W hW=>xfB r s _ W (hR 21) hW
    ·exact RC_map w r s _ 0 209 (by decide) h (by rw [hhead,e];rfl) fun W hW=>xdl r s _ W (hR 22) hW
   | @array1 _ d hk hE hn hd =>
    obtain ⟨F,T,c,p,ht,rfl⟩:=xop hg hk hE;simp only [lC] at hd;have hp:(be 1 ((c :: p).length+1) ++ be 1 v.kids.length ++ (c :: p)).length=3+p.length:=by simp;omega
    have h0:(UInt8.ofNat (((c :: p).length+1) % 256)).toNat=p.length+2:=by simp;omega
    refine RC_arr r s _ w 224 (.inl rfl) 0 h hhead fun W hW => ?_
    rcases Nat.lt_or_ge (m+1) 4 with h3 | h3
    ·exact xgj r s _ W 224 (.inl rfl) hW hhead (by rw [hl,if_pos rfl];exact h3)
    ·refine xkj F T c ht r s _ 0 W hW hhead (xaP (by simp [be1]) (by omega)) fun W' hW' => ?_
     exact xeB r s _ 0 W' (UInt8.ofNat (((c :: p).length+1) % 256)) (UInt8.ofNat (v.kids.length % 256)) hW' hhead (xaP (by simp [be1]) (by omega)) (xaP (by simp [be1]) (by omega)) (by rw [hl,h0];omega)
   | @array4 _ d hk hE =>
    obtain ⟨F,T,c,p,ht,rfl⟩:=xop hg hk hE;have hp:(be 4 ((c :: p).length+4) ++ be 4 v.kids.length ++ (c :: p)).length=9+p.length:=by simp;omega
    have hN:Lib.beNat (be 4 ((c :: p).length+4))=p.length+5:=by rw [xcT];simp only [lC];omega
    refine RC_arr r s _ w 240 (.inr rfl) 0 h hhead fun W hW => ?_
    rcases Nat.lt_or_ge (m+1) 10 with h3 | h3
    ·exact xgj r s _ W 240 (.inr rfl) hW hhead (by rw [hl,if_neg (by decide)];exact h3)
    ·refine xki F T c ht r s _ 0 W hW hhead (xaP (by simp [be]) (by omega)) fun W' hW' => ?_
     exact xeA r s _ 0 W' _ _ _ _ _ _ _ _ hW' hhead ⟨xaP rfl (by omega),xaP rfl (by omega),xaP rfl (by omega),xaP rfl (by omega),xaP rfl (by omega),xaP rfl (by omega),xaP rfl (by omega),xaP rfl (by omega)⟩
      (by rw [hl];show m+1 < 0+5+Lib.beNat (be 4 ((c :: p).length+4));omega)
end
def ValOut (w:World) (u:V) (bh:List UInt8):Ending->World->Prop:=fun e w'=>∃ vx rx,e = .returned (.tuple #[vx,rx,.bool true])/\Kept Nope w w'/\(∃ v',VAgg (xaf w) w' vx v'/\xao u v')/\BSl (xaf w) w' rx bh
def NoVal (w:World):Ending->World->Prop:=fun e w'=>e = .returned (.tuple #[.agg zVal,.slice none 0 0,.bool false])/\Kept Nope w w'
theorem xgY (a b c:Addr) (w:World):CallsD prog 52 #[.pointer (some a),.pointer (some b),.pointer (some c)] .returning w fun e u' w'=>e = .returned (.tuple #[])/\u' = .returning/\w'=w:=by
 refine callsD_of_wpS func52 rfl fun c₀ cs hu => ?_
 apply wpS_seq;apply wpS_region;simp [wpOpsS,go_sem,recoverD,hu,ntmps52,Exit.thenS];refine wpS_cond (t:=false) (by simp [Act.eval,Array.replicate]) ?_;simp only [Bool.false_eq_true,if_false];refine wpS_of_wp (wp_skip ?_);cases c₀
 simp_all [bodyPostS,results,results52]
structure xcD (W:World) (P:Nat) (cs:Array Value) (y z:Value):Prop where
 b0:Blk W P 25 cs
 b1:Blk W (P+1) 26 #[y]
 b2:Blk W (P+1+1) 4 #[z]
namespace xcD
variable {W W':World} {P:Nat} {cs:Array Value} {y z:Value}
theorem keep (h:xcD W P cs y z) (hk:Kept Nope W W'):xcD W' P cs y z:=⟨h.b0.kept hk (fun h=>h),h.b1.kept hk (fun h=>h),h.b2.kept hk (fun h=>h)⟩
theorem keepO {r:Nat} (h:xcD W P cs y z) (hk:Kept (Only r) W W') (hr:P+3<=r):xcD W' P cs y z :=
 ⟨h.b0.kept hk (fun e=>by have e':P=r:=e;omega),h.b1.kept hk (fun e=>by have e':P+1=r:=e;omega),h.b2.kept hk (fun e=>by have e':P+1+1=r:=e;omega)⟩
theorem drew (h:xcD W P cs y z):xcD W.drew P cs y z:=h.keep ((kR Nope W).drew)
theorem drewN (h:xcD W P cs y z) (k:Nat):xcD (W.drewN k) P cs y z:=h.keep ((kR Nope W).drewN k)
theorem put (h:xcD W P cs y z) {cs':Array Value} (hB:Blk W' P 25 cs') (hk:Kept (Only P) W W'):xcD W' P cs' y z :=
 ⟨hB,h.b1.kept hk (fun e=>by have e':P+1=P:=e;omega),h.b2.kept hk (fun e=>by have e':P+1+1=P:=e;omega)⟩
theorem set1 (h:xcD W P cs y z) (u:Value):xcD (W.setCell ⟨P+1,0,none⟩ u) P cs u z :=
 ⟨h.b0.far (show P≠P+1 by omega) u,by simpa using h.b1.set_ 0 u,h.b2.far (show P+1+1≠P+1 by omega) u⟩
theorem set2 (h:xcD W P cs y z) (u:Value):xcD (W.setCell ⟨P+1+1,0,none⟩ u) P cs y u :=
 ⟨h.b0.far (show P≠P+1+1 by omega) u,h.b1.far (show P+1≠P+1+1 by omega) u,by simpa using h.b2.set_ 0 u⟩
end xcD
def set6 (w:World) (P:Nat) (a0 a1 a2 a3 a4 a5:Value):World:=(((((w.setCell ⟨P,0,none⟩ a0).setCell ⟨P,1,none⟩ a1).setCell ⟨P,2,none⟩ a2).setCell ⟨P,3,none⟩ a3).setCell ⟨P,4,none⟩ a4).setCell ⟨P,5,none⟩ a5
theorem xiR (w:World) (P:Nat) (hP:w.heap.size=P) (W:World) (hW:((w.alloc (.cells zVal 25)).alloc (.cells #[.slice none 0 0] 26)).alloc (.cells #[.bool false] 4)=W) :
  Kept Nope w W/\W.heap.size=P+3/\xcD W P zVal (.slice none 0 0) (.bool false)/\w.heap.size=P:=by
 subst hW;have h0:=Blk.new w 25 zVal;have h1:=Blk.new (w.alloc (.cells zVal 25)) 26 #[.slice none 0 0];have h2:=Blk.new ((w.alloc (.cells zVal 25)).alloc (.cells #[.slice none 0 0] 26)) 4 #[.bool false];rw [World.size_alloc,hP] at h1;rw [World.size_alloc,World.size_alloc,hP] at h2;rw [hP] at h0;refine ⟨(((kR Nope w).alloc _).alloc _).alloc _,by rw [World.size_alloc,World.size_alloc,World.size_alloc,hP],⟨(h0.alloc _).alloc _,h1.alloc _,h2⟩,hP⟩
theorem same6 {w:World} {P:Nat} {y z a0 a1 a2 a3 a4 a5:Value} {A:Array Value} (hA:A = #[a0,a1,a2,a3,a4,a5]) (h:xcD w P A y z):xcD (set6 w P a0 a1 a2 a3 a4 a5) P A y z/\Kept (xcw P) w (set6 w P a0 a1 a2 a3 a4 a5):=by
 subst hA;have h0:Blk (set6 w P a0 a1 a2 a3 a4 a5) P 25 #[a0,a1,a2,a3,a4,a5]:=by unfold set6;simpa using (((((h.b0.set_ 0 a0).set_ 1 a1).set_ 2 a2).set_ 3 a3).set_ 4 a4).set_ 5 a5
 have hk:Kept (Only P) w (set6 w P a0 a1 a2 a3 a4 a5):=((((((kR (Only P) w).set1 0 a0).set1 1 a1).set1 2 a2).set1 3 a3).set1 4 a4).set1 5 a5;exact ⟨h.put h0 hk,(kR (xcw P) w).trans hk fun b _ hb=>by have e':b=P:=hb;show P<=b/\b < P+3;omega⟩
theorem kept12 {w0 w:World} {P:Nat} (h:Kept (xcw P) w0 w) (x u:Value):Kept (xcw P) w0 ((w.setCell ⟨P+1,0,none⟩ x).setCell ⟨P+1+1,0,none⟩ u) :=
 (h.setCell (p:=⟨P+1,0,none⟩) (.inl (show P<=P+1/\P+1 < P+3 by omega)) x).setCell (p:=⟨P+1+1,0,none⟩) (.inl (show P<=P+1+1/\P+1+1 < P+3 by omega)) u
theorem ret3V (w':World) (R:Ending->World->Prop) (tmps:Array Value) (P:Nat) (cs:Array Value) (y z:Value) (h2:tmps.getD 2 undef = .pointer (some ⟨P,0,none⟩)) (h3:tmps.getD 3 undef = .pointer (some ⟨P+1,0,none⟩)) (h4:tmps.getD 4 undef = .pointer (some ⟨P+1+1,0,none⟩))
  (hq:xcD w' P cs y z) (hz:cs.size=6) (hR:R (.returned (.tuple #[.agg cs,y,z])) w'):Leaves prog Tryz.f28 tmps R [] .returning w':=by
 have l1:=run_loadVar_row (P:=prog) w' P 25 25 _ _ _ hq.b0 underlying25 rfl (by rw [hz];kernel_rfl);have c2:=hq.b1.cell 0;have c3:=hq.b2.cell 0;simp only [gt,gz] at c2 c3
 have l2:(loadVar 26 ⟨P+1,0,none⟩).run prog w' = .ok y w':=by
  simp [loadVar,c2,go_sem]
 have l3:(loadVar 4 ⟨P+1+1,0,none⟩).run prog w' = .ok z w':=by
  simp [loadVar,c3,go_sem]
 exact ⟨_,xfo rfl tmps prog w' h2 h3 h4 l1 l2 l3,hR⟩
theorem xmd (w:World) (s:Value) (D:List UInt8) (hs:BSl Any_ w s D) (hlen:D.length < 4294967296) (he:Eof w)
  (hU:∀ (W:World) (r:Nat) (y:Value),Buf W r y D 0->Calls prog 53 #[.pointer (some ⟨r,0,none⟩)] W (Fails W r)) :
  Calls prog 28 #[s] w (NoVal w):=by
 have HW:=hid (aI hs he);have HR:=hid hlen;have HU:=hid hU;clear hlen he hU;obtain ⟨sa,sc,rfl,_⟩:=hs
 go_enter_defers func28,ntmps28
 go_wp2_with fail;obtain ⟨P,hP⟩:∃ P,w.heap.size=P:=⟨_,rfl⟩
 obtain ⟨W3,hW3⟩:∃ W3,((w.alloc (.cells zVal 25)).alloc (.cells #[.slice none 0 0] 26)).alloc (.cells #[.bool false] 4)=W3:=⟨_,rfl⟩
 have hB:=xiR w P hP W3 hW3;unfold zVal at hW3;rw [hW3,hP];have HB:=hid hB;have hu2:(prog.info? 25).map (fun i=>i.size)=some 6:=by kernel_rfl
 have HI:=hid hu2;clear hB hW3 hP hu2
 go_wp2_with (first
  | (refine xbl rfl 25 (.tmp 2) (.tmp 18) rfl P zVal rfl rfl 25 zVal H3.out.2.b0 (by rw [HI.out];rfl) rfl (by simp [zVal,Value.oneCell']) ?_;intro W5 hW5 hK5;have hq5:=H3.out.2.put hW5 hK5;have H5:=hid (aI hK5 hq5);have c41:=hq5.b1.cell 0;have c42:=hq5.b2.cell 0;have f41:=hq5.b1.frozen 0;have f42:=hq5.b2.frozen 0;simp only [gt,gz] at c41 c42;clear hW5 hK5 hq5)
  | (go_at_call 53;go_must (refine (HU.out w2 w1.heap.size _ H2.out.1).mono ?_;rintro e w3 ⟨x3,e3,rfl,⟨T3,z3,rfl⟩,hk3⟩;have hq3:=(HB.out.2.2.1.keep (H1.out.2.trans' H2.out.2)).keepO hk3 (by have h1:=H1.out.2.size;have h2:=HB.out.2.1;omega);have hkw3:Kept Nope w w3:=(HB.out.1.trans' (H1.out.2.trans' H2.out.2)).trans hk3 (fun k hk e=>by have e':k=w1.heap.size:=e;have h2:=(HB.out.1.trans' H1.out.2).size;omega);have H3:=hid (aI hkw3 hq3);clear hk3 hq3 hkw3))
  | (go_at_call 30;go_must (refine (xes _ _ _ _).mono ?_;rintro e w2 ⟨rfl,hw2⟩;have H2:=hid (aI (hw2.symm ▸ Buf.fresh (w:=W3) (HW.out.2.nope HB.out.1) H1.out.2 H1.out.1 (by have:=HR.out;omega)) (hw2.symm ▸ (kR Nope w1).alloc (.cells #[.slice ya D.length yc,.int .i64 0] 92):Kept Nope w1 w2));clear hw2))
  | (go_at_call 31;go_must (refine (xbh Any_ _ _ D (HW.out.1.keep HB.out.1 (fun _ _ _ h=>h)) (by have:=HR.out;omega)).mono ?_;rintro e w1 ⟨y1,rfl,hy1,hk1⟩;have hf1:=hy1;obtain ⟨ya,yc,rfl,_⟩:=hf1;have H1:=hid (aI hy1 hk1);clear hy1 hk1)))
 have hq6:=(H5.out.2.set1 (.slice none 0 0)).set2 (.bool false);have kz:Kept Nope w ((W5.setCell ⟨P+1,0,none⟩ (.slice none 0 0)).setCell ⟨P+1+1,0,none⟩ (.bool false)):=H3.out.1.trans (kept12 ((kR (xcw P) w3).trans H5.out.1 fun b _ hb=>by have e':b=P:=hb;show P<=b/\b < P+3;omega) _ _) (fun k hk e=>by have e':P<=k/\k < P+3:=e;have:=HB.out.2.2.2;omega);go_wp2;refine leaves_cons (f:=52) (args:=#[.pointer (some ⟨P,0,none⟩),.pointer (some ⟨P+1,0,none⟩),.pointer (some ⟨P+1+1,0,none⟩)]) (by simp) (by simp [go_sem]) ?_;refine (xgY _ _ _ _).mono ?_;rintro e u' w'' ⟨rfl,rfl,rfl⟩;exact ret3V _ _ _ P _ _ _ rfl rfl rfl hq6 rfl ⟨rfl,kz⟩
theorem xmc (w:World) (s:Value) (D bh:List UInt8) (n:Nat) (v:V) (hs:BSl Any_ w s D) (hlen:D.length < 4294967296) (hdrop:D.drop n=bh) (hg:Good v) (hut:Utf (asRead v)) (hT:Tabs w) (he:Eof w)
  (hU:∀ (W:World) (r:Nat) (y:Value),Buf W r y D 0->RA W r y D n v) :
  Calls prog 28 #[s] w (ValOut w (asRead v) bh):=by
 have HW:=hid (aI hs (aI hT he));have HR:=hid (aI hlen hdrop);have HU:=hid hU;have HG:=hid (aI hg hut);clear hlen hdrop hT he hU hg hut;obtain ⟨sa,sc,rfl,_⟩:=hs
 go_enter_defers func28,ntmps28
 go_wp2_with fail;obtain ⟨P,hP⟩:∃ P,w.heap.size=P:=⟨_,rfl⟩
 obtain ⟨W3,hW3⟩:∃ W3,((w.alloc (.cells zVal 25)).alloc (.cells #[.slice none 0 0] 26)).alloc (.cells #[.bool false] 4)=W3:=⟨_,rfl⟩
 have hB:=xiR w P hP W3 hW3;unfold zVal at hW3;rw [hW3,hP];have HB:=hid hB;have hu2:(prog.info? 25).map (fun i=>i.size)=some 6:=by kernel_rfl
 have HI:=hid hu2;clear hB hW3 hP hu2
 go_wp2_with (first
  | (refine xbl rfl 25 (.tmp 2) (.tmp 22) rfl P (Lay.mk v' (.slice pk4 v'.kids.length ck4) (.slice pd4 v'.desc.length cd4)).cells.toArray rfl rfl 25 zVal H4.out.2.2.2.b0 (by rw [HI.out];rfl) rfl (by simp [Lay.cells,Value.oneCell']) ?_;intro W5 hW5 hK5;have hq5:=H4.out.2.2.2.put hW5 hK5;have H5:=hid (aI hK5 hq5);have c42:=hq5.b2.cell 0;have f42:=hq5.b2.frozen 0;simp only [gt,gz] at c42;clear hW5 hK5 hq5)
  | (go_at_call 33;go_must (refine (xiQ _ v (Nat.le_refl _) HG.out.1 HG.out.2 _ _ (HW.out.2.1.nope H3.out.2.1) (H3.out.2.2.2.mono fun _ _=>trivial)).mono ?_;rintro e w4 ⟨y4,b4,rfl,rfl,hk4,v',hv4,hlo4⟩;obtain ⟨ks4,ds4,rfl,g4⟩:=hv4;obtain ⟨pk4,ck4,rfl,_⟩:=g4.2.1.form;obtain ⟨pd4,cd4,rfl,_⟩:=g4.2.2.form;have hq4:=H3.out.2.2.1.keep hk4;have H4:=hid (aI hk4 (aI g4 (aI hlo4 hq4)));clear hk4 g4 hlo4 hq4;unfold vagg))
  | (go_at_call 53;go_must (refine (HU.out w2 w1.heap.size _ H2.out.1).mono ?_;rintro e w3 ⟨x3,e3,rfl,rfl,hx3,hA3⟩;have hq3:=(HB.out.2.2.1.keep (H1.out.2.trans' H2.out.2)).keepO hA3.kept (by have h1:=H1.out.2.size;have h2:=HB.out.2.1;omega);have hkw3:Kept Nope w w3:=(HB.out.1.trans' (H1.out.2.trans' H2.out.2)).trans hA3.kept (fun k hk e=>by have e':k=w1.heap.size:=e;have h2:=(HB.out.1.trans' H1.out.2).size;omega);have H3:=hid (aI hA3 (aI hkw3 (aI hq3 hx3)));clear hA3 hx3 hq3 hkw3))
  | (go_at_call 30;go_must (refine (xes _ _ _ _).mono ?_;rintro e w2 ⟨rfl,hw2⟩;have H2:=hid (aI (hw2.symm ▸ Buf.fresh (w:=W3) (HW.out.2.2.nope HB.out.1) H1.out.2 H1.out.1 (by have:=HR.out.1;omega)) (hw2.symm ▸ (kR Nope w1).alloc (.cells #[.slice ya D.length yc,.int .i64 0] 92):Kept Nope w1 w2));clear hw2))
  | (go_at_call 31;go_must (refine (xbh Any_ _ _ D (HW.out.1.keep HB.out.1 (fun _ _ _ h=>h)) (by have:=HR.out.1;omega)).mono ?_;rintro e w1 ⟨y1,rfl,hy1,hk1⟩;have hf1:=hy1;obtain ⟨ya,yc,rfl,_⟩:=hf1;have H1:=hid (aI hy1 hk1);clear hy1 hk1)))
 clear c42 f42;obtain ⟨W6,hW6⟩:∃ W6,W5.setCell ⟨P+1+1,0,none⟩ (.bool true)=W6:=⟨_,rfl⟩
 have hq6:xcD W6 P (Lay.mk v' (.slice pk4 v'.kids.length ck4) (.slice pd4 v'.desc.length cd4)).cells.toArray (.slice none 0 0) (.bool true):=hW6 ▸ H5.out.2.set2 _
 have hk6:Kept (xcw P) w4 W6:=by
  have h1:Kept (xcw P) w4 W5:=(kR (xcw P) w4).trans H5.out.1 fun b _ hb=>by have e':b=P:=hb;show P<=b/\b < P+3;omega
  exact hW6 ▸ h1.setCell (p:=⟨P+1+1,0,none⟩) (.inl (show P<=P+1+1/\P+1+1 < P+3 by omega)) _
 (try rw [hW6])
 have hs1:=H1.out.2.size;have hs2:=H2.out.2.size;have hs3:=H3.out.1.kept.size;have hPs:=HB.out.2.1;have hBu:Buf W6 w1.heap.size (.slice ya D.length yc) D n:=(H3.out.1.buf.nope H4.out.1).keepQ hk6 (fun e=>by have e':P<=w1.heap.size/\w1.heap.size < P+3:=e;omega) (((((H1.out.1.mono (S':=fun b=>W3.heap.size<=b/\b < w1.heap.size) fun b hb hS=>⟨hS,hb⟩).keep H2.out.2 (fun _ _ _ h=>h)).keep H3.out.1.kept (fun b _ hb e=>by have e':b=w1.heap.size:=e;omega)).keep H4.out.1 (fun _ _ _ h=>h)).mono fun b _ hb=>⟨by omega,fun e=>by have e':P<=b/\b < P+3:=e;omega⟩) (fun e=>by have e':P<=0/\0 < P+3:=e;have:=HW.out.2.2.lt;have:=HB.out.2.2.2;omega);have hkw6:Kept Nope w W6:=(H3.out.2.1.trans' H4.out.1).trans hk6 (fun k hk e=>by have e':P<=k/\k < P+3:=e;have:=HB.out.2.2.2;omega);have hv4:VAgg (xaf w3) w4 (vagg v' (.slice pk4 v'.kids.length ck4) (.slice pd4 v'.desc.length cd4)) v':=⟨_,_,rfl,H4.out.2.1⟩;have hv6:=hv4.keep hk6 (fun b _ hb e=>by have e':P<=b/\b < P+3:=e;have hb':w3.heap.size<=b:=hb;omega);have hz6:P+3<=W6.heap.size:=by have:=hk6.size;have:=H4.out.1.size;omega
 have hsix:∀ w',Blk w' P 25 (Lay.mk v' (.slice pk4 v'.kids.length ck4) (.slice pd4 v'.desc.length cd4)).cells.toArray->w'.cell? ⟨P,0,none⟩=some (.int .i64 v'.kind)/\w'.cell? ⟨P,1,none⟩=some (.int .u64 v'.num)/\w'.cell? ⟨P,2,none⟩=some (.string v'.text)/\w'.cell? ⟨P,3,none⟩=some (.slice pk4 v'.kids.length ck4)/\w'.cell? ⟨P,4,none⟩=some (.int .i64 v'.of_)/\w'.cell? ⟨P,5,none⟩=some (.slice pd4 v'.desc.length cd4):=fun w' g=>⟨g.cell 0,g.cell 1,g.cell 2,g.cell 3,g.cell 4,g.cell 5⟩
 have H6:=hid (aI hq6 (aI hBu (aI hkw6 (aI hv6 (aI hz6 hsix)))));have HS:=hid (aI hs1 (aI hs2 hs3));clear hq6 hk6 hs1 hs2 hs3 hPs hBu hkw6 hv4 hv6 hW6 hz6 hsix
 go_region_held3 (fun w'=>w'.cell? ⟨P,0,none⟩=some (.int .i64 v'.kind)/\w'.cell? ⟨P,1,none⟩=some (.int .u64 v'.num)/\w'.cell? ⟨P,2,none⟩=some (.string v'.text)/\w'.cell? ⟨P,3,none⟩=some (.slice pk4 v'.kids.length ck4)/\w'.cell? ⟨P,4,none⟩=some (.int .i64 v'.of_)/\w'.cell? ⟨P,5,none⟩=some (.slice pd4 v'.desc.length cd4)) (first | with_reducible exact H6.out.2.2.2.2.2 _ H6.out.1.drew.b0 | with_reducible exact H6.out.2.2.2.2.2 _ (H6.out.1.drew.drewN k8).b0 | with_reducible exact H6.out.2.2.2.2.2 _ (H6.out.1.drewN (1+k8)).b0 | with_reducible exact H6.out.2.2.2.2.2 _ H9.out.2.2.1.b0 | with_reducible exact H6.out.2.2.2.2.2 _ HA.out.1.b0 | with_reducible exact H6.out.2.2.2.2.2 _ (HA.out.2.1 _).b0 | with_reducible exact H6.out.2.2.2.2.2 _ (HA.out.2.2.1 _).b0 | fail) (first
  | (go_at_call 31;go_must (refine (xbh Any_ _ _ bh H8.out.2 H8.out.1).mono ?_;rintro e w9 ⟨y9,rfl,hy9,hk9⟩;have hf9:=hy9;obtain ⟨y9p,y9c,rfl,_⟩:=hf9;have hKK:Kept Nope W6 w9:=((kR Nope W6).drewN (1+k8)).trans' hk9;have g:=H6.out.1.keep hKK;have f90:=g.b0.frozen 0;have f91:=g.b0.frozen 1;have f92:=g.b0.frozen 2;have f93:=g.b0.frozen 3;have f94:=g.b0.frozen 4;have f95:=g.b0.frozen 5;have e91:=g.b1.cell 0;have e92:=g.b1.frozen 0;have e93:=g.b2.cell 0;have e94:=g.b2.frozen 0;simp only [gt,gz] at e91 e93;have hs6:=same6 (A:=(Lay.mk v' (.slice pk4 v'.kids.length ck4) (.slice pd4 v'.desc.length cd4)).cells.toArray) (a0:=.int .i64 v'.kind) (a1:=.int .u64 v'.num) (a2:=.string v'.text) (a3:=.slice pk4 v'.kids.length ck4) (a4:=.int .i64 v'.of_) (a5:=.slice pd4 v'.desc.length cd4) rfl g;unfold set6 at hs6;have HA:=hid (aI hs6.1 (aI (fun y=>hs6.1.set1 y) (aI (fun y=>(hs6.1.set1 y).set2 (.bool true)) hs6.2)));have H9:=hid (aI hy9 (aI hKK (aI g True.intro)));clear hy9 hk9 hKK g hs6))
  | (go_at_call 34;(refine (xbJ w1.heap.size _ D n _ (H6.out.2.1.nope ((kR Nope W6).drew))).mono ?_;rintro e w8 ⟨x8,rfl,hb8,k8,rfl⟩;rw [HR.out.2] at hb8;have hf8:=hb8;obtain ⟨x8p,x8c,rfl,_⟩:=hf8;have H8:=hid (aI (show bh.length<=1099511627776 by have h1:=HR.out.2;have h2:=HR.out.1;rw [<- h1,List.length_drop];omega) ((hb8.mono (S':=Any_) fun _ _ _=>trivial).keep (show Kept Nope W6.drew (W6.drewN (1+k8)) from ⟨rfl,rfl,rfl,Nat.le_refl _,fun _ _ _=>rfl⟩) (fun _ _ _ h=>h)));clear hb8)))
 have hqz:=HA.out.2.2.1 (.slice y9p bh.length y9c);have hkz:=kept12 HA.out.2.2.2 (.slice y9p bh.length y9c) (.bool true);have hsw:=HB.out.2.2.2;have hsP:=HB.out.2.1;have h31:=HS.out.1;have h32:=HS.out.2.1;have h33:=HS.out.2.2;have h34:=H4.out.1.size;have h35:=H6.out.2.2.1.size;have kz:=(H6.out.2.2.1.trans' H9.out.2.1).trans hkz (fun k hk e=>by have e':P<=k/\k < P+3:=e;omega);have vz:=((H6.out.2.2.2.1.keep H9.out.2.1 (fun _ _ _ h=>h)).keep hkz (fun b _ hb e=>by have e':P<=b/\b < P+3:=e;have hb':w3.heap.size<=b:=hb;omega)).mono (S':=xaf w) fun b _ hb=>by have hb':w3.heap.size<=b:=hb;show w.heap.size<=b;omega
 have yz:=(H9.out.1.keep hkz (fun b _ hb e=>by have e':P<=b/\b < P+3:=e;have hb':(W6.drewN (1+k8)).heap.size<=b:=hb;have h36:W6.heap.size<=b:=hb';have:=H6.out.2.2.2.2.1;omega)).mono (S':=xaf w) fun b _ hb=>by have h36:W6.heap.size<=b:=hb;have:=H6.out.2.2.2.2.1;show w.heap.size<=b;omega
 go_wp2;refine leaves_cons (f:=52) (args:=#[.pointer (some ⟨P,0,none⟩),.pointer (some ⟨P+1,0,none⟩),.pointer (some ⟨P+1+1,0,none⟩)]) (by simp) (by simp [go_sem]) ?_;refine (xgY _ _ _ _).mono ?_;rintro e u' w'' ⟨rfl,rfl,rfl⟩;exact ret3V _ _ _ P _ _ _ rfl rfl rfl hqz rfl ⟨_,_,rfl,kz,⟨v',vz,H4.out.2.2.1⟩,yz⟩
theorem xeK {v:V} {bs bh D:List UInt8} (w:World) (s:Value) (hD:D=bs ++ bh) (hs:BSl Any_ w s D) (hg:Good v) (hu:Utf (asRead v)) (hE:Enc v bs) (hlen:D.length < 4294967296) (hT:Tabs w) (he:Eof w) :
  Calls prog 28 #[s] w (ValOut w (asRead v) bh):=by
 subst hD;refine xmc w s (bs ++ bh) bh bs.length v hs hlen (by simp) hg hu hT he fun W r y hB => ?_
 have:=xfO r y (bs ++ bh) hlen _ v (Nat.le_refl _) hg bs hE W 0 hB (xoM bs bh);rwa [Nat.zero_add] at this
theorem ReadValue_cut {v:V} {bs D:List UInt8} {m:Nat} (w:World) (s:Value) (hD:D=bs.take m) (hm:m < bs.length) (hs:BSl Any_ w s D) (hg:Good v) (hE:Enc v bs) (hlen:bs.length < 4294967296) (he:Eof w):Calls prog 28 #[s] w (NoVal w):=by
 subst hD;exact xmd w s _ hs (by rw [List.length_take];omega) he fun W r y hB=>read_cut r y W hg hE hlen m hm hB
end Go.Proofs.YtmdpodeegdjkeaaGreatDoor
