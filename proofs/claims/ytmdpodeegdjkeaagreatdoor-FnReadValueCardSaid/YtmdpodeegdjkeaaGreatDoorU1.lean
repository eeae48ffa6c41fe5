/- Part 1 of the proof of the readers and the guards. No conditions. -/
import Derived.Test.YtmdpodeegdjkeaaGreatDoorProg
import Derived.WalkKit
import Derived.WalkSpells
import Derived.WalkLawsBesides
import Derived.BigQuiet
import Derived.Deep.QuietTactic
import Derived.StillTailTactics
import Derived.Lib.Hide
import Derived.Deep.DeepMust
import Derived.Deep.DeepFit
import Derived.Lib.ConvBytes
import Derived.Test.YtmdpodeegdjkeaaGreatDoorU0
set_option maxRecDepth 100000
set_option maxHeartbeats 3200000
namespace Go.Proofs.YtmdpodeegdjkeaaGreatDoor
open Go Go.RowKit Go.Lib Tryz
section
theorem wp_region_tail {P:Program} {id:Nat} {Q:Exit->Act->World->Prop} {a:Act} {w:World} {l:List Oper} (n:Nat) (hm:P.follows .mixedOrders=true) (hB:Region.lexTailB .any l.toArray n=true)
  (h:∀ K:Act->Prop,(∀ a',wpList P l.toArray Q (l.drop n) a' w.drew->K a')->wpStill P l.toArray w.drew K (l.take n) a):(Code.region id l.toArray true).wp P Q a w :=
 wp_region_still_tail n hm hB (h _ fun _ h=>h)
def xbC (v:Value):Prop:=∃ T x,v = .iface T x
structure Buf (w:World) (r:Nat) (s:Value) (D:List UInt8) (i:Nat):Prop where
 blk:Blk w r 92 #[s,.int .i64 i]
 bytes:BSl (fun b=>b≠r) w s D
 le:i<=D.length
 small:D.length<=1099511627776
 eof:∃ v,xbC v/\w.cell? ⟨0,0,none⟩=some v
 ne:r≠0
namespace Buf
variable {M:Nat->Prop} {w w':World} {r:Nat} {s:Value} {D:List UInt8} {i:Nat}
theorem keep (h:Buf w r s D i) (hk:Kept M w w') (hM:∀ b,b < w.heap.size->¬ M b):Buf w' r s D i:=by
 obtain ⟨v,hv,hc⟩:=h.eof;exact ⟨h.blk.kept hk (hM r h.blk.lt),h.bytes.keep hk (fun b hb _=>hM b hb),h.le,h.small,⟨v,hv,hk.cell hc (hM _ (World.block_lt_of_cell? w _ hc))⟩,h.ne⟩
theorem nope (h:Buf w r s D i) (hk:Kept Nope w w'):Buf w' r s D i:=h.keep hk fun _ _ h=>h
theorem drewN (h:Buf w r s D i) (n:Nat):Buf (w.drewN n) r s D i:=h.nope ((kR _ w).drewN n)
theorem move (h:Buf w r s D i) {j:Nat} (hj:j<=D.length):Buf (w.setCell ⟨r,1,none⟩ (.int .i64 j)) r s D j:=by
 obtain ⟨v,hv,hc⟩:=h.eof;have hk:Kept (Only r) w (w.setCell ⟨r,1,none⟩ (.int .i64 j)):=(kR (Only r) w).set1 1 _;exact ⟨by have:=h.blk.set_ 1 (.int .i64 j);simpa using this,h.bytes.keep hk (fun b _ hb he=>hb he),hj,h.small,⟨v,hv,hk.cell hc (fun e=>h.ne e.symm)⟩,h.ne⟩
theorem lt (h:Buf w r s D i):r < w.heap.size:=h.blk.lt
end Buf
structure At_ (w w':World) (r:Nat) (s:Value) (D:List UInt8) (j:Nat):Prop where
 buf:Buf w' r s D j
 kept:Kept (Only r) w w'
namespace At_
variable {w w' w'':World} {r:Nat} {s:Value} {D:List UInt8} {j k:Nat}
theorem refl (h:Buf w r s D j):At_ w w r s D j:=⟨h,kR _ _⟩
theorem trans (h:At_ w w' r s D j) (k':At_ w' w'' r s D k):At_ w w'' r s D k:=⟨k'.buf,h.kept.trans' k'.kept⟩
theorem drewN (h:At_ w w' r s D j) (n:Nat):At_ w (w'.drewN n) r s D j:=⟨h.buf.drewN n,h.kept.drewN n⟩
theorem nope (h:At_ w w' r s D j) (k':Kept Nope w' w''):At_ w w'' r s D j:=⟨h.buf.nope k',h.kept.trans' k'.nope⟩
end At_
section
variable (r:Nat) (s:Value) (D:List UInt8) (i:Nat) (w:World)
theorem xfT (n:Int) (h:Buf w r s D i) (h0:0<=n) (h1:n<=4611686018427387904) :
  Calls prog 129 #[.pointer (some ⟨r,0,none⟩),.int .i64 n] w fun e w'=>e = .returned (.bool (decide ((D.length:Int) < i+n)))/\Drew w w':=by
 have hsm:=h.small;have hle:=h.le;have c1:w.cell? ⟨r,1,none⟩=some (.int .i64 i):=h.blk.cell 1;obtain ⟨a,c,rfl,hc,hm,hb⟩:=h.bytes;have c0:w.cell? ⟨r,0,none⟩=some (.slice a D.length c):=h.blk.cell 0;clear h hb;have hs:IntKind.i64.wrap (i+n)=i+n:=IntWalk.i64_in _ (by omega);go_enter func129,ntmps129;go_wp2;go_quiet (fail);go_wp2;go_ret;exact ⟨rfl,_,rfl⟩
theorem xch (n:Int) (h:Buf w r s D i) (h0:0<=n) (h1:n<=4611686018427387904) (hlt:(D.length:Int) < i+n) :
  Calls prog 129 #[.pointer (some ⟨r,0,none⟩),.int .i64 n] w fun e w'=>e = .returned (.bool true)/\Drew w w' :=
 (xfT r s D i w n h h0 h1).mono fun e w' ⟨he,hk⟩=>⟨by rw [he,decide_eq_true hlt],hk⟩
theorem xcd (n:Int) (h:Buf w r s D i) (h0:0<=n) (h1:n<=4611686018427387904) (hlt:i+n<=(D.length:Int)) :
  Calls prog 129 #[.pointer (some ⟨r,0,none⟩),.int .i64 n] w fun e w'=>e = .returned (.bool false)/\Drew w w' :=
 (xfT r s D i w n h h0 h1).mono fun e w' ⟨he,hk⟩=>⟨by rw [he,decide_eq_false (by omega)],hk⟩
theorem xaY (h:Buf w r s D i) :
  Calls prog 105 #[.pointer (some ⟨r,0,none⟩)] w fun e w'=>e = .returned (.int .i64 ((D.length:Int) - i))/\Drew w w':=by
 have hsm:=h.small;have hle:=h.le;have c1:w.cell? ⟨r,1,none⟩=some (.int .i64 i):=h.blk.cell 1;obtain ⟨a,c,rfl,hc,hm,hb⟩:=h.bytes;have c0:w.cell? ⟨r,0,none⟩=some (.slice a D.length c):=h.blk.cell 0;clear h hb;have hs:IntKind.i64.wrap ((D.length:Int) - i)=(D.length:Int) - i:=IntWalk.i64_in _ (by omega);go_enter func105,ntmps105;go_wp2;go_quiet (fail);go_wp2;go_ret;exact ⟨rfl,_,rfl⟩
theorem xbJ (h:Buf w r s D i) :
  Calls prog 34 #[.pointer (some ⟨r,0,none⟩)] w (Gives fun v w'=>BSl (fun b=>b≠r) w v (D.drop i)/\Drew w w'):=by
 have hle:=h.le;have c1:w.cell? ⟨r,1,none⟩=some (.int .i64 i):=h.blk.cell 1;have hB:=h.bytes;obtain ⟨a,c,rfl,hc,hm,hb⟩:=h.bytes;have c0:w.cell? ⟨r,0,none⟩=some (.slice a D.length c):=h.blk.cell 0;have hcut:=hB.from_ hle;clear h hb hB
 by_cases hci:c=i
 ·subst hci;rw [if_pos rfl] at hcut;have H:=hid hcut;clear hcut;go_enter func34,ntmps34;go_wp2;go_quiet (fail);go_wp2;go_ret;have hz:D.length - c=0:=by omega
  exact ⟨_,rfl,by simpa [hz] using H.out,_,rfl⟩
 ·rw [if_neg hci] at hcut;have H:=hid hcut;clear hcut;go_enter func34,ntmps34;go_wp2;go_quiet (fail);go_wp2;go_ret;exact ⟨_,rfl,H.out,_,rfl⟩
theorem xcP (n:Nat) (h:Buf w r s D i) (hn:i+n<=D.length) :
  Calls prog 161 #[.pointer (some ⟨r,0,none⟩),.int .i64 n] w (xac fun v b w'=>b = .bool true/\BSl (fun b=>b≠r) w' v ((D.drop i).take n)/\At_ w w' r s D (i+n)):=by
 have hsm:=h.small;have hB:=h.bytes;have hck:=xcd r s D i w n h (by omega) (by omega) (by omega);have c1:w.cell? ⟨r,1,none⟩=some (.int .i64 i):=h.blk.cell 1;have f1:w.frozen? ⟨r,1,none⟩=false:=h.blk.frozen 1;obtain ⟨a,c,rfl,hc,hm,hb⟩:=h.bytes;have c0:w.cell? ⟨r,0,none⟩=some (.slice a D.length c):=h.blk.cell 0;have hcut:=hB.cut (l:=i) (h:=i+n) (by omega) hn;rw [show i+n - i=n by omega] at hcut;have HB:=hid h;have HC:=hid hck;clear hb hB h hck;unfold maxLen at hm;have hs:IntKind.i64.wrap ((i:Int)+n)=(i:Int)+n:=IntWalk.i64_in _ (by omega);have hs':((i:Int)+n).toNat=i+n:=by omega
 have hs'':((i:Int)+n).toNat - i=n:=by omega
 have hkk:∀ q,Kept (Only r) w ((w.drewN q).setCell ⟨r,1,none⟩ (.int .i64 (↑i + ↑n))):=fun q=>((kR (Only r) w).drewN _).set1 1 _
 have HK:=hid hkk;clear hkk
 by_cases hci:c=i
 ·subst hci;rw [if_pos rfl] at hcut;have H:=hid hcut;clear hcut;go_enter func161,ntmps161;go_wp2_with (go_at_call 129;refine HC.out.mono ?_;rintro e w' ⟨rfl,k,rfl⟩);go_quiet (fail);go_wp2;go_ret2;refine ⟨_,_,rfl,rfl,?_,(HB.out.drewN _).move hn,HK.out _⟩
  simpa using H.out.keep (HK.out (k+nq)) (fun b _ hb he=>hb he)
 ·rw [if_neg hci] at hcut;have H:=hid hcut;clear hcut;go_enter func161,ntmps161;go_wp2_with (go_at_call 129;refine HC.out.mono ?_;rintro e w' ⟨rfl,k,rfl⟩);go_quiet (fail);go_wp2;go_ret2;refine ⟨_,_,rfl,rfl,?_,(HB.out.drewN _).move hn,HK.out _⟩;exact H.out.keep (HK.out (k+nq)) (fun b _ hb he=>hb he)
theorem xax (x:UInt8) (h:Buf w r s D i) (hx:D[i]? = some x) :
  Calls prog 54 #[.pointer (some ⟨r,0,none⟩)] w fun e w'=>e = .returned (.tuple #[.int .u8 x.toNat,.nilIface])/\At_ w w' r s D (i+1):=by
 have hlt:i < D.length:=(gi.1 hx).1;have hsm:=h.small;have hck:=xcd r s D i w 1 h (by omega) (by omega) (by omega);have c1:w.cell? ⟨r,1,none⟩=some (.int .i64 i):=h.blk.cell 1;have f1:w.frozen? ⟨r,1,none⟩=false:=h.blk.frozen 1;obtain ⟨b,off,c,rfl,hS,hc,hm,cb⟩:=h.bytes.at_ hx;have c0:w.cell? ⟨r,0,none⟩=some (.slice (some ⟨b,off,none⟩) D.length c):=h.blk.cell 0;have HB:=hid h;have HC:=hid hck;clear h hck hx;have hs:IntKind.i64.wrap ((i:Int)+1)=(i:Int)+1:=IntWalk.i64_in _ (by omega);have hlt':(i:Int) < (D.length:Int):=by omega
 unfold u8 at cb;go_enter func54,ntmps54;go_wp2_with (go_at_call 129;refine HC.out.mono ?_;rintro e w' ⟨rfl,k,rfl⟩);go_quiet (fail);go_wp2;go_ret2;exact ⟨rfl,(HB.out.drewN _).move (show i+1<=D.length from hlt),((kR (Only r) w).drewN _).set1 1 _⟩
theorem xmj (x:UInt8) (h:Buf w r s D i) (hx:D[i]? = some x) :
  Calls prog 166 #[.pointer (some ⟨r,0,none⟩)] w fun e w'=>e = .returned (.tuple #[.int .u8 x.toNat,.nilIface])/\Drew w w':=by
 have hlt:i < D.length:=(gi.1 hx).1;have hsm:=h.small;have hck:=xcd r s D i w 1 h (by omega) (by omega) (by omega);have c1:w.cell? ⟨r,1,none⟩=some (.int .i64 i):=h.blk.cell 1;obtain ⟨b,off,c,rfl,hS,hc,hm,cb⟩:=h.bytes.at_ hx;have c0:w.cell? ⟨r,0,none⟩=some (.slice (some ⟨b,off,none⟩) D.length c):=h.blk.cell 0;have HC:=hid hck;clear h hck hx;have hlt':(i:Int) < (D.length:Int):=by omega
 unfold u8 at cb;go_enter func166,ntmps166;go_wp2_with (go_at_call 129;refine HC.out.mono ?_;rintro e w' ⟨rfl,k,rfl⟩);go_quiet (fail);go_wp2;go_ret2;exact ⟨rfl,_,World.drewN_drewN _ _ _⟩
theorem Skip_any (n:Nat) (h:Buf w r s D i) (hn:i+n<=D.length) :
  Calls prog 165 #[.pointer (some ⟨r,0,none⟩),.int .i64 n] w fun e w'=>e = .returned (.tuple #[])/\At_ w w' r s D (i+n):=by
 have hsm:=h.small;have c1:w.cell? ⟨r,1,none⟩=some (.int .i64 i):=h.blk.cell 1;have f1:w.frozen? ⟨r,1,none⟩=false:=h.blk.frozen 1;have HB:=hid h;clear h;have hs:IntKind.i64.wrap ((i:Int)+n)=(i:Int)+n:=IntWalk.i64_in _ (by omega);go_enter func165,ntmps165;go_wp2
 go_end0
 exact ⟨rfl,HB.out.move hn,(kR (Only r) w).set1 1 _⟩
end
end
section
section
variable (r:Nat) (s:Value) (D:List UInt8) (i:Nat) (w:World)
theorem xfr (x0 x1:UInt8) (h:Buf w r s D i) (h0:D[i]? = some x0) (h1:D[i+1]? = some x1) :
  Calls prog 175 #[.pointer (some ⟨r,0,none⟩)] w fun e w'=>e = .returned (.tuple #[.int .u16 (Lib.beNat [x0,x1]),.nilIface])/\At_ w w' r s D (i+2):=by
 have hlt:i+1 < D.length:=(gi.1 h1).1;have hsm:=h.small;have hck:=xcd r s D i w 2 h (by omega) (by omega) (by omega);have c1:w.cell? ⟨r,1,none⟩=some (.int .i64 i):=h.blk.cell 1;obtain ⟨b,off,c,rfl,hS,hc,hm,cb0⟩:=h.bytes.at_ h0
 have cb1:w.cell? ⟨b,off+i+1,none⟩=some (.int .u8 x1.toNat):=by
  obtain ⟨b',off',c',e',_,_,_,q⟩:=h.bytes.at_ h1;injection e' with e1 e2 e3
  injection e1 with e1
  injection e1 with e1 e4
  subst e1 e4;rw [Nat.add_assoc];exact q
 have c0:w.cell? ⟨r,0,none⟩=some (.slice (some ⟨b,off,none⟩) D.length c):=h.blk.cell 0;have HB:=hid h;have HC:=hid hck;have hbe:=fun W=>Tryz.binary_BE_Uint16 b (off+i) (D.length - i) (c - i) x0 x1 W (by omega)
 have HBE:=hid hbe;clear h hck h0 h1 hbe;have hs:IntKind.i64.wrap ((i:Int)+2)=(i:Int)+2:=IntWalk.i64_in _ (by omega);have hci:¬ c=i:=by omega
 have hle':(i:Int)<=(D.length:Int):=by omega
 have hcc:(i:Int)+2<=(c:Int):=by omega
 have hii:(i:Int)<=(i:Int)+2:=by omega
 have ht:((i:Int)+2).toNat=i+2:=by omega
 have ht':((i:Int)+2).toNat - i=2:=by omega
 unfold u8 at cb0;go_enter func175,ntmps175;go_wp2_with (go_at_call 129;refine HC.out.mono ?_;rintro e w' ⟨rfl,k,rfl⟩);refine wp_region_tail 10 (by kernel_rfl) (by kernel_rfl) (fun K hK => ?_);simp only [List.take_succ_cons,List.take_zero,List.drop_succ_cons,List.drop_zero,World.drew_drewN] at hK ⊢
 repeat still_step
 refine wpStill_nil (hK _ ?_);clear hK K;go_wp2_with (go_at_call 184;go_must (refine (HBE.out _ (by exact cb0) (by exact cb1)).mono ?_;rintro e w1 ⟨rfl,hb1⟩;have hk1:Kept Nope w w1:=((kR Nope w).drewN (k+1)).trans' (Kept.below hb1 rfl);have hB1:=HB.out.nope hk1;have HB1:=hid hB1;have HK1:=hid hk1;have c1':w1.cell? ⟨r,1,none⟩=some (.int .i64 i):=hB1.blk.cell 1;have f1':w1.frozen? ⟨r,1,none⟩=false:=hB1.blk.frozen 1;clear hb1 hk1 hB1));go_ret2;exact ⟨rfl,HB1.out.move (show i+2<=D.length from hlt),(HK1.out.nope).set1 1 _⟩
theorem xdR (x0 x1 x2 x3:UInt8) (h:Buf w r s D i) (h0:D[i]? = some x0) (h1:D[i+1]? = some x1) (h2:D[i+2]? = some x2) (h3:D[i+3]? = some x3) :
  Calls prog 176 #[.pointer (some ⟨r,0,none⟩)] w fun e w'=>e = .returned (.tuple #[.int .u32 (Lib.beNat [x0,x1,x2,x3]),.nilIface])/\At_ w w' r s D (i+4):=by
 have hlt:i+3 < D.length:=(gi.1 h3).1;have hsm:=h.small;have hck:=xcd r s D i w 4 h (by omega) (by omega) (by omega);have c1:w.cell? ⟨r,1,none⟩=some (.int .i64 i):=h.blk.cell 1;obtain ⟨b,off,c,rfl,hS,hc,hm,cb0⟩:=h.bytes.at_ h0
 have cb1:w.cell? ⟨b,off+i+1,none⟩=some (.int .u8 x1.toNat):=by
  obtain ⟨b',off',c',e',_,_,_,q⟩:=h.bytes.at_ h1;injection e' with e1 e2 e3
  injection e1 with e1
  injection e1 with e1 e4
  subst e1 e4;rw [Nat.add_assoc];exact q
 have cb2:w.cell? ⟨b,off+i+2,none⟩=some (.int .u8 x2.toNat):=by
  obtain ⟨b',off',c',e',_,_,_,q⟩:=h.bytes.at_ h2;injection e' with e1 e2 e3
  injection e1 with e1
  injection e1 with e1 e4
  subst e1 e4;rw [Nat.add_assoc];exact q
 have cb3:w.cell? ⟨b,off+i+3,none⟩=some (.int .u8 x3.toNat):=by
  obtain ⟨b',off',c',e',_,_,_,q⟩:=h.bytes.at_ h3;injection e' with e1 e2 e3
  injection e1 with e1
  injection e1 with e1 e4
  subst e1 e4;rw [Nat.add_assoc];exact q
 have c0:w.cell? ⟨r,0,none⟩=some (.slice (some ⟨b,off,none⟩) D.length c):=h.blk.cell 0;have HB:=hid h;have HC:=hid hck;have hbe:=fun W=>Tryz.binary_BE_Uint32 b (off+i) (D.length - i) (c - i) x0 x1 x2 x3 W (by omega)
 have HBE:=hid hbe;clear h hck h0 h1 h2 h3 hbe;have hs:IntKind.i64.wrap ((i:Int)+4)=(i:Int)+4:=IntWalk.i64_in _ (by omega);have hci:¬ c=i:=by omega
 have hle':(i:Int)<=(D.length:Int):=by omega
 have hcc:(i:Int)+4<=(c:Int):=by omega
 have hii:(i:Int)<=(i:Int)+4:=by omega
 have ht:((i:Int)+4).toNat=i+4:=by omega
 have ht':((i:Int)+4).toNat - i=4:=by omega
 unfold u8 at cb0;go_enter func176,ntmps176;go_wp2_with (go_at_call 129;refine HC.out.mono ?_;rintro e w' ⟨rfl,k,rfl⟩);refine wp_region_tail 10 (by kernel_rfl) (by kernel_rfl) (fun K hK => ?_);simp only [List.take_succ_cons,List.take_zero,List.drop_succ_cons,List.drop_zero,World.drew_drewN] at hK ⊢
 repeat still_step
 refine wpStill_nil (hK _ ?_);clear hK K;go_wp2_with (go_at_call 162;go_must (refine (HBE.out _ (by exact cb0) (by exact cb1) (by exact cb2) (by exact cb3)).mono ?_;rintro e w1 ⟨rfl,hb1⟩;have hk1:Kept Nope w w1:=((kR Nope w).drewN (k+1)).trans' (Kept.below hb1 rfl);have hB1:=HB.out.nope hk1;have HB1:=hid hB1;have HK1:=hid hk1;have c1':w1.cell? ⟨r,1,none⟩=some (.int .i64 i):=hB1.blk.cell 1;have f1':w1.frozen? ⟨r,1,none⟩=false:=hB1.blk.frozen 1;clear hb1 hk1 hB1));go_ret2;exact ⟨rfl,HB1.out.move (show i+4<=D.length from hlt),(HK1.out.nope).set1 1 _⟩
theorem xcN (x0 x1 x2 x3 x4 x5 x6 x7:UInt8) (h:Buf w r s D i) (h0:D[i]? = some x0) (h1:D[i+1]? = some x1) (h2:D[i+2]? = some x2) (h3:D[i+3]? = some x3) (h4:D[i+4]? = some x4) (h5:D[i+5]? = some x5) (h6:D[i+6]? = some x6) (h7:D[i+7]? = some x7) :
  Calls prog 177 #[.pointer (some ⟨r,0,none⟩)] w fun e w'=>e = .returned (.tuple #[.int .u64 (Lib.beNat [x0,x1,x2,x3,x4,x5,x6,x7]),.nilIface])/\At_ w w' r s D (i+8):=by
 have hlt:i+7 < D.length:=(gi.1 h7).1;have hsm:=h.small;have hck:=xcd r s D i w 8 h (by omega) (by omega) (by omega);have c1:w.cell? ⟨r,1,none⟩=some (.int .i64 i):=h.blk.cell 1;obtain ⟨b,off,c,rfl,hS,hc,hm,cb0⟩:=h.bytes.at_ h0
 have cb1:w.cell? ⟨b,off+i+1,none⟩=some (.int .u8 x1.toNat):=by
  obtain ⟨b',off',c',e',_,_,_,q⟩:=h.bytes.at_ h1;injection e' with e1 e2 e3
  injection e1 with e1
  injection e1 with e1 e4
  subst e1 e4;rw [Nat.add_assoc];exact q
 have cb2:w.cell? ⟨b,off+i+2,none⟩=some (.int .u8 x2.toNat):=by
  obtain ⟨b',off',c',e',_,_,_,q⟩:=h.bytes.at_ h2;injection e' with e1 e2 e3
  injection e1 with e1
  injection e1 with e1 e4
  subst e1 e4;rw [Nat.add_assoc];exact q
 have cb3:w.cell? ⟨b,off+i+3,none⟩=some (.int .u8 x3.toNat):=by
  obtain ⟨b',off',c',e',_,_,_,q⟩:=h.bytes.at_ h3;injection e' with e1 e2 e3
  injection e1 with e1
  injection e1 with e1 e4
  subst e1 e4;rw [Nat.add_assoc];exact q
 have cb4:w.cell? ⟨b,off+i+4,none⟩=some (.int .u8 x4.toNat):=by
  obtain ⟨b',off',c',e',_,_,_,q⟩:=h.bytes.at_ h4;injection e' with e1 e2 e3
  injection e1 with e1
  injection e1 with e1 e4
  subst e1 e4;rw [Nat.add_assoc];exact q
 have cb5:w.cell? ⟨b,off+i+5,none⟩=some (.int .u8 x5.toNat):=by
  obtain ⟨b',off',c',e',_,_,_,q⟩:=h.bytes.at_ h5;injection e' with e1 e2 e3
  injection e1 with e1
  injection e1 with e1 e4
  subst e1 e4;rw [Nat.add_assoc];exact q
 have cb6:w.cell? ⟨b,off+i+6,none⟩=some (.int .u8 x6.toNat):=by
  obtain ⟨b',off',c',e',_,_,_,q⟩:=h.bytes.at_ h6;injection e' with e1 e2 e3
  injection e1 with e1
  injection e1 with e1 e4
  subst e1 e4;rw [Nat.add_assoc];exact q
 have cb7:w.cell? ⟨b,off+i+7,none⟩=some (.int .u8 x7.toNat):=by
  obtain ⟨b',off',c',e',_,_,_,q⟩:=h.bytes.at_ h7;injection e' with e1 e2 e3
  injection e1 with e1
  injection e1 with e1 e4
  subst e1 e4;rw [Nat.add_assoc];exact q
 have c0:w.cell? ⟨r,0,none⟩=some (.slice (some ⟨b,off,none⟩) D.length c):=h.blk.cell 0;have HB:=hid h;have HC:=hid hck;have hbe:=fun W=>Tryz.binary_BE_Uint64 b (off+i) 8 (c - i) x0 x1 x2 x3 x4 x5 x6 x7 W (by omega)
 have HBE:=hid hbe;clear h hck h0 h1 h2 h3 h4 h5 h6 h7 hbe;have hs:IntKind.i64.wrap ((i:Int)+8)=(i:Int)+8:=IntWalk.i64_in _ (by omega);have hci:¬ c=i:=by omega
 have hle':(i:Int)<=(D.length:Int):=by omega
 have hcc:(i:Int)+8<=(c:Int):=by omega
 have hii:(i:Int)<=(i:Int)+8:=by omega
 have ht:((i:Int)+8).toNat=i+8:=by omega
 have ht':((i:Int)+8).toNat - i=8:=by omega
 unfold u8 at cb0;go_enter func177,ntmps177;go_wp2_with (go_at_call 129;refine HC.out.mono ?_;rintro e w' ⟨rfl,k,rfl⟩);refine wp_region_tail 15 (by kernel_rfl) (by kernel_rfl) (fun K hK => ?_);simp only [List.take_succ_cons,List.take_zero,List.drop_succ_cons,List.drop_zero,World.drew_drewN] at hK ⊢
 repeat still_step
 refine wpStill_nil (hK _ ?_);clear hK K;go_wp2_with (go_at_call 167;go_must (refine (HBE.out _ (by exact cb0) (by exact cb1) (by exact cb2) (by exact cb3) (by exact cb4) (by exact cb5) (by exact cb6) (by exact cb7)).mono ?_;rintro e w1 ⟨rfl,hb1⟩;have hk1:Kept Nope w w1:=((kR Nope w).drewN (k+1)).trans' (Kept.below hb1 rfl);have hB1:=HB.out.nope hk1;have HB1:=hid hB1;have HK1:=hid hk1;have c1':w1.cell? ⟨r,1,none⟩=some (.int .i64 i):=hB1.blk.cell 1;have f1':w1.frozen? ⟨r,1,none⟩=false:=hB1.blk.frozen 1;clear hb1 hk1 hB1));go_ret2;exact ⟨rfl,HB1.out.move (show i+8<=D.length from hlt),(HK1.out.nope).set1 1 _⟩
theorem xaa (x:UInt8) (h:Buf w r s D i) (hx:D[i]? = some x) :
  Calls prog 160 #[.pointer (some ⟨r,0,none⟩)] w fun e w'=>e = .returned (.tuple #[.int .u8 x.toNat,.nilIface])/\At_ w w' r s D (i+1):=by
 have hc:=xax r s D i w x h hx;have HC:=hid hc;clear hc h hx;go_enter func160,ntmps160;go_wp2_with (go_at_call 54;refine HC.out.mono ?_;rintro e w' ⟨rfl,hq⟩;have HQ:=hid hq;clear hq);go_ret2;exact ⟨rfl,HQ.out⟩
theorem xap (x:UInt8) (h:Buf w r s D i) (hx:D[i]? = some x) :
  Calls prog 110 #[.pointer (some ⟨r,0,none⟩)] w fun e w'=>e = .returned (.tuple #[.int .u8 x.toNat,.nilIface])/\Drew w w':=by
 have hc:=xmj r s D i w x h hx;have HC:=hid hc;clear hc h hx;go_enter func110,ntmps110;go_wp2_with (go_at_call 166;refine HC.out.mono ?_;rintro e w' ⟨rfl,hq⟩;have HQ:=hid hq;clear hq);go_ret2;exact ⟨rfl,HQ.out⟩
end
end
section
def sg (n:Nat) (x:Nat):Int:=if 2*x < 2 ^ n then x else (x:Int) - 2 ^ n
theorem i8_sg (x:Nat) (h:x < 256):IntKind.i8.wrap (x:Int)=sg 8 x:=by unfold sg;split <;> (simp [IntKind.wrap,IntKind.bits,IntKind.signed];omega)
theorem i16_sg (x:Nat) (h:x < 65536):IntKind.i16.wrap (x:Int)=sg 16 x:=by unfold sg;split <;> (simp [IntKind.wrap,IntKind.bits,IntKind.signed];omega)
theorem w32_sg (x:Nat) (h:x < 4294967296):wrap32 (x:Int)=sg 32 x:=by unfold wrap32 sg;split <;> omega
theorem xoa (x:Nat) (h:x < 18446744073709551616):wrap64 (x:Int)=sg 64 x:=by unfold wrap64 sg;split <;> omega
theorem w32_i8 (x:Nat) (h:x < 256):wrap32 (IntKind.i8.wrap (x:Int))=sg 8 x:=by rw [i8_sg x h];unfold wrap32 sg;split <;> omega
theorem w64_i8 (x:Nat) (h:x < 256):wrap64 (IntKind.i8.wrap (x:Int))=sg 8 x:=by rw [i8_sg x h];unfold wrap64 sg;split <;> omega
theorem xlB (a b:UInt8):Lib.beNat [a,b] < 65536:=by have:=a.toNat_lt;have:=b.toNat_lt;simp only [Lib.beNat,Lib.beFrom];omega
theorem xba (a b c d:UInt8):Lib.beNat [a,b,c,d] < 4294967296:=by have:=a.toNat_lt;have:=b.toNat_lt;have:=c.toNat_lt;have:=d.toNat_lt;simp only [Lib.beNat,Lib.beFrom];omega
theorem xeF (a b c d e f g h:UInt8):Lib.beNat [a,b,c,d,e,f,g,h] < 18446744073709551616:=by
 have:=a.toNat_lt;have:=b.toNat_lt;have:=c.toNat_lt;have:=d.toNat_lt;have:=e.toNat_lt;have:=f.toNat_lt;have:=g.toNat_lt;have:=h.toNat_lt;simp only [Lib.beNat,Lib.beFrom];omega
theorem xdv (n:Nat) (w:World):(callFunc 178 #[.int .u32 n]).run prog w = .ok (.value (.float .f32 n)) w :=
 (run_callFunc_extern (e:=Extern.MathFloatBits.float32frombits) func178 (by kernel_rfl) (by kernel_rfl) (by kernel_rfl) (by kernel_rfl) #[.int .u32 n] w).trans rfl
theorem xdu (n:Nat) (w:World):(callFunc 179 #[.int .u64 n]).run prog w = .ok (.value (.float .f64 n)) w :=
 (run_callFunc_extern (e:=Extern.MathFloatBits.float64frombits) func179 (by kernel_rfl) (by kernel_rfl) (by kernel_rfl) (by kernel_rfl) #[.int .u64 n] w).trans rfl
theorem xbP {a b y:Value} (h:a=b):Ending.returned (.tuple #[a,y]) = .returned (.tuple #[b,y]):=by rw [h]
section
variable (r:Nat) (s:Value) (D:List UInt8) (i:Nat) (w:World)
theorem xjJ (h:Buf w r s D i) (hc:D[i]? = some 67)  :
  Calls prog 115 #[.pointer (some ⟨r,0,none⟩)] w fun e w'=>e = .returned (.tuple #[.int .u32 0,.nilIface])/\At_ w w' r s D (i+1):=by
 have ht:Calls prog 160 #[.pointer (some ⟨r,0,none⟩)] w fun e w'=>e = .returned (.tuple #[.int .u8 67,.nilIface])/\At_ w w' r s D (i+1):=xaa r s D i w 67 h hc
 have HT:=hid ht;clear ht h hc;go_enter func115,ntmps115;go_wp2_with ((go_at_call 160;go_must (refine HT.out.mono ?_;rintro e w1 ⟨rfl,hA1⟩;have H1:=hid hA1;clear hA1)));go_ret2;exact ⟨xbP (by rfl),H1.out⟩
theorem xjI (x0:UInt8) (h:Buf w r s D i) (hc:D[i]? = some 82) (h0:D[i+1]? = some x0) :
  Calls prog 115 #[.pointer (some ⟨r,0,none⟩)] w fun e w'=>e = .returned (.tuple #[.int .u32 x0.toNat,.nilIface])/\At_ w w' r s D (i+2):=by
 have ht:Calls prog 160 #[.pointer (some ⟨r,0,none⟩)] w fun e w'=>e = .returned (.tuple #[.int .u8 82,.nilIface])/\At_ w w' r s D (i+1):=xaa r s D i w 82 h hc
 have HT:=hid ht;have HX:=hid (aI h0 (trivial));clear ht h hc h0;go_enter func115,ntmps115;go_wp2_with (first | (go_at_call 160;go_must (refine HT.out.mono ?_;rintro e w1 ⟨rfl,hA1⟩;have H1:=hid hA1;clear hA1)) | (go_at_call 54;go_must (refine (xax r s D (i+1) _ x0 H1.out.buf (by exact HX.out.1)).mono ?_;rintro e w2 ⟨rfl,hA2⟩;have H2:=hid (H1.out.trans hA2);clear hA2)));go_ret2;exact ⟨xbP (by exact congrArg (Value.int .u32) (show (x0.toNat:Int) % 4294967296=x0.toNat from by have:=x0.toNat_lt;omega)),H2.out⟩
theorem xjH (x0 x1 x2 x3:UInt8) (h:Buf w r s D i) (hc:D[i]? = some 112) (h0:D[i+1]? = some x0) (h1:D[i+2]? = some x1) (h2:D[i+3]? = some x2) (h3:D[i+4]? = some x3) :
  Calls prog 115 #[.pointer (some ⟨r,0,none⟩)] w fun e w'=>e = .returned (.tuple #[.int .u32 (Lib.beNat [x0,x1,x2,x3]),.nilIface])/\At_ w w' r s D (i+5):=by
 have ht:Calls prog 160 #[.pointer (some ⟨r,0,none⟩)] w fun e w'=>e = .returned (.tuple #[.int .u8 112,.nilIface])/\At_ w w' r s D (i+1):=xaa r s D i w 112 h hc
 have HT:=hid ht;have HX:=hid (aI h0 (aI h1 (aI h2 (aI h3 (trivial)))));clear ht h hc h0 h1 h2 h3;go_enter func115,ntmps115;go_wp2_with (first | (go_at_call 160;go_must (refine HT.out.mono ?_;rintro e w1 ⟨rfl,hA1⟩;have H1:=hid hA1;clear hA1)) | (go_at_call 176;go_must (refine (xdR r s D (i+1) _ x0 x1 x2 x3 H1.out.buf (by exact HX.out.1) (by exact HX.out.2.1) (by exact HX.out.2.2.1) (by exact HX.out.2.2.2.1)).mono ?_;rintro e w2 ⟨rfl,hA2⟩;have H2:=hid (H1.out.trans hA2);clear hA2)));go_ret2;exact ⟨xbP (by rfl),H2.out⟩
theorem xkN (h:Buf w r s D i) (hc:D[i]? = some 68)  :
  Calls prog 116 #[.pointer (some ⟨r,0,none⟩)] w fun e w'=>e = .returned (.tuple #[.int .u64 0,.nilIface])/\At_ w w' r s D (i+1):=by
 have ht:Calls prog 160 #[.pointer (some ⟨r,0,none⟩)] w fun e w'=>e = .returned (.tuple #[.int .u8 68,.nilIface])/\At_ w w' r s D (i+1):=xaa r s D i w 68 h hc
 have HT:=hid ht;clear ht h hc;go_enter func116,ntmps116;go_wp2_with ((go_at_call 160;go_must (refine HT.out.mono ?_;rintro e w1 ⟨rfl,hA1⟩;have H1:=hid hA1;clear hA1)));go_ret2;exact ⟨xbP (by rfl),H1.out⟩
theorem xkM (x0:UInt8) (h:Buf w r s D i) (hc:D[i]? = some 83) (h0:D[i+1]? = some x0) :
  Calls prog 116 #[.pointer (some ⟨r,0,none⟩)] w fun e w'=>e = .returned (.tuple #[.int .u64 x0.toNat,.nilIface])/\At_ w w' r s D (i+2):=by
 have ht:Calls prog 160 #[.pointer (some ⟨r,0,none⟩)] w fun e w'=>e = .returned (.tuple #[.int .u8 83,.nilIface])/\At_ w w' r s D (i+1):=xaa r s D i w 83 h hc
 have HT:=hid ht;have HX:=hid (aI h0 (trivial));clear ht h hc h0;go_enter func116,ntmps116;go_wp2_with (first | (go_at_call 160;go_must (refine HT.out.mono ?_;rintro e w1 ⟨rfl,hA1⟩;have H1:=hid hA1;clear hA1)) | (go_at_call 54;go_must (refine (xax r s D (i+1) _ x0 H1.out.buf (by exact HX.out.1)).mono ?_;rintro e w2 ⟨rfl,hA2⟩;have H2:=hid (H1.out.trans hA2);clear hA2)));go_ret2;exact ⟨xbP (by exact congrArg (Value.int .u64) (show (x0.toNat:Int) % 18446744073709551616=x0.toNat from by have:=x0.toNat_lt;omega)),H2.out⟩
theorem xkL (x0 x1 x2 x3 x4 x5 x6 x7:UInt8) (h:Buf w r s D i) (hc:D[i]? = some 128) (h0:D[i+1]? = some x0) (h1:D[i+2]? = some x1) (h2:D[i+3]? = some x2) (h3:D[i+4]? = some x3) (h4:D[i+5]? = some x4) (h5:D[i+6]? = some x5) (h6:D[i+7]? = some x6) (h7:D[i+8]? = some x7) :
  Calls prog 116 #[.pointer (some ⟨r,0,none⟩)] w fun e w'=>e = .returned (.tuple #[.int .u64 (Lib.beNat [x0,x1,x2,x3,x4,x5,x6,x7]),.nilIface])/\At_ w w' r s D (i+9):=by
 have ht:Calls prog 160 #[.pointer (some ⟨r,0,none⟩)] w fun e w'=>e = .returned (.tuple #[.int .u8 128,.nilIface])/\At_ w w' r s D (i+1):=xaa r s D i w 128 h hc
 have HT:=hid ht;have HX:=hid (aI h0 (aI h1 (aI h2 (aI h3 (aI h4 (aI h5 (aI h6 (aI h7 (trivial)))))))));clear ht h hc h0 h1 h2 h3 h4 h5 h6 h7;go_enter func116,ntmps116;go_wp2_with (first | (go_at_call 160;go_must (refine HT.out.mono ?_;rintro e w1 ⟨rfl,hA1⟩;have H1:=hid hA1;clear hA1)) | (go_at_call 177;go_must (refine (xcN r s D (i+1) _ x0 x1 x2 x3 x4 x5 x6 x7 H1.out.buf (by exact HX.out.1) (by exact HX.out.2.1) (by exact HX.out.2.2.1) (by exact HX.out.2.2.2.1) (by exact HX.out.2.2.2.2.1) (by exact HX.out.2.2.2.2.2.1) (by exact HX.out.2.2.2.2.2.2.1) (by exact HX.out.2.2.2.2.2.2.2.1)).mono ?_;rintro e w2 ⟨rfl,hA2⟩;have H2:=hid (H1.out.trans hA2);clear hA2)));go_ret2;exact ⟨xbP (by rfl),H2.out⟩
theorem xme (x0:UInt8) (h:Buf w r s D i) (hc:D[i]? = some 80) (h0:D[i+1]? = some x0) :
  Calls prog 113 #[.pointer (some ⟨r,0,none⟩)] w fun e w'=>e = .returned (.tuple #[.int .u8 x0.toNat,.nilIface])/\At_ w w' r s D (i+2):=by
 have ht:Calls prog 160 #[.pointer (some ⟨r,0,none⟩)] w fun e w'=>e = .returned (.tuple #[.int .u8 80,.nilIface])/\At_ w w' r s D (i+1):=xaa r s D i w 80 h hc
 have HT:=hid ht;have HX:=hid (aI h0 (trivial));clear ht h hc h0;go_enter func113,ntmps113;go_wp2_with (first | (go_at_call 160;go_must (refine HT.out.mono ?_;rintro e w1 ⟨rfl,hA1⟩;have H1:=hid hA1;clear hA1)) | (go_at_call 54;go_must (refine (xax r s D (i+1) _ x0 H1.out.buf (by exact HX.out.1)).mono ?_;rintro e w2 ⟨rfl,hA2⟩;have H2:=hid (H1.out.trans hA2);clear hA2)));go_ret2;exact ⟨xbP (by rfl),H2.out⟩
theorem xjG (x0 x1:UInt8) (h:Buf w r s D i) (hc:D[i]? = some 96) (h0:D[i+1]? = some x0) (h1:D[i+2]? = some x1) :
  Calls prog 114 #[.pointer (some ⟨r,0,none⟩)] w fun e w'=>e = .returned (.tuple #[.int .u16 (Lib.beNat [x0,x1]),.nilIface])/\At_ w w' r s D (i+3):=by
 have ht:Calls prog 160 #[.pointer (some ⟨r,0,none⟩)] w fun e w'=>e = .returned (.tuple #[.int .u8 96,.nilIface])/\At_ w w' r s D (i+1):=xaa r s D i w 96 h hc
 have HT:=hid ht;have HX:=hid (aI h0 (aI h1 (trivial)));clear ht h hc h0 h1;go_enter func114,ntmps114;go_wp2_with (first | (go_at_call 160;go_must (refine HT.out.mono ?_;rintro e w1 ⟨rfl,hA1⟩;have H1:=hid hA1;clear hA1)) | (go_at_call 175;go_must (refine (xfr r s D (i+1) _ x0 x1 H1.out.buf (by exact HX.out.1) (by exact HX.out.2.1)).mono ?_;rintro e w2 ⟨rfl,hA2⟩;have H2:=hid (H1.out.trans hA2);clear hA2)));go_ret2;exact ⟨xbP (by rfl),H2.out⟩
theorem xkP (x0:UInt8) (h:Buf w r s D i) (hc:D[i]? = some 81) (h0:D[i+1]? = some x0) :
  Calls prog 117 #[.pointer (some ⟨r,0,none⟩)] w fun e w'=>e = .returned (.tuple #[.int .i8 (sg 8 x0.toNat),.nilIface])/\At_ w w' r s D (i+2):=by
 have ht:Calls prog 160 #[.pointer (some ⟨r,0,none⟩)] w fun e w'=>e = .returned (.tuple #[.int .u8 81,.nilIface])/\At_ w w' r s D (i+1):=xaa r s D i w 81 h hc
 have HT:=hid ht;have HX:=hid (aI h0 (trivial));clear ht h hc h0;go_enter func117,ntmps117;go_wp2_with (first | (go_at_call 160;go_must (refine HT.out.mono ?_;rintro e w1 ⟨rfl,hA1⟩;have H1:=hid hA1;clear hA1)) | (go_at_call 54;go_must (refine (xax r s D (i+1) _ x0 H1.out.buf (by exact HX.out.1)).mono ?_;rintro e w2 ⟨rfl,hA2⟩;have H2:=hid (H1.out.trans hA2);clear hA2)));go_ret2;exact ⟨xbP (by exact congrArg (Value.int .i8) (i8_sg _ x0.toNat_lt)),H2.out⟩
theorem xkO (x0 x1:UInt8) (h:Buf w r s D i) (hc:D[i]? = some 97) (h0:D[i+1]? = some x0) (h1:D[i+2]? = some x1) :
  Calls prog 118 #[.pointer (some ⟨r,0,none⟩)] w fun e w'=>e = .returned (.tuple #[.int .i16 (sg 16 (Lib.beNat [x0,x1])),.nilIface])/\At_ w w' r s D (i+3):=by
 have ht:Calls prog 160 #[.pointer (some ⟨r,0,none⟩)] w fun e w'=>e = .returned (.tuple #[.int .u8 97,.nilIface])/\At_ w w' r s D (i+1):=xaa r s D i w 97 h hc
 have HT:=hid ht;have HX:=hid (aI h0 (aI h1 (trivial)));clear ht h hc h0 h1;go_enter func118,ntmps118;go_wp2_with (first | (go_at_call 160;go_must (refine HT.out.mono ?_;rintro e w1 ⟨rfl,hA1⟩;have H1:=hid hA1;clear hA1)) | (go_at_call 175;go_must (refine (xfr r s D (i+1) _ x0 x1 H1.out.buf (by exact HX.out.1) (by exact HX.out.2.1)).mono ?_;rintro e w2 ⟨rfl,hA2⟩;have H2:=hid (H1.out.trans hA2);clear hA2)));go_ret2;exact ⟨xbP (by exact congrArg (Value.int .i16) (i16_sg _ (xlB x0 x1))),H2.out⟩
theorem xkR (x0:UInt8) (h:Buf w r s D i) (hc:D[i]? = some 84) (h0:D[i+1]? = some x0) :
  Calls prog 119 #[.pointer (some ⟨r,0,none⟩)] w fun e w'=>e = .returned (.tuple #[.int .i32 (sg 8 x0.toNat),.nilIface])/\At_ w w' r s D (i+2):=by
 have ht:Calls prog 160 #[.pointer (some ⟨r,0,none⟩)] w fun e w'=>e = .returned (.tuple #[.int .u8 84,.nilIface])/\At_ w w' r s D (i+1):=xaa r s D i w 84 h hc
 have HT:=hid ht;have HX:=hid (aI h0 (trivial));clear ht h hc h0;go_enter func119,ntmps119;go_wp2_with (first | (go_at_call 160;go_must (refine HT.out.mono ?_;rintro e w1 ⟨rfl,hA1⟩;have H1:=hid hA1;clear hA1)) | (go_at_call 54;go_must (refine (xax r s D (i+1) _ x0 H1.out.buf (by exact HX.out.1)).mono ?_;rintro e w2 ⟨rfl,hA2⟩;have H2:=hid (H1.out.trans hA2);clear hA2)));go_ret2;exact ⟨xbP (by exact congrArg (Value.int .i32) (w32_i8 _ x0.toNat_lt)),H2.out⟩
theorem xkQ (x0 x1 x2 x3:UInt8) (h:Buf w r s D i) (hc:D[i]? = some 113) (h0:D[i+1]? = some x0) (h1:D[i+2]? = some x1) (h2:D[i+3]? = some x2) (h3:D[i+4]? = some x3) :
  Calls prog 119 #[.pointer (some ⟨r,0,none⟩)] w fun e w'=>e = .returned (.tuple #[.int .i32 (sg 32 (Lib.beNat [x0,x1,x2,x3])),.nilIface])/\At_ w w' r s D (i+5):=by
 have ht:Calls prog 160 #[.pointer (some ⟨r,0,none⟩)] w fun e w'=>e = .returned (.tuple #[.int .u8 113,.nilIface])/\At_ w w' r s D (i+1):=xaa r s D i w 113 h hc
 have HT:=hid ht;have HX:=hid (aI h0 (aI h1 (aI h2 (aI h3 (trivial)))));clear ht h hc h0 h1 h2 h3;go_enter func119,ntmps119;go_wp2_with (first | (go_at_call 160;go_must (refine HT.out.mono ?_;rintro e w1 ⟨rfl,hA1⟩;have H1:=hid hA1;clear hA1)) | (go_at_call 176;go_must (refine (xdR r s D (i+1) _ x0 x1 x2 x3 H1.out.buf (by exact HX.out.1) (by exact HX.out.2.1) (by exact HX.out.2.2.1) (by exact HX.out.2.2.2.1)).mono ?_;rintro e w2 ⟨rfl,hA2⟩;have H2:=hid (H1.out.trans hA2);clear hA2)));go_ret2;exact ⟨xbP (by exact congrArg (Value.int .i32) (w32_sg _ (xba x0 x1 x2 x3))),H2.out⟩
theorem xmO (x0:UInt8) (h:Buf w r s D i) (hc:D[i]? = some 85) (h0:D[i+1]? = some x0) :
  Calls prog 120 #[.pointer (some ⟨r,0,none⟩)] w fun e w'=>e = .returned (.tuple #[.int .i64 (sg 8 x0.toNat),.nilIface])/\At_ w w' r s D (i+2):=by
 have ht:Calls prog 160 #[.pointer (some ⟨r,0,none⟩)] w fun e w'=>e = .returned (.tuple #[.int .u8 85,.nilIface])/\At_ w w' r s D (i+1):=xaa r s D i w 85 h hc
 have HT:=hid ht;have HX:=hid (aI h0 (trivial));clear ht h hc h0;go_enter func120,ntmps120;go_wp2_with (first | (go_at_call 160;go_must (refine HT.out.mono ?_;rintro e w1 ⟨rfl,hA1⟩;have H1:=hid hA1;clear hA1)) | (go_at_call 54;go_must (refine (xax r s D (i+1) _ x0 H1.out.buf (by exact HX.out.1)).mono ?_;rintro e w2 ⟨rfl,hA2⟩;have H2:=hid (H1.out.trans hA2);clear hA2)));go_ret2;exact ⟨xbP (by exact congrArg (Value.int .i64) (w64_i8 _ x0.toNat_lt)),H2.out⟩
theorem xmN (x0 x1 x2 x3 x4 x5 x6 x7:UInt8) (h:Buf w r s D i) (hc:D[i]? = some 129) (h0:D[i+1]? = some x0) (h1:D[i+2]? = some x1) (h2:D[i+3]? = some x2) (h3:D[i+4]? = some x3) (h4:D[i+5]? = some x4) (h5:D[i+6]? = some x5) (h6:D[i+7]? = some x6) (h7:D[i+8]? = some x7) :
  Calls prog 120 #[.pointer (some ⟨r,0,none⟩)] w fun e w'=>e = .returned (.tuple #[.int .i64 (sg 64 (Lib.beNat [x0,x1,x2,x3,x4,x5,x6,x7])),.nilIface])/\At_ w w' r s D (i+9):=by
 have ht:Calls prog 160 #[.pointer (some ⟨r,0,none⟩)] w fun e w'=>e = .returned (.tuple #[.int .u8 129,.nilIface])/\At_ w w' r s D (i+1):=xaa r s D i w 129 h hc
 have HT:=hid ht;have HX:=hid (aI h0 (aI h1 (aI h2 (aI h3 (aI h4 (aI h5 (aI h6 (aI h7 (trivial)))))))));clear ht h hc h0 h1 h2 h3 h4 h5 h6 h7;go_enter func120,ntmps120;go_wp2_with (first | (go_at_call 160;go_must (refine HT.out.mono ?_;rintro e w1 ⟨rfl,hA1⟩;have H1:=hid hA1;clear hA1)) | (go_at_call 177;go_must (refine (xcN r s D (i+1) _ x0 x1 x2 x3 x4 x5 x6 x7 H1.out.buf (by exact HX.out.1) (by exact HX.out.2.1) (by exact HX.out.2.2.1) (by exact HX.out.2.2.2.1) (by exact HX.out.2.2.2.2.1) (by exact HX.out.2.2.2.2.2.1) (by exact HX.out.2.2.2.2.2.2.1) (by exact HX.out.2.2.2.2.2.2.2.1)).mono ?_;rintro e w2 ⟨rfl,hA2⟩;have H2:=hid (H1.out.trans hA2);clear hA2)));go_ret2;exact ⟨xbP (by exact congrArg (Value.int .i64) (xoa _ (xeF x0 x1 x2 x3 x4 x5 x6 x7))),H2.out⟩
theorem xmP (x0:UInt8) (h:Buf w r s D i) (hc:D[i]? = some 86) (h0:D[i+1]? = some x0) :
  Calls prog 112 #[.pointer (some ⟨r,0,none⟩)] w fun e w'=>e = .returned (.tuple #[.bool ((x0.toNat:Int) != 0),.nilIface])/\At_ w w' r s D (i+2):=by
 have ht:Calls prog 160 #[.pointer (some ⟨r,0,none⟩)] w fun e w'=>e = .returned (.tuple #[.int .u8 86,.nilIface])/\At_ w w' r s D (i+1):=xaa r s D i w 86 h hc
 have HT:=hid ht;have HX:=hid (aI h0 (trivial));clear ht h hc h0;go_enter func112,ntmps112;go_wp2_with (first | (go_at_call 160;go_must (refine HT.out.mono ?_;rintro e w1 ⟨rfl,hA1⟩;have H1:=hid hA1;clear hA1)) | (go_at_call 54;go_must (refine (xax r s D (i+1) _ x0 H1.out.buf (by exact HX.out.1)).mono ?_;rintro e w2 ⟨rfl,hA2⟩;have H2:=hid (H1.out.trans hA2);clear hA2)));go_ret2;exact ⟨xbP (by rfl),H2.out⟩
theorem xmR (h:Buf w r s D i) (hc:D[i]? = some 65)  :
  Calls prog 112 #[.pointer (some ⟨r,0,none⟩)] w fun e w'=>e = .returned (.tuple #[.bool true,.nilIface])/\At_ w w' r s D (i+1):=by
 have ht:Calls prog 160 #[.pointer (some ⟨r,0,none⟩)] w fun e w'=>e = .returned (.tuple #[.int .u8 65,.nilIface])/\At_ w w' r s D (i+1):=xaa r s D i w 65 h hc
 have HT:=hid ht;clear ht h hc;go_enter func112,ntmps112;go_wp2_with ((go_at_call 160;go_must (refine HT.out.mono ?_;rintro e w1 ⟨rfl,hA1⟩;have H1:=hid hA1;clear hA1)));go_ret2;exact ⟨xbP (by rfl),H1.out⟩
theorem xmQ (h:Buf w r s D i) (hc:D[i]? = some 66)  :
  Calls prog 112 #[.pointer (some ⟨r,0,none⟩)] w fun e w'=>e = .returned (.tuple #[.bool false,.nilIface])/\At_ w w' r s D (i+1):=by
 have ht:Calls prog 160 #[.pointer (some ⟨r,0,none⟩)] w fun e w'=>e = .returned (.tuple #[.int .u8 66,.nilIface])/\At_ w w' r s D (i+1):=xaa r s D i w 66 h hc
 have HT:=hid ht;clear ht h hc;go_enter func112,ntmps112;go_wp2_with ((go_at_call 160;go_must (refine HT.out.mono ?_;rintro e w1 ⟨rfl,hA1⟩;have H1:=hid hA1;clear hA1)));go_ret2;exact ⟨xbP (by rfl),H1.out⟩
theorem xkS (x0 x1 x2 x3:UInt8) (h:Buf w r s D i) (hc:D[i]? = some 114) (h0:D[i+1]? = some x0) (h1:D[i+2]? = some x1) (h2:D[i+3]? = some x2) (h3:D[i+4]? = some x3) :
  Calls prog 121 #[.pointer (some ⟨r,0,none⟩)] w fun e w'=>e = .returned (.tuple #[.float .f32 (Lib.beNat [x0,x1,x2,x3]),.nilIface])/\At_ w w' r s D (i+5):=by
 have ht:Calls prog 160 #[.pointer (some ⟨r,0,none⟩)] w fun e w'=>e = .returned (.tuple #[.int .u8 114,.nilIface])/\At_ w w' r s D (i+1):=xaa r s D i w 114 h hc
 have HT:=hid ht;have HX:=hid (aI h0 (aI h1 (aI h2 (aI h3 (trivial)))));clear ht h hc h0 h1 h2 h3;have hf:=fun (n:Nat) (w:World)=>xdv n w
 have hf0:∀ w:World,(callFunc 178 #[.int .u32 0]).run prog w = .ok (.value (.float .f32 0)) w:=fun w=>xdv 0 w
 go_enter func121,ntmps121;go_wp2_with (first | (go_at_call 160;go_must (refine HT.out.mono ?_;rintro e w1 ⟨rfl,hA1⟩;have H1:=hid hA1;clear hA1)) | (go_at_call 176;go_must (refine (xdR r s D (i+1) _ x0 x1 x2 x3 H1.out.buf (by exact HX.out.1) (by exact HX.out.2.1) (by exact HX.out.2.2.1) (by exact HX.out.2.2.2.1)).mono ?_;rintro e w2 ⟨rfl,hA2⟩;have H2:=hid (H1.out.trans hA2);clear hA2)));go_ret2;exact ⟨xbP (by rfl),H2.out⟩
theorem xjK (x0 x1 x2 x3 x4 x5 x6 x7:UInt8) (h:Buf w r s D i) (hc:D[i]? = some 130) (h0:D[i+1]? = some x0) (h1:D[i+2]? = some x1) (h2:D[i+3]? = some x2) (h3:D[i+4]? = some x3) (h4:D[i+5]? = some x4) (h5:D[i+6]? = some x5) (h6:D[i+7]? = some x6) (h7:D[i+8]? = some x7) :
  Calls prog 122 #[.pointer (some ⟨r,0,none⟩)] w fun e w'=>e = .returned (.tuple #[.float .f64 (Lib.beNat [x0,x1,x2,x3,x4,x5,x6,x7]),.nilIface])/\At_ w w' r s D (i+9):=by
 have ht:Calls prog 160 #[.pointer (some ⟨r,0,none⟩)] w fun e w'=>e = .returned (.tuple #[.int .u8 130,.nilIface])/\At_ w w' r s D (i+1):=xaa r s D i w 130 h hc
 have HT:=hid ht;have HX:=hid (aI h0 (aI h1 (aI h2 (aI h3 (aI h4 (aI h5 (aI h6 (aI h7 (trivial)))))))));clear ht h hc h0 h1 h2 h3 h4 h5 h6 h7;have hf:=fun (n:Nat) (w:World)=>xdu n w
 have hf0:∀ w:World,(callFunc 179 #[.int .u64 0]).run prog w = .ok (.value (.float .f64 0)) w:=fun w=>xdu 0 w
 go_enter func122,ntmps122;go_wp2_with (first | (go_at_call 160;go_must (refine HT.out.mono ?_;rintro e w1 ⟨rfl,hA1⟩;have H1:=hid hA1;clear hA1)) | (go_at_call 177;go_must (refine (xcN r s D (i+1) _ x0 x1 x2 x3 x4 x5 x6 x7 H1.out.buf (by exact HX.out.1) (by exact HX.out.2.1) (by exact HX.out.2.2.1) (by exact HX.out.2.2.2.1) (by exact HX.out.2.2.2.2.1) (by exact HX.out.2.2.2.2.2.1) (by exact HX.out.2.2.2.2.2.2.1) (by exact HX.out.2.2.2.2.2.2.2.1)).mono ?_;rintro e w2 ⟨rfl,hA2⟩;have H2:=hid (H1.out.trans hA2);clear hA2)));go_ret2;exact ⟨xbP (by rfl),H2.out⟩
end
end
section
theorem xbe {P:Program} {S:Nat->Prop} {w:World} {v:Value} {bs:List UInt8} (src dst e:TypeId) (hs:P.underlying src=some (.slice e)) (he:P.underlying e=some (.int .u8)) (hd:P.underlying dst=some .string)
  (h:BSl S w v bs):(convert src dst v).run P w = .ok (.string ⟨bs.toArray⟩) w:=by
 obtain ⟨a,c,rfl,_,_,h⟩:=h
 have hb:∀ bs:List UInt8,strOfNums (bs.map fun x=>(x.toNat:Int))=⟨bs.toArray⟩:=by
  intro bs;unfold strOfNums
  congr 2
  rw [List.map_map]
  conv=>rhs;rw [<- List.map_id bs]
  apply List.map_congr_left;intro x _;simp
 rcases h with rfl | ⟨b,off,rfl,_,h⟩
 ·rcases a with _ | a
  ·rw [List.length_nil,run_convert_bytes_nil w src e hs he _ _ dst hd];rfl
  ·rw [List.length_nil,run_convert_bytes_string w src dst e _ _ _ hs he hd];simp [Conv.bytesToString];rfl
 ·rw [run_convert_bytes_arg w src e hs he b off bs.length c (bs.map fun x=>(x.toNat:Int)) (by simp) (fun i hi => ?_) dst hd,hb];have hx:bs[i]? = some bs[i]:=ge hi;rw [h i _ hx];simp [u8,List.getD,hx]
def sub (D:List UInt8) (i n:Nat):List UInt8:=(D.drop i).take n
theorem xdQ:(prog.info? 5).map (fun i=>(i.zero,i.size,i.bytes))=some (some (.int .u8 0),1,1):=by kernel_rfl
section
variable (r:Nat) (s:Value) (D:List UInt8) (i:Nat) (w:World)
theorem xbd (n:Nat) (h:Buf w r s D i) (hn:i+n<=D.length) (h0:0 < n) :
  Calls prog 161 #[.pointer (some ⟨r,0,none⟩),.int .i64 n] w (xac fun v b w'=>b = .bool true/\(∃ g off c,v = .slice (some ⟨g,off,none⟩) n c/\g≠r/\n<=c/\c<=maxLen /\
   ∀ j x,j < n->D[i+j]? = some x->w'.cell? ⟨g,off+j,none⟩=some (.int .u8 x.toNat))/\At_ w w' r s D (i+n)) :=
 (xcP r s D i w n h hn).mono fun e w' ⟨v,b,he,hb,hB,hA⟩=>⟨v,b,he,hb,by
  have hl:((D.drop i).take n).length=n:=by simp;omega
  obtain ⟨a,c,rfl,hc,hm,hB⟩:=hB
  rcases hB with e | ⟨g,off,rfl,hg,hB⟩
  ·rw [e] at hl;simp at hl;omega
  ·refine ⟨g,off,c,by rw [hl],hg,by omega,hm,fun j x hj hx=>hB j x ?_⟩
   rw [List.getElem?_take,if_pos hj,List.getElem?_drop];exact hx,hA⟩
theorem xfl (W:World) (g off n c:Nat) (x0 x1 x2 x3:UInt8) (hn:4<=n) (hc:∀ j x,[x0,x1,x2,x3][j]? = some x->W.cell? ⟨g,off+j,none⟩=some (.int .u8 x.toNat)) :
  Calls prog 162 #[.agg #[],.slice (some ⟨g,off,none⟩) n c] W fun e w'=>e = .returned (.int .u32 (Lib.beNat [x0,x1,x2,x3]))/\Kept Nope W w' :=
 (Tryz.binary_BE_Uint32 g off n c x0 x1 x2 x3 W hn (hc 0 x0 rfl) (hc 1 x1 rfl) (hc 2 x2 rfl) (hc 3 x3 rfl)).mono fun _ _ ⟨he,hb⟩=>⟨he,Kept.below hb rfl⟩
theorem xmf (c x0:UInt8) (hcc:c=0xa1\/c=0xa3) (h:Buf w r s D i) (hc:D[i]? = some c) (h0:D[i+1]? = some x0) (hl:i+2+x0.toNat<=D.length) :
  Calls prog 107 #[.pointer (some ⟨r,0,none⟩)] w fun e w'=>e = .returned (.tuple #[.string ⟨(sub D (i+2) x0.toNat).toArray⟩,.nilIface])/\At_ w w' r s D (i+2+x0.toNat):=by
 rcases hcc with rfl | rfl
 all_goals
  have ht:=xaa r s D i w _ h hc;have HT:=hid ht;have HX:=hid (aI h0 hl);have hx0:=x0.toNat_lt;have hx1:(x0.toNat:Int)<=255:=by omega
  have hx2:(0:Int)<=x0.toNat:=by omega
  clear ht h hc h0 hl;go_enter func107,ntmps107;go_wp2_with (first | (go_at_call 160;go_must (refine HT.out.mono ?_;rintro e w1 ⟨rfl,hA1⟩;have H1:=hid hA1;clear hA1)) | (go_at_call 54;go_must (refine (xax r s D (i+1) _ x0 H1.out.buf (by exact HX.out.1)).mono ?_;rintro e w2 ⟨rfl,hA2⟩;have H2:=hid (H1.out.trans hA2);clear hA2)) | (go_at_call 161;go_must (refine (xcP r s D (i+1+1) _ x0.toNat H2.out.buf (by exact HX.out.2)).mono ?_;rintro e w3 ⟨v,b,rfl,rfl,hB,hA3⟩;have hcv:=xbe 26 9 5 underlying26 underlying5 underlying9 hB;have H3:=hid (H2.out.trans hA3);clear hA3 hB)));go_ret2;exact ⟨rfl,H3.out⟩
end
end
end Go.Proofs.YtmdpodeegdjkeaaGreatDoor
