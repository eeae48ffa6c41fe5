/- Part 6 of the proof of the readers and the guards. No conditions. -/
import Derived.BigQuiet
import Derived.Deep.QuietTactic
import Derived.WalkLawsBesides
import Derived.LoopTactic
import Derived.IntWalk
import Derived.Outline
import Derived.Maps.RangeRun
import Derived.ChangeKeysEq
import Derived.OrdersHeld
import Derived.Test.YtmdpodeegdjkeaaGreatDoorU0
import Derived.Test.YtmdpodeegdjkeaaGreatDoorU1
import Derived.Test.YtmdpodeegdjkeaaGreatDoorU4
import Derived.Test.YtmdpodeegdjkeaaGreatDoorU5
set_option maxRecDepth 100000
set_option maxHeartbeats 3200000
namespace Go.Proofs.YtmdpodeegdjkeaaGreatDoor
open Go Go.RowKit Go.Lib Tryz
theorem iless_ok (P blk off c size:Nat) (W:World) (ts:Nat->ByteArray) (hP:W.cell? ⟨P,0,none⟩=some (.slice (some ⟨blk,off,none⟩) size c)) (hc:∀ t,t < size->W.cell? ⟨blk,off+t*13,none⟩=some (.string (ts t))) (i j:Nat) (hi:i < size) (hj:j < size) :
  Calls prog 103 #[.int .i64 i,.int .i64 j,.pointer (some ⟨P,0,none⟩)] W fun e w'=>e = .returned (.bool (Op.bytesLess (ts i).toList (ts j).toList))/\∃ q,w'=W.drewN q:=by
 have ci:=hc i hi;have cj:=hc j hj;have i0:(0:Int)<=(i:Int):=by omega
 have j0:(0:Int)<=(j:Int):=by omega
 have i1:(i:Int) < (size:Int):=by omega
 have j1:(j:Int) < (size:Int):=by omega
 clear hc;go_enter func103,ntmps103;go_wp2;go_quiet (fail);go_wp2;go_ret;exact ⟨rfl,nq,rfl⟩
theorem xoN:(prog.info? 168).map (fun i=>i.desc)=some (.slice 172):=by kernel_rfl
theorem xoP:(prog.info? 172).map (fun i=>(i.size,i.hasPointers,i.bytes))=some (13,true,192):=by kernel_rfl
theorem perm_of {d d':Array Pr} (h:Sort.PermIn 0 d.size d d'):d'.toList.Perm d.toList:=by
 obtain ⟨h1,_,h3⟩:=h;have e1:d.extract 0 d.size=d:=by simp
 have e2:d'.extract 0 d.size=d':=by rw [<- h1];simp
 rwa [e1,e2] at h3
theorem sortP_ok (w:World) (base P:Nat) (x:Value) (ps:List Pr) (hP:Blk w P 168 #[x]) (hrow:w.ownsRow base 172 13 x ps.length (ps.flatMap Pr.cells)) (hn:ps.length<=1000) :
  Calls prog 102 #[.iface 168 x,.func (.func 103) #[] #[.pointer (some ⟨P,0,none⟩)]] w fun e w'=>e = .returned (.tuple #[])/\∃ ps':List Pr,ps'.Perm ps/\w'.ownsRow base 172 13 x ps.length (ps'.flatMap Pr.cells)/\Kept (fun k=>x.ownBlock=some k) w w':=by
 obtain ⟨i,hi,hd⟩:=Option.map_eq_some_iff.1 xoN;obtain ⟨ie,hie,he⟩:=Option.map_eq_some_iff.1 xoP;simp only [Prod.mk.injEq] at he;obtain ⟨hs13,hptr,hby⟩:=he
 obtain ⟨p,c,rfl⟩:∃ p c,x = .slice p ps.length c:=by
  rcases hrow.2 with ⟨rfl,e⟩ | ⟨g,cap,cur,rfl,_⟩
  ·exact ⟨none,0,by rw [e]⟩
  ·exact ⟨_,_,rfl⟩
 have hkind:∀ w,(Extern.Rtype.kind 172).run prog w = .ok 25 w:=fun _=>by kernel_rfl
 by_cases h2:2<=ps.length
 ·rcases hrow.2 with ⟨e,e0⟩ | ⟨g,cap,cur,e,hb,hg,hnc,hm,hsz,hcur⟩
  ·omega
  ·injection e with e _ e3
   subst e e3
   have hK:Lib.swapperK ps.length ie 25=9:=by
    have c1:(ps.length == 0)=false:=beq_eq_false_iff_ne.2 (by omega);have c2:(ps.length == 1)=false:=beq_eq_false_iff_ne.2 (by omega);simp [Lib.swapperK,hptr,hby,c1,c2]
   have hH:=holds_13 hg hcur;have hlt:g < w.heap.size:=block_lt hg
   have hPg:P≠g:=fun e=>by
    unfold Blk at hP;rw [e,hg] at hP;injection hP with hP
    injection hP with _ h2
    exact absurd h2 (by decide)
   have hless:LessReadsK prog 103 #[.pointer (some ⟨P,0,none⟩)] Pr.cells 13 Pr.lt g 0 ps.toArray.size w:=by
    intro m os dk hs i j hi hj
    have e:sortWorldK Pr.cells 13 w g 0 m dk os=Sort.putRowK Pr.cells 13 (Sort.grow (Sort.ahead w m) os) g 0 dk:=by
     unfold sortWorldK;rw [Sort.putRowK_grow _ _ (Sort.ahead w m) _ g 0 _ hlt]
    have hHg:Sort.HoldsK Pr.cells 13 (Sort.grow (Sort.ahead w m) os) g 0 ps.toArray:=Sort.holdsK_grow _ _ _ _ g 0 _ hlt (Sort.holdsK_ahead _ _ _ _ _ _ _ hH);refine (iless_ok P g 0 c dk.size _ (fun t=>dk[t]!.t) ?_ (fun t ht => ?_) i j (by rw [hs];exact hi) (by rw [hs];exact hj)).mono fun e w' h=>h
    ·rw [e,Sort.cell?_putRowK_other _ _ _ g 0 dk _ hPg,Sort.cell?_grow _ _ _ hP.lt,hs];have:=hP.cell 0
     simpa using this
    ·rw [e];have:=((Sort.holdsK_putRowK _ _ _ g 0 _ dk hHg hs).cell (i:=t) (c:=0) ht (by omega)).1
     simpa [Pr.cells] using this
   refine (Any.sort_Slice_cells_sorted Tryz.laysSlice 168 172 i ie hi hd (by kernel_rfl) hie 25 hkind Pr.cells 13 (fun _=>rfl) hs13 (fun _=>by kernel_rfl) Pr.one Pr.lt Pr.swo 103 _
    (enters_of func103 (by kernel_rfl) rfl) g 0 c ps.toArray (by simpa using h2) (by simp;omega) 231 (by rw [List.size_toArray,hK];kernel_rfl) false
    (fun args W=>run_callFunc_extern func231 (by kernel_rfl) (by kernel_rfl) (by kernel_rfl) (e:=Extern.ReflectliteSwapper.swap false) (by kernel_rfl) args W) w hless hH hlt).mono ?_
   rintro e w' ⟨rfl,d',n,os,hp,_,hw⟩;have hn':d'.size=ps.length:=by have:=hp.1;simpa using this
   obtain ⟨cur',h1,h3,h4,h5⟩:=sorted_world hg hcur hn' hw;refine ⟨rfl,d'.toList,by simpa using perm_of hp,⟨by rw [xbV,Array.length_toList,hn'],.inr ⟨g,c,cur',rfl,hb,h1,hnc,hm,by rw [h3];exact hsz,h4⟩⟩,h5.mono fun k _ hk=>by have e':k=g:=hk;rw [e'];rfl⟩
 ·have hK:ps.length=0\/ps.length=1:=by omega
  have key:Calls prog 102 #[.iface 168 (.slice p ps.length c),.func (.func 103) #[] #[.pointer (some ⟨P,0,none⟩)]] w fun e w'=>e = .returned (.tuple #[])/\∃ os,w'=Sort.grow w os:=by
   rcases hK with h | h
   ·exact Any.sort_Slice_tiny Tryz.laysSlice 168 172 i ie hi hd (by kernel_rfl) hie 25 hkind p ps.length c (by omega) 223 (by rw [h];kernel_rfl) (.func 103) #[] _ w
   ·exact Any.sort_Slice_tiny Tryz.laysSlice 168 172 i ie hi hd (by kernel_rfl) hie 25 hkind p ps.length c (by omega) 224 (by rw [h];kernel_rfl) (.func 103) #[] _ w
  refine key.mono ?_;rintro e w' ⟨rfl,os,rfl⟩;have hk:Kept Nope w (Sort.grow w os):=⟨rfl,rfl,rfl,by simp,fun k hk _=>Sort.heap_grow_old _ _ hk⟩;exact ⟨rfl,ps,List.Perm.refl _,xaB hrow hk (fun _ _ h=>h),hk.nope⟩
theorem u64_bd (x:Int):0<=IntKind.u64.wrap x/\IntKind.u64.wrap x < 18446744073709551616:=by simp only [IntKind.wrap,IntKind.bits,IntKind.signed];simp;omega
def xaT (w:World) (f:Nat):Prop:=∃ (st:Int) (sh:Bool),Blk w f 33 #[.int .u64 st,.bool sh]/\0<=st/\st < 18446744073709551616
def PickP (f n:Nat) (w:World):Ending->World->Prop:=fun e w'=>∃ i:Nat,i < n/\e = .returned (.int .i64 i)/\xaT w' f/\Kept (Only f) w w'
theorem xhT (f n:Nat) (w:World) (h:xaT w f) (h1:1<=n) (h2:n<=1000000):Calls prog 39 #[.pointer (some ⟨f,0,none⟩),.int .i64 n] w (PickP f n w):=by
 have HF:=hid h;obtain ⟨st,sh,hb,s0,s1⟩:=h;have c0:=hb.cell 0;have c1:=hb.cell 1;have f0:=hb.frozen 0;simp only [gt,gz,gs] at c0 c1;have HB:=hid hb;clear hb;cases sh
 ·by_cases hn:n<=1
  ·have hn':(n:Int)<=1:=by omega
   go_enter func39,ntmps39;go_wp2;go_ret;exact ⟨0,by omega,rfl,HF.out,kR _ _⟩
  ·have hn':(1:Int) < (n:Int):=by omega
   go_enter func39,ntmps39;go_wp2;go_ret;have hb:=u64_bd (IntKind.u64.wrap (st*6364136223846793005)+1442695040888963407);generalize IntKind.u64.wrap (IntKind.u64.wrap (st*6364136223846793005)+1442695040888963407)=X at hb ⊢;have hw:wrap64 (X / 8589934592)=X / 8589934592:=by unfold wrap64;omega
   have hm:(X / 8589934592).tmod n=(X / 8589934592) % n:=Int.tmod_eq_emod_of_nonneg (by omega);have hp:0<=(X / 8589934592) % (n:Int):=Int.emod_nonneg _ (by omega);have hl:(X / 8589934592) % (n:Int) < n:=Int.emod_lt_of_pos _ (by omega);refine ⟨((X / 8589934592) % (n:Int)).toNat,by omega,?_,⟨X,false,?_,hb⟩,(kR _ _).set1 0 _⟩
   ·show Ending.returned (.int .i64 ((wrap64 (X / 8589934592)).tmod n))=_
    rw [hw,hm,Int.toNat_of_nonneg hp]
   ·have h:=HB.out.set_ 0 (.int .u64 X)
    simpa using h
 ·go_enter func39,ntmps39;go_wp2;go_ret;exact ⟨0,by omega,rfl,HF.out,kR _ _⟩
theorem xab {w:World} {base:Nat} {e:TypeId} {size n:Nat} {x:Value} {xs:List Value} (h:w.ownsRow base e size x n xs):∃ p c,x = .slice p n c:=by
 rcases h.2 with ⟨rfl,e⟩ | ⟨g,cap,cur,rfl,_⟩
 ·exact ⟨none,0,by rw [e]⟩
 ·exact ⟨_,_,rfl⟩
theorem CSl.one_cell {W:World} {t:TypeId} {x:Value} {g:Nat} (hg:W.heap.size=g):CSl Any_ (W.alloc (.cells #[x] t)) 1 (.slice (some ⟨g,0,none⟩) 1 1) 1 [x]:=by
 subst hg;refine ⟨rfl,_,1,rfl,Nat.le_refl _,by decide,.inr ⟨W.heap.size,0,rfl,trivial,fun j u hu => ?_⟩⟩;rw [(Blk.new W t #[x]).cell,Nat.zero_add]
 simpa using hu
theorem be_get (x:Nat):∀ (n k:Nat),k < n->(be n x)[k]? = some (UInt8.ofNat (x / 256 ^ (n - 1 - k) % 256))
 | 0,k,h=>by omega
 | n+1,0,_=>by simp [be]
 | n+1,k+1,h=>by
  have e:n+1 - 1 - (k+1)=n - 1 - k:=by omega
  rw [e]
  simpa [be] using be_get x n k (by omega)
theorem xdG {u:Int} {n k:Nat} (i:Nat) (h:n=k+i+1):((be n u.toNat).take k).map u8 ++ [.int .u8 ((u.toNat / 256 ^ i % 256:Nat):Int)]=((be n u.toNat).take (k+1)).map u8:=by
 have hg:=be_get u.toNat n k (by omega);have e:n - 1 - k=i:=by omega
 rw [e] at hg;rw [List.take_add_one,hg,List.map_append]
 congr 1
 simp [u8]
theorem xbL (u:Int) (n:Nat) (w:World) (h0:0<=u/\u < 18446744073709551616) (h1:n<=8) :
  Calls prog 149 #[.int .u64 u,.int .i64 n] w (Gives fun x w'=>w'.ownsRow w.heap.size 5 1 x n ((be n u.toNat).map u8)/\Kept Nope w w'):=by
 obtain ⟨i1,hi,hz0,hz1,hz2⟩:=info_parts xdQ;have HU:=hid h0;clear h0;go_enter func149,ntmps149;go_wp2
 go_loopw [5,6] (fun x c w'=>∃ k i:Nat,k+i=n/\c = .int .i64 ((i:Int) - 1)/\Hid (Kept Nope w w'/\w'.ownsRow w.heap.size 5 1 x k (((be n u.toNat).take k).map u8))) (fun _ c _=>(RowKit.intOf c+1).toNat)
 case atStart=>exact ⟨0,n,by omega,rfl,hid ⟨kR _ _,World.ownsRow_nil _ _ _ _⟩⟩
 case round =>
  obtain ⟨k,i,hk,rfl,HR⟩:=hrel;obtain ⟨p,c,hx⟩:=xab HR.out.2;subst hx
  rcases (show i=0\/i=1\/i=2\/i=3\/i=4\/i=5\/i=6\/i=7\/i=8 by omega) with rfl | rfl | rfl | rfl | rfl | rfl | rfl | rfl | rfl
  ·obtain rfl:k=n:=by omega
   go_wp2;go_ret;refine ⟨_,rfl,?_,HR.out.1⟩;have h:=HR.out.2;rw [List.take_of_length_le (by simp)] at h;exact h
  ·have HK:=hid hk;clear hk;go_wp2_with (at_builtin;go_must (refine xae _ rfl (.tmp 13) (.tmp 19) 26 rfl w.heap.size 5 i1 _ 1 1 underlying26 hi hz0 hz1 hz2 rfl (by omega) _ _ _ rfl (HR.out.2.alloc _) Any_ _ 1 _ rfl (CSl.one_cell rfl) (by intro q hq;rw [List.mem_singleton.1 hq];rfl) (by have:=HK.out;unfold maxLen;omega) (by have:=HK.out;omega) (by have hs:=HR.out.1.size;rw [World.size_alloc];omega) ?_;intro v4 w4 hown hgrow hblk;obtain ⟨p4,c4,rfl⟩:=xab hown;have HN:=hid (aI hown hgrow);clear hown hgrow hblk));go_roundw
   case rel =>
    have hb:=xdG (u:=u) (n:=n) (k:=k) 0 (by have:=HK.out;omega);have hv:((u.toNat / 256 ^ 0 % 256:Nat):Int)=u % 256:=by have:=HU.out;simp;omega
    rw [hv] at hb;have hk4:Kept (fun b=>(Value.slice p k c).ownBlock=some b) _ _:=⟨HN.out.2.os,HN.out.2.tape,HN.out.2.output,HN.out.2.size,fun z hz hn=>HN.out.2.block z hz (fun e=>hn e.symm)⟩;refine ⟨k+1,0,by have:=HK.out;omega,by simp,hid ⟨(HR.out.1.alloc _).trans hk4 (fun b hb e=>by have:=(HR.out.2.lt b e).1;omega),?_⟩⟩;rw [<- hb];exact HN.out.1
   case measure=>simp [RowKit.intOf]
  ·have HK:=hid hk;clear hk;go_wp2_with (at_builtin;go_must (refine xae _ rfl (.tmp 13) (.tmp 19) 26 rfl w.heap.size 5 i1 _ 1 1 underlying26 hi hz0 hz1 hz2 rfl (by omega) _ _ _ rfl (HR.out.2.alloc _) Any_ _ 1 _ rfl (CSl.one_cell rfl) (by intro q hq;rw [List.mem_singleton.1 hq];rfl) (by have:=HK.out;unfold maxLen;omega) (by have:=HK.out;omega) (by have hs:=HR.out.1.size;rw [World.size_alloc];omega) ?_;intro v4 w4 hown hgrow hblk;obtain ⟨p4,c4,rfl⟩:=xab hown;have HN:=hid (aI hown hgrow);clear hown hgrow hblk));go_roundw
   case rel =>
    have hb:=xdG (u:=u) (n:=n) (k:=k) 1 (by have:=HK.out;omega);have hv:((u.toNat / 256 ^ 1 % 256:Nat):Int)=u / 256 % 256:=by have:=HU.out;simp;omega
    rw [hv] at hb;have hk4:Kept (fun b=>(Value.slice p k c).ownBlock=some b) _ _:=⟨HN.out.2.os,HN.out.2.tape,HN.out.2.output,HN.out.2.size,fun z hz hn=>HN.out.2.block z hz (fun e=>hn e.symm)⟩;refine ⟨k+1,1,by have:=HK.out;omega,by simp,hid ⟨(HR.out.1.alloc _).trans hk4 (fun b hb e=>by have:=(HR.out.2.lt b e).1;omega),?_⟩⟩;rw [<- hb];exact HN.out.1
   case measure=>simp [RowKit.intOf]
  ·have HK:=hid hk;clear hk;go_wp2_with (at_builtin;go_must (refine xae _ rfl (.tmp 13) (.tmp 19) 26 rfl w.heap.size 5 i1 _ 1 1 underlying26 hi hz0 hz1 hz2 rfl (by omega) _ _ _ rfl (HR.out.2.alloc _) Any_ _ 1 _ rfl (CSl.one_cell rfl) (by intro q hq;rw [List.mem_singleton.1 hq];rfl) (by have:=HK.out;unfold maxLen;omega) (by have:=HK.out;omega) (by have hs:=HR.out.1.size;rw [World.size_alloc];omega) ?_;intro v4 w4 hown hgrow hblk;obtain ⟨p4,c4,rfl⟩:=xab hown;have HN:=hid (aI hown hgrow);clear hown hgrow hblk));go_roundw
   case rel =>
    have hb:=xdG (u:=u) (n:=n) (k:=k) 2 (by have:=HK.out;omega);have hv:((u.toNat / 256 ^ 2 % 256:Nat):Int)=u / 65536 % 256:=by have:=HU.out;simp;omega
    rw [hv] at hb;have hk4:Kept (fun b=>(Value.slice p k c).ownBlock=some b) _ _:=⟨HN.out.2.os,HN.out.2.tape,HN.out.2.output,HN.out.2.size,fun z hz hn=>HN.out.2.block z hz (fun e=>hn e.symm)⟩;refine ⟨k+1,2,by have:=HK.out;omega,by simp,hid ⟨(HR.out.1.alloc _).trans hk4 (fun b hb e=>by have:=(HR.out.2.lt b e).1;omega),?_⟩⟩;rw [<- hb];exact HN.out.1
   case measure=>simp [RowKit.intOf]
  ·have HK:=hid hk;clear hk;go_wp2_with (at_builtin;go_must (refine xae _ rfl (.tmp 13) (.tmp 19) 26 rfl w.heap.size 5 i1 _ 1 1 underlying26 hi hz0 hz1 hz2 rfl (by omega) _ _ _ rfl (HR.out.2.alloc _) Any_ _ 1 _ rfl (CSl.one_cell rfl) (by intro q hq;rw [List.mem_singleton.1 hq];rfl) (by have:=HK.out;unfold maxLen;omega) (by have:=HK.out;omega) (by have hs:=HR.out.1.size;rw [World.size_alloc];omega) ?_;intro v4 w4 hown hgrow hblk;obtain ⟨p4,c4,rfl⟩:=xab hown;have HN:=hid (aI hown hgrow);clear hown hgrow hblk));go_roundw
   case rel =>
    have hb:=xdG (u:=u) (n:=n) (k:=k) 3 (by have:=HK.out;omega);have hv:((u.toNat / 256 ^ 3 % 256:Nat):Int)=u / 16777216 % 256:=by have:=HU.out;simp;omega
    rw [hv] at hb;have hk4:Kept (fun b=>(Value.slice p k c).ownBlock=some b) _ _:=⟨HN.out.2.os,HN.out.2.tape,HN.out.2.output,HN.out.2.size,fun z hz hn=>HN.out.2.block z hz (fun e=>hn e.symm)⟩;refine ⟨k+1,3,by have:=HK.out;omega,by simp,hid ⟨(HR.out.1.alloc _).trans hk4 (fun b hb e=>by have:=(HR.out.2.lt b e).1;omega),?_⟩⟩;rw [<- hb];exact HN.out.1
   case measure=>simp [RowKit.intOf]
  ·have HK:=hid hk;clear hk;go_wp2_with (at_builtin;go_must (refine xae _ rfl (.tmp 13) (.tmp 19) 26 rfl w.heap.size 5 i1 _ 1 1 underlying26 hi hz0 hz1 hz2 rfl (by omega) _ _ _ rfl (HR.out.2.alloc _) Any_ _ 1 _ rfl (CSl.one_cell rfl) (by intro q hq;rw [List.mem_singleton.1 hq];rfl) (by have:=HK.out;unfold maxLen;omega) (by have:=HK.out;omega) (by have hs:=HR.out.1.size;rw [World.size_alloc];omega) ?_;intro v4 w4 hown hgrow hblk;obtain ⟨p4,c4,rfl⟩:=xab hown;have HN:=hid (aI hown hgrow);clear hown hgrow hblk));go_roundw
   case rel =>
    have hb:=xdG (u:=u) (n:=n) (k:=k) 4 (by have:=HK.out;omega);have hv:((u.toNat / 256 ^ 4 % 256:Nat):Int)=u / 4294967296 % 256:=by have:=HU.out;simp;omega
    rw [hv] at hb;have hk4:Kept (fun b=>(Value.slice p k c).ownBlock=some b) _ _:=⟨HN.out.2.os,HN.out.2.tape,HN.out.2.output,HN.out.2.size,fun z hz hn=>HN.out.2.block z hz (fun e=>hn e.symm)⟩;refine ⟨k+1,4,by have:=HK.out;omega,by simp,hid ⟨(HR.out.1.alloc _).trans hk4 (fun b hb e=>by have:=(HR.out.2.lt b e).1;omega),?_⟩⟩;rw [<- hb];exact HN.out.1
   case measure=>simp [RowKit.intOf]
  ·have HK:=hid hk;clear hk;go_wp2_with (at_builtin;go_must (refine xae _ rfl (.tmp 13) (.tmp 19) 26 rfl w.heap.size 5 i1 _ 1 1 underlying26 hi hz0 hz1 hz2 rfl (by omega) _ _ _ rfl (HR.out.2.alloc _) Any_ _ 1 _ rfl (CSl.one_cell rfl) (by intro q hq;rw [List.mem_singleton.1 hq];rfl) (by have:=HK.out;unfold maxLen;omega) (by have:=HK.out;omega) (by have hs:=HR.out.1.size;rw [World.size_alloc];omega) ?_;intro v4 w4 hown hgrow hblk;obtain ⟨p4,c4,rfl⟩:=xab hown;have HN:=hid (aI hown hgrow);clear hown hgrow hblk));go_roundw
   case rel =>
    have hb:=xdG (u:=u) (n:=n) (k:=k) 5 (by have:=HK.out;omega);have hv:((u.toNat / 256 ^ 5 % 256:Nat):Int)=u / 1099511627776 % 256:=by have:=HU.out;simp;omega
    rw [hv] at hb;have hk4:Kept (fun b=>(Value.slice p k c).ownBlock=some b) _ _:=⟨HN.out.2.os,HN.out.2.tape,HN.out.2.output,HN.out.2.size,fun z hz hn=>HN.out.2.block z hz (fun e=>hn e.symm)⟩;refine ⟨k+1,5,by have:=HK.out;omega,by simp,hid ⟨(HR.out.1.alloc _).trans hk4 (fun b hb e=>by have:=(HR.out.2.lt b e).1;omega),?_⟩⟩;rw [<- hb];exact HN.out.1
   case measure=>simp [RowKit.intOf]
  ·have HK:=hid hk;clear hk;go_wp2_with (at_builtin;go_must (refine xae _ rfl (.tmp 13) (.tmp 19) 26 rfl w.heap.size 5 i1 _ 1 1 underlying26 hi hz0 hz1 hz2 rfl (by omega) _ _ _ rfl (HR.out.2.alloc _) Any_ _ 1 _ rfl (CSl.one_cell rfl) (by intro q hq;rw [List.mem_singleton.1 hq];rfl) (by have:=HK.out;unfold maxLen;omega) (by have:=HK.out;omega) (by have hs:=HR.out.1.size;rw [World.size_alloc];omega) ?_;intro v4 w4 hown hgrow hblk;obtain ⟨p4,c4,rfl⟩:=xab hown;have HN:=hid (aI hown hgrow);clear hown hgrow hblk));go_roundw
   case rel =>
    have hb:=xdG (u:=u) (n:=n) (k:=k) 6 (by have:=HK.out;omega);have hv:((u.toNat / 256 ^ 6 % 256:Nat):Int)=u / 281474976710656 % 256:=by have:=HU.out;simp;omega
    rw [hv] at hb;have hk4:Kept (fun b=>(Value.slice p k c).ownBlock=some b) _ _:=⟨HN.out.2.os,HN.out.2.tape,HN.out.2.output,HN.out.2.size,fun z hz hn=>HN.out.2.block z hz (fun e=>hn e.symm)⟩;refine ⟨k+1,6,by have:=HK.out;omega,by simp,hid ⟨(HR.out.1.alloc _).trans hk4 (fun b hb e=>by have:=(HR.out.2.lt b e).1;omega),?_⟩⟩;rw [<- hb];exact HN.out.1
   case measure=>simp [RowKit.intOf]
  ·have HK:=hid hk;clear hk;go_wp2_with (at_builtin;go_must (refine xae _ rfl (.tmp 13) (.tmp 19) 26 rfl w.heap.size 5 i1 _ 1 1 underlying26 hi hz0 hz1 hz2 rfl (by omega) _ _ _ rfl (HR.out.2.alloc _) Any_ _ 1 _ rfl (CSl.one_cell rfl) (by intro q hq;rw [List.mem_singleton.1 hq];rfl) (by have:=HK.out;unfold maxLen;omega) (by have:=HK.out;omega) (by have hs:=HR.out.1.size;rw [World.size_alloc];omega) ?_;intro v4 w4 hown hgrow hblk;obtain ⟨p4,c4,rfl⟩:=xab hown;have HN:=hid (aI hown hgrow);clear hown hgrow hblk));go_roundw
   case rel =>
    have hb:=xdG (u:=u) (n:=n) (k:=k) 7 (by have:=HK.out;omega);have hv:((u.toNat / 256 ^ 7 % 256:Nat):Int)=u / 72057594037927936 % 256:=by have:=HU.out;simp;omega
    rw [hv] at hb;have hk4:Kept (fun b=>(Value.slice p k c).ownBlock=some b) _ _:=⟨HN.out.2.os,HN.out.2.tape,HN.out.2.output,HN.out.2.size,fun z hz hn=>HN.out.2.block z hz (fun e=>hn e.symm)⟩;refine ⟨k+1,7,by have:=HK.out;omega,by simp,hid ⟨(HR.out.1.alloc _).trans hk4 (fun b hb e=>by have:=(HR.out.2.lt b e).1;omega),?_⟩⟩;rw [<- hb];exact HN.out.1
   case measure=>simp [RowKit.intOf]
section
open Go.ChangeMaps (setBlock)
def Ne_ (x y:Value):Prop:=∀ W,(Op.equal 20 x y).run prog W = .ok false W
theorem eq_iface (T T':TypeId) (x y:Value) (W:World) (h:T≠T'):(Op.equal 20 (.iface T x) (.iface T' y)).run prog W = .ok false W:=by
 have e:(Op.equal 20 (.iface T x) (.iface T' y)).run prog W=(if T≠T' then (pure false:Sem Bool) else (Op.equal 20 (.iface T x) (.iface T' y))).run prog W:=by
  rw [if_pos h];unfold Op.equal Op.maxDepth;rw [show (10000:Nat)=9999+1 from rfl,Op.equalIn];simp only [Sem.run_bind,run_underlying underlying20,Result.andThen_ok,if_pos h]
 rw [e,if_pos h]
 rfl
theorem Ne_.types {T T':TypeId} {x y:Value} (h:T≠T'):Ne_ (.iface T x) (.iface T' y):=fun W=>eq_iface T T' x y W h
theorem Ne_.of_bool {a b:Bool} (h:a≠b):Ne_ (.iface 4 (.bool a)) (.iface 4 (.bool b)):=fun W=>by
 have e:(Op.equal 20 (.iface 4 (.bool a)) (.iface 4 (.bool b))).run prog W = .ok (a == b) W:=by kernel_rfl
 rw [e,beq_eq_false_iff_ne.2 h]
theorem xkd {a b:ByteArray} (h:a≠b):(a == b)=false:=by
 cases hh:(a == b)
 ·rfl
 ·exact absurd ((MapKept.bytes_beq a b).1 hh) h
theorem Ne_.of_string {a b:ByteArray} (h:a≠b):Ne_ (.iface 9 (.string a)) (.iface 9 (.string b)):=fun W=>by
 have e:(Op.equal 20 (.iface 9 (.string a)) (.iface 9 (.string b))).run prog W = .ok (a == b) W:=by kernel_rfl
 rw [e,xkd h]
theorem Ne_.of_u8 {a b:Int} (h:a≠b):Ne_ (.iface 5 (.int .u8 a)) (.iface 5 (.int .u8 b)):=fun W=>by
 have e:(Op.equal 20 (.iface 5 (.int .u8 a)) (.iface 5 (.int .u8 b))).run prog W = .ok (a == b) W:=by kernel_rfl
 rw [e,beq_eq_false_iff_ne.2 h]
theorem Ne_.of_u16 {a b:Int} (h:a≠b):Ne_ (.iface 100 (.int .u16 a)) (.iface 100 (.int .u16 b)):=fun W=>by
 have e:(Op.equal 20 (.iface 100 (.int .u16 a)) (.iface 100 (.int .u16 b))).run prog W = .ok (a == b) W:=by kernel_rfl
 rw [e,beq_eq_false_iff_ne.2 h]
theorem Ne_.of_u32 {a b:Int} (h:a≠b):Ne_ (.iface 101 (.int .u32 a)) (.iface 101 (.int .u32 b)):=fun W=>by
 have e:(Op.equal 20 (.iface 101 (.int .u32 a)) (.iface 101 (.int .u32 b))).run prog W = .ok (a == b) W:=by kernel_rfl
 rw [e,beq_eq_false_iff_ne.2 h]
theorem Ne_.of_u64 {a b:Int} (h:a≠b):Ne_ (.iface 22 (.int .u64 a)) (.iface 22 (.int .u64 b)):=fun W=>by
 have e:(Op.equal 20 (.iface 22 (.int .u64 a)) (.iface 22 (.int .u64 b))).run prog W = .ok (a == b) W:=by kernel_rfl
 rw [e,beq_eq_false_iff_ne.2 h]
theorem Ne_.of_i8 {a b:Int} (h:a≠b):Ne_ (.iface 102 (.int .i8 a)) (.iface 102 (.int .i8 b)):=fun W=>by
 have e:(Op.equal 20 (.iface 102 (.int .i8 a)) (.iface 102 (.int .i8 b))).run prog W = .ok (a == b) W:=by kernel_rfl
 rw [e,beq_eq_false_iff_ne.2 h]
theorem Ne_.of_i16 {a b:Int} (h:a≠b):Ne_ (.iface 103 (.int .i16 a)) (.iface 103 (.int .i16 b)):=fun W=>by
 have e:(Op.equal 20 (.iface 103 (.int .i16 a)) (.iface 103 (.int .i16 b))).run prog W = .ok (a == b) W:=by kernel_rfl
 rw [e,beq_eq_false_iff_ne.2 h]
theorem Ne_.of_i32 {a b:Int} (h:a≠b):Ne_ (.iface 21 (.int .i32 a)) (.iface 21 (.int .i32 b)):=fun W=>by
 have e:(Op.equal 20 (.iface 21 (.int .i32 a)) (.iface 21 (.int .i32 b))).run prog W = .ok (a == b) W:=by kernel_rfl
 rw [e,beq_eq_false_iff_ne.2 h]
theorem Ne_.of_i64 {a b:Int} (h:a≠b):Ne_ (.iface 2 (.int .i64 a)) (.iface 2 (.int .i64 b)):=fun W=>by
 have e:(Op.equal 20 (.iface 2 (.int .i64 a)) (.iface 2 (.int .i64 b))).run prog W = .ok (a == b) W:=by kernel_rfl
 rw [e,beq_eq_false_iff_ne.2 h]
theorem xqb (t:TypeId) (W:World) (x y:Value) (b:Bool) (h:(Op.equalIn 9999 t x y).run prog W = .ok b W) (hc:(prog.info? t).map (·.comparable)=some true):(Op.equal 20 (.iface t x) (.iface t y)).run prog W = .ok b W:=by
 obtain ⟨i,hi,hi2⟩:=Option.map_eq_some_iff.1 hc;unfold Op.equal Op.maxDepth;rw [show (10000:Nat)=9999+1 from rfl,Op.equalIn];simp [Sem.run_bind,run_underlying underlying20,Result.andThen_ok,typeInfo,hi,hi2,h]
theorem Ne_.of_time {a b c d:Int} (h:¬ (a=c/\b=d)):Ne_ (.iface 109 (.agg #[.int .i64 a,.int .i64 b])) (.iface 109 (.agg #[.int .i64 c,.int .i64 d])):=fun W=>by
 refine xqb _ _ _ _ _ ?_ (by kernel_rfl);rw [show (9999:Nat)=9998+1 from rfl];go_simp;exact fun h1 h2=>h ⟨h1,h2⟩
theorem xpM (cs:Array Value) (off:Nat) (v:Value) (W:World) (h:cs[off]? = some v):(part 5 cs off).run prog W = .ok v W:=by
 have ha:(isAgg 5).run prog W = .ok false W:=by kernel_rfl
 unfold part;simp only [Sem.run_bind,ha,Result.andThen_ok,Bool.false_eq_true,if_false,h]
 rfl
theorem xji (xs ys:Array Value) (f g:Nat->Int) (W:World):∀ is:List Nat,(∀ i ∈ is,xs[i]? = some (.int .u8 (f i))/\ys[i]? = some (.int .u8 (g i))) ->
  (Op.eqItems 9998 5 1 xs ys is).run prog W = .ok (is.all fun i=>f i == g i) W
 | [],_=>by simp [Op.eqItems]
 | i :: is,h=>by
  have h1:=h i (by simp);have ih:=xji xs ys f g W is (fun j hj=>h j (by simp [hj]));have e:(Op.equalIn 9998 5 (.int .u8 (f i)) (.int .u8 (g i))).run prog W = .ok (f i == g i) W:=by kernel_rfl
  simp only [Op.eqItems,Sem.run_bind,Nat.mul_one,xpM _ _ _ _ h1.1,xpM _ _ _ _ h1.2,Result.andThen_ok,e,List.all_cons];cases hb:(f i == g i)
  ·simp
  ·simp [ih]
theorem Ne_.of_uuid {a b:List UInt8} (ha:a.length=16) (hb:b.length=16) (h:a≠b):Ne_ (.iface 112 (uid a)) (.iface 112 (uid b)):=fun W=>by
 refine xqb _ _ _ _ _ ?_ (by kernel_rfl);obtain ⟨i8,hi8,_⟩:=info_parts xdQ;have hc:prog.cellsOf 5=1:=by kernel_rfl
 unfold uid;rw [show (9999:Nat)=9998+1 from rfl,run_equalIn_array W 9998 _ _ underlying112 hi8,hc]
 have e:=xji (a.map u8).toArray (b.map u8).toArray (fun i=>((a.getD i 0).toNat:Int)) (fun i=>((b.getD i 0).toNat:Int)) W (List.range 16) (by
  intro i hi;have hi:i < 16:=by simpa using hi
  constructor <;> simp [u8,ha,hb,hi,List.getD])
 have e2:((List.range 16).all fun i=>(((a.getD i 0).toNat:Int)) == (((b.getD i 0).toNat:Int)))=false:=by
  rw [List.all_eq_false];refine Classical.byContradiction fun hn=>h ?_
  apply List.ext_getElem?;intro i
  rcases Nat.lt_or_ge i 16 with hi | hi
  ·have hx:((a.getD i 0).toNat:Int)=((b.getD i 0).toNat:Int):=Classical.byContradiction fun hne=>hn ⟨i,by simpa using hi,by simpa using hne⟩
   have h1:a.getD i 0=b.getD i 0:=UInt8.toNat.inj (Int.ofNat.inj hx);simp only [List.getD,ge (show i < a.length by omega),ge (show i < b.length by omega),Option.getD_some] at h1;rw [ge (show i < a.length by omega),ge (show i < b.length by omega),h1]
  ·rw [List.getElem?_eq_none (by omega),List.getElem?_eq_none (by omega)]
 rw [e2] at e;exact e
end
section
open Go.ChangeMaps (setBlock)
def xbn (k:Int):Prop:=(1<=k/\k<=9)\/k=16\/k=17\/k=19
theorem xfM {a b:Int} (ha:0<=a/\a < 18446744073709551616) (hb:0<=b/\b < 18446744073709551616) (h:a≠b):sint a≠sint b:=by
 unfold sint;split <;> split <;> omega
theorem xpB {a b:Int} (ha:xbn a) (hb:xbn b) (h:a≠b):rtype a≠rtype b:=by
 have e:∀ k,xbn k->k=1\/k=2\/k=3\/k=4\/k=5\/k=6\/k=7\/k=8\/k=9\/k=16\/k=17\/k=19:=by intro k hk;unfold xbn at hk;omega
 rcases e a ha with rfl | rfl | rfl | rfl | rfl | rfl | rfl | rfl | rfl | rfl | rfl | rfl <;> rcases e b hb with rfl | rfl | rfl | rfl | rfl | rfl | rfl | rfl | rfl | rfl | rfl | rfl <;> first | exact absurd rfl h | decide
theorem xni {a b:ByteArray} (h:bytesOf a=bytesOf b):a=b:=by
 obtain ⟨a⟩:=a;obtain ⟨b⟩:=b;unfold bytesOf at h
 congr 1
 exact Array.toList_inj.1 h
theorem key_ne {a b:V} (ha:xbn a.kind) (hb:xbn b.kind) (ta:Tidy a) (tb:Tidy b) (da:a.desc=[]) (db:b.desc=[]) (h:¬ Same a b):Ne_ (.iface (rtype a.kind) (raw a)) (.iface (rtype b.kind) (raw b)):=by
 by_cases hk:a.kind=b.kind
 ·have ka:=ta.leaf (by unfold xbn at ha;omega);have kb:=tb.leaf (by unfold xbn at hb;omega);have hf:a.num=b.num->a.text=b.text->False:=fun h1 h2=>h (.of_fields hk h1 h2 ka kb da db)
  have e:∀ k,xbn k->k=1\/k=2\/k=3\/k=4\/k=5\/k=6\/k=7\/k=8\/k=9\/k=16\/k=17\/k=19:=by intro k hk;unfold xbn at hk;omega
  have hnum:a.kind < 17->a.num≠b.num:=fun hlt e=>hf e (by rw [ta.empty (.inl hlt),tb.empty (.inl (hk ▸ hlt))])
  have htext:17<=a.kind->a.text≠b.text:=fun hge e=>hf (by rw [ta.zero (.inr hge),tb.zero (.inr (hk ▸ hge))]) e
  have pa:=ta.pos;have pb:=tb.pos;unfold raw;rw [<- hk]
  rcases e _ ha with h0 | h0 | h0 | h0 | h0 | h0 | h0 | h0 | h0 | h0 | h0 | h0 <;> (rw [h0] at hnum htext ⊢;simp only [rtype,↓reduceIte,Int.reduceEq])
  ·have:=ta.flag h0;have:=tb.flag (hk ▸ h0);have:=hnum (by omega);refine Ne_.of_bool ?_;intro he;have he':a.num=0 ↔ b.num=0:=by simpa using he
   omega
  ·exact Ne_.of_u8 (hnum (by omega))
  ·exact Ne_.of_u16 (hnum (by omega))
  ·exact Ne_.of_u32 (hnum (by omega))
  ·exact Ne_.of_u64 (hnum (by omega))
  ·exact Ne_.of_i8 (xfM pa pb (hnum (by omega)))
  ·exact Ne_.of_i16 (xfM pa pb (hnum (by omega)))
  ·exact Ne_.of_i32 (xfM pa pb (hnum (by omega)))
  ·exact Ne_.of_i64 (xfM pa pb (hnum (by omega)))
  ·have:=xfM pa pb (hnum (by omega));unfold tm;exact Ne_.of_time (by omega)
  ·exact Ne_.of_uuid (by rw [bytesOf_length];exact ta.uuid h0) (by rw [bytesOf_length];exact tb.uuid (hk ▸ h0)) (fun e=>htext (by omega) (xni e))
  ·exact Ne_.of_string (htext (by omega))
 ·exact Ne_.types (xpB ha hb hk)
theorem xkJ {k:Int} (h:xbn k):rtype k ∈ xej:=by
 have e:k=1\/k=2\/k=3\/k=4\/k=5\/k=6\/k=7\/k=8\/k=9\/k=16\/k=17\/k=19:=by unfold xbn at h;omega
 rcases e with rfl | rfl | rfl | rfl | rfl | rfl | rfl | rfl | rfl | rfl | rfl | rfl <;> decide
def xeN (kt:TypeId) (key:Value) (es:List (Value × Value)):Prop :=
 ∀ arr:List MapEntry,arr.map (fun e=>(e.key,e.val))=es->∀ W,(Instr.findKey kt key arr).run prog W = .ok none W
theorem xeE (kt:TypeId) (key:Value) (W:World):∀ (arr:List MapEntry) (i:Nat),(∀ e ∈ arr,(Op.equal kt key e.key).run prog W = .ok false W)->(Instr.findAsking kt key arr i).run prog W = .ok none W
 | [],i,_=>by simp [Instr.findAsking]
 | e :: arr,i,h=>by
  have h1:=h e (by simp);have ih:=xeE kt key W arr (i+1) (fun x hx=>h x (by simp [hx]));simp only [Instr.findAsking,Sem.run_bind,h1,Result.andThen_ok,Bool.false_eq_true,if_false];exact ih
theorem xeN.any {key:Value} {es:List (Value × Value)} (h:∀ e ∈ es,Ne_ key e.1):xeN 20 key es:=by
 intro arr ha W;subst ha;have hfa:=xeE 20 key W arr 0 (fun e he=>h (e.key,e.val) (List.mem_map.2 ⟨e,he,rfl⟩) W);unfold Instr.findKey;simp only [Sem.run_bind,run_underlying underlying20,Result.andThen_ok]
 cases arr with
 | nil=>rfl
 | cons e arr=>simpa [Instr.findNow,Instr.sameNow] using hfa
theorem xfq (key:ByteArray):∀ (arr:List MapEntry) (i:Nat),(∀ e ∈ arr,∃ t,e.key = .string t/\t≠key)->Instr.findNow .string (.string key) arr i=some none
 | [],i,_=>rfl
 | e :: arr,i,h=>by
  obtain ⟨t,ht,hne⟩:=h e (by simp);have ih:=xfq key arr (i+1) (fun x hx=>h x (by simp [hx]));simp only [Instr.findNow,ht,Instr.sameNow,xkd (Ne.symm hne)];exact ih
theorem xeN.text {kt:TypeId} (hu:prog.underlying kt=some .string) {key:ByteArray} {es:List (Value × Value)} (h:∀ e ∈ es,∃ t,e.1 = .string t/\t≠key):xeN kt (.string key) es:=by
 intro arr ha W;subst ha;have hfn:=xfq key arr 0 (fun e he=>h (e.key,e.val) (List.mem_map.2 ⟨e,he,rfl⟩));unfold Instr.findKey;simp only [Sem.run_bind,run_underlying hu,Result.andThen_ok,hfn,Sem.run_pure]
theorem MapAt.put {w:World} {b:Nat} {es:List (Value × Value)} {t kt et:TypeId} {key val:Value} (h:MapAt w b es) (ht:prog.underlying t=some (.map kt et)) (hc:∀ W,(Instr.checkKey false 10000 kt key).run prog W = .ok () W) (hn:xeN kt key es) :
  ∃ w',(Instr.mapUpdate t (.map (some b)) key val).run prog w = .ok () w'/\MapAt w' b (es ++ [(key,val)])/\Kept (Only b) w w':=by
 obtain ⟨arr,clock,hb,he,hlt,hnd⟩:=h;have hf:=hn arr.toList he w;refine ⟨setBlock w b (.map (arr.push { key,val,born:=clock }) (clock+1)),?_,⟨arr.push { key,val,born:=clock },clock+1,ChangeMaps.heap_setBlock_same hb _,by simp [he],?_,?_⟩,?_⟩
 ·have hset:∀ o:Obj,(setObj b o).run prog w = .ok () (setBlock w b o):=fun o=>by simp [setObj,Sem.run,hb,setBlock]
  simp only [Instr.mapUpdate,Sem.run_bind,run_underlying ht,MapKept.run_getObj_map hb,hc,hf,hset,Result.andThen_ok]
 ·intro x hx;have hx':x ∈ arr\/x = { key,val,born:=clock }:=by simpa using hx
  rcases hx' with hx | hx
  ·have:=hlt x (by simpa using hx);omega
  ·subst hx;exact Nat.lt_succ_self _
 ·simp only [Array.toList_push,List.map_append,List.map_cons,List.map_nil];rw [List.nodup_append];refine ⟨hnd,by simp,fun a ha c hc => ?_⟩;obtain ⟨x,hx,rfl⟩:=List.mem_map.1 ha;simp at hc;subst hc;have:=hlt x hx;omega
 ·exact ⟨rfl,rfl,rfl,by simp [setBlock],fun k hk hne=>ChangeMaps.heap_setBlock_other hb _ (fun e=>hne e)⟩
theorem xbw {ops:Array Oper} {rest:List Oper} {o:Oper} {a:Act} {Q:Exit->Act->World->Prop} {w:World} (hg:o.guard=none) (m x v:Operand) (t:TypeId) (hop:o.op=Op.mapUpdate t m x v)
  {b:Nat} {es:List (Value × Value)} {kt et:TypeId} {key val:Value} (hm:a.eval m = .map (some b)) (hx:a.eval x=key) (hv:a.eval v=val) (h:MapAt w b es) (ht:prog.underlying t=some (.map kt et))
  (hc:∀ W,(Instr.checkKey false 10000 kt key).run prog W = .ok () W) (hn:xeN kt key es)
  (hK:∀ w',MapAt w' b (es ++ [(key,val)])->Kept (Only b) w w'->wpList prog ops Q rest (a.put o.dst undef) w'):wpList prog ops Q (o :: rest) a w:=by
 refine wpList_plain hg fun K hK' => ?_
 obtain ⟨w',hrun,h1,h2⟩:=h.put (val:=val) ht hc hn;unfold Oper.wp;simp [execOp,hop,hm,hx,hv,hrun,Result.andThen];exact hK' _ _ (hK w' h1 h2)
end
def ip (p:Int × Int):Value × Value:=(.int .i64 p.1,.int .i64 p.2)
def look (t:List (Int × Int)) (k:Int):Int:=((t.find? fun p=>k == p.1).map (·.2)).getD 0
theorem xfD (q:IntKind) (k:Int):∀ (t:List (Int × Int)) (arr:List MapEntry) (i:Nat),arr.map (fun e=>(e.key,e.val))=t.map ip ->
  ∃ r,Instr.findNow (.int q) (.int .i64 k) arr i=some r/\((t.find? fun p=>k == p.1)=none->r=none)/\(∀ p,(t.find? fun p=>k == p.1)=some p->∃ j,r=some (j,.int .i64 p.2))
 | [],arr,i,h=>by
  have:arr=[]:=by simpa using h
  subst this;exact ⟨none,rfl,fun _=>rfl,fun p hp=>by simp at hp⟩
 | p :: t,arr,i,h=>by
  cases arr with
  | nil=>simp at h
  | cons e arr =>
   simp only [List.map_cons,List.cons.injEq,Prod.mk.injEq,ip] at h;obtain ⟨⟨h1,h2⟩,h3⟩:=h;obtain ⟨r,hr,g1,g2⟩:=xfD q k t arr (i+1) h3
   by_cases hk:k=p.1
   ·refine ⟨some (i,e.val),?_,fun hn => ?_,fun p' hp => ?_⟩
    ·simp [Instr.findNow,h1,Instr.sameNow,hk]
    ·simp [hk] at hn
    ·have:p=p':=by simpa [List.find?_cons,hk] using hp
     subst this;exact ⟨i,by rw [h2]⟩
   ·refine ⟨r,?_,fun hn=>g1 (by simpa [List.find?_cons,hk] using hn),fun p' hp=>g2 p' (by simpa [List.find?_cons,hk] using hp)⟩;have hb:(k == p.1)=false:=by simpa using hk
    simp only [Instr.findNow,h1,Instr.sameNow,if_true,hb];exact hr
theorem xeN.int {k:Int} {t:List (Int × Int)} (h:∀ p ∈ t,p.1≠k):xeN 3 (.int .i64 k) (t.map ip):=by
 intro arr ha W;have hn:(t.find? fun p=>k == p.1)=none:=List.find?_eq_none.2 fun p hp=>by simpa using fun e=>h p hp (Eq.symm e)
 obtain ⟨r,hr,g1,_⟩:=xfD .i64 k t arr 0 ha;rw [g1 hn] at hr;unfold Instr.findKey;simp only [Sem.run_bind,run_underlying underlying3,Result.andThen_ok,hr,Sem.run_pure]
theorem xgc (b:Bool) (k:Int) (W:World):(Instr.checkKey b 10000 3 (.int .i64 k)).run prog W = .ok () W:=by cases b <;> kernel_rfl
theorem lookup_int {w:World} {b:Nat} {t:List (Int × Int)} (h:MapAt w b (t.map ip)) (k:Int):(Instr.lookup 290 (.map (some b)) (.int .i64 k) false).run prog w = .ok (.int .i64 (look t k)) w:=by
 obtain ⟨arr,clock,hb,he,_⟩:=h;obtain ⟨r,hr,g1,g2⟩:=xfD .i64 k t arr.toList 0 he
 have hfk:(Instr.findKey 3 (.int .i64 k) arr.toList).run prog w = .ok r w:=by
  unfold Instr.findKey;simp only [Sem.run_bind,run_underlying underlying3,Result.andThen_ok,hr,Sem.run_pure]
 unfold Instr.lookup;simp only [Sem.run_bind,run_underlying underlying290,Result.andThen_ok,MapKept.run_getObj_map hb,Sem.run_pure,xgc,hfk]
 cases hf:(t.find? fun p=>k == p.1) with
 | none =>
  rw [g1 hf];simp [look,hf]
 | some p =>
  obtain ⟨j,hj⟩:=g2 p hf;rw [hj];simp [look,hf]
def rem (l:Array Bool):Nat:=l.toList.countP (fun b => !b)
theorem xjj:∀ (l:List Bool) (i:Nat),l[i]? = some false->(l.set i true).countP (fun b => !b)+1=l.countP (fun b => !b)
 | [],i,h=>by simp at h
 | b :: l,0,h=>by
  have:b=false:=by simpa using h
  subst this;simp
 | b :: l,i+1,h=>by
  have ih:=xjj l i (by simpa using h);simp only [List.set_cons_succ,List.countP_cons];omega
theorem xpC {l:Array Bool} {i:Nat} (h:l.getD i true=false):rem (l.setIfInBounds i true)+1=rem l:=by
 obtain ⟨l⟩:=l;unfold rem
 have h1:l[i]? = some false:=by
  rw [Array.getD_eq_getD_getElem?] at h
  cases hx:l[i]? with
  | none=>simp [hx] at h
  | some b=>simp [hx] at h;rw [h]
 simpa using xjj l i h1
theorem xpr {P:Program} {md:Region.Mode} {ops:Array Oper} {Q:Exit->Act->World->Prop} (I:Array Bool->Act->World->Prop)
  (hstep:∀ l a w,I l a w->∀ i,i ∈ Region.ready md ops l->wpOp P ops Q i (fun a' w'=>I (l.setIfInBounds i true) a' w') a w)
  (hdone:∀ l a w,I l a w->Region.ready md ops l=[]->Q .normal a w):∀ (fuel:Nat) (l:Array Bool) (a:Act) (w:World),rem l<=fuel->I l a w->wpAny P md ops Q fuel l a w:=by
 intro fuel
 induction fuel with
 | zero =>
  intro l a w hl hI
  have hr:Region.ready md ops l=[]:=by
   cases h:Region.ready md ops l with
   | nil=>rfl
   | cons i r =>
    have hi:i ∈ Region.ready md ops l:=by rw [h];simp
    have:=xpC (mem_ready.1 hi).1;omega
  exact ⟨hr,hdone l a w hI hr⟩
 | succ fuel ih =>
  intro l a w hl hI;refine ⟨hdone l a w hI,fun i hi => ?_⟩;have h1:=xpC (mem_ready.1 hi).1;exact wpOp_mono (fun a' w' h=>ih _ a' w' (by omega) h) (hstep l a w hI i hi)
theorem wpOp_run {P:Program} {ops:Array Oper} {Q:Exit->Act->World->Prop} {K:Act->World->Prop} {i:Nat} {o:Oper} {a:Act} {w w':World} {v:Value} (ho:ops[i]? = some o) (hg:o.guard=none) (hrun:(execOp a.eval o).run P w = .ok (.value v) w') (hK:K (a.put o.dst v) w'):wpOp P ops Q i K a w:=by
 unfold wpOp;rw [ho];simp only [Region.wanted,hg,if_true]
 left
 unfold Oper.wp;rw [hrun];exact hK
section
def xeP (T:List (Int × Int)):Prop:=∀ (i j:Nat) (p q:Int × Int),T[i]? = some p->T[j]? = some q->p.1=q.1->i=j
theorem xpQ {T t:List (Int × Int)} (hT:xeP T) (h1:∀ p ∈ t,p ∈ T) (h2:∀ p ∈ T,p ∈ t) (k:Int):look t k=look T k:=by
 unfold look
 cases ht:t.find? (fun p=>k == p.1) with
 | none =>
  cases hT':T.find? (fun p=>k == p.1) with
  | none=>rfl
  | some p =>
   have h:=List.find?_eq_none.1 ht p (h2 p (List.mem_of_find?_eq_some hT'));have h':=List.find?_some hT';exact absurd h' h
 | some p =>
  have hp:=List.mem_of_find?_eq_some ht;have hpk:=List.find?_some ht
  cases hT':T.find? (fun p=>k == p.1) with
  | none=>exact absurd hpk (List.find?_eq_none.1 hT' p (h1 p hp))
  | some q =>
   have hq:=List.mem_of_find?_eq_some hT';have hqk:=List.find?_some hT';obtain ⟨i,hi⟩:=List.mem_iff_getElem?.1 (h1 p hp);obtain ⟨j,hj⟩:=List.mem_iff_getElem?.1 hq;have e1:k=p.1:=by simpa using hpk
   have e2:k=q.1:=by simpa using hqk
   have hij:=hT i j p q hi hj (e1.symm.trans e2);subst hij;rw [hi] at hj;cases hj
   rfl
theorem getD_set_eq {l:Array Bool} {i:Nat} {d:Bool} (h:i < l.size):(l.setIfInBounds i true).getD i d=true:=by
 rw [Array.getD_eq_getD_getElem?,Array.getElem?_setIfInBounds,if_pos rfl,if_pos h];rfl
theorem xaN {l:Array Bool} {i j:Nat} {d:Bool} (h:i≠j):(l.setIfInBounds i true).getD j d=l.getD j d:=by
 rw [Array.getD_eq_getD_getElem?,Array.getD_eq_getD_getElem?,Array.getElem?_setIfInBounds,if_neg h]
structure xgr (T:List (Int × Int)) (m b:Nat) (w0:World) (l:Array Bool) (a:Act) (w:World):Prop where
 hb:b=w0.heap.size
 no:l.getD 0 false=false->w=w0/\∀ j,j < T.length->l.getD (j+1) false=false
 yes:l.getD 0 false=true->a.tmps.getD m undef = .map (some b)/\Kept Nope w0 w/\∃ t:List (Int × Int),MapAt w b (t.map ip)/\(∀ p ∈ t,∃ j,l.getD (j+1) false=true/\T[j]? = some p)/\∀ (j:Nat) (p:Int × Int),T[j]? = some p->l.getD (j+1) false=true->p ∈ t
namespace xgr
variable {T:List (Int × Int)} {m b:Nat} {w0 w:World} {l:Array Bool} {a:Act}
theorem make {a':Act} (h:xgr T m b w0 l a w) (h0:l.getD 0 false=false) (hz:0 < l.size) (ha:a'.tmps.getD m undef = .map (some w.heap.size)):xgr T m b w0 (l.setIfInBounds 0 true) a' (w.alloc (.map #[] 0)):=by
 obtain ⟨rfl,hn⟩:=h.no h0;refine ⟨h.hb,fun hh=>(by rw [getD_set_eq hz] at hh;cases hh),fun _=>⟨by rw [ha,h.hb],(kR _ _).alloc _,[],h.hb ▸ MapAt.new _,fun p hp=>(by cases hp),fun j p hj hl => ?_⟩⟩;rw [xaN (by omega)] at hl;rw [hn j (gi.1 hj).1] at hl;cases hl
theorem ins {j:Nat} {p:Int × Int} (hT:xeP T) (h:xgr T m b w0 l a w) (h0:l.getD 0 false=true) (hj:T[j]? = some p) (hl:l.getD (j+1) false=false) (hz:j+1 < l.size) :
  ∃ w',(Instr.mapUpdate 290 (.map (some b)) (.int .i64 p.1) (.int .i64 p.2)).run prog w = .ok () w'/\xgr T m b w0 (l.setIfInBounds (j+1) true) a w':=by
 obtain ⟨hm,hk,t,ht,h1,h2⟩:=h.yes h0
 have hfresh:∀ q ∈ t,q.1≠p.1:=fun q hq e=>by
  obtain ⟨i,hi,hiT⟩:=h1 q hq;have:=hT i j q p hiT hj e;subst this;rw [hl] at hi;cases hi
 obtain ⟨w',hrun,hm',hk'⟩:=ht.put (val:=.int .i64 p.2) underlying290 (fun W=>xgc false p.1 W) (xeN.int hfresh);refine ⟨w',hrun,h.hb,fun hh => ?_,fun _=>⟨hm,hk.trans hk' (fun c hc e=>by have e':c=b:=e;have:=h.hb;omega),t ++ [p],by simpa [ip] using hm',fun q hq => ?_,fun i q hi hl' => ?_⟩⟩
 ·rw [xaN (by omega),h0] at hh;cases hh
 ·rcases List.mem_append.1 hq with hq | hq
  ·obtain ⟨i,hi,hiT⟩:=h1 q hq
   by_cases e:j=i
   ·subst e;exact ⟨j,getD_set_eq hz,hiT⟩
   ·exact ⟨i,by rw [xaN (by omega)];exact hi,hiT⟩
  ·rw [List.mem_singleton.1 hq];exact ⟨j,getD_set_eq hz,hj⟩
 ·by_cases e:j=i
  ·subst e;rw [hj] at hi;cases hi;simp
  ·rw [xaN (by omega)] at hl';exact List.mem_append.2 (.inl (h2 i q hi hl'))
theorem other {i:Nat} {a':Act} (h:xgr T m b w0 l a w) (hi:T.length < i) (ha:a'.tmps.getD m undef=a.tmps.getD m undef):xgr T m b w0 (l.setIfInBounds i true) a' w:=by
 refine ⟨h.hb,fun hh => ?_,fun hh => ?_⟩
 ·rw [xaN (by omega)] at hh;exact ⟨(h.no hh).1,fun j hj=>by rw [xaN (by omega)];exact (h.no hh).2 j hj⟩
 ·rw [xaN (by omega)] at hh;obtain ⟨hm,hk,t,ht,h1,h2⟩:=h.yes hh;refine ⟨ha.trans hm,hk,t,ht,fun p hp => ?_,fun j p hj hl => ?_⟩
  ·obtain ⟨j,hj,hjT⟩:=h1 p hp;exact ⟨j,by rw [xaN (by have:=(gi.1 hjT).1;omega)];exact hj,hjT⟩
  ·rw [xaN (by have:=(gi.1 hj).1;omega)] at hl;exact h2 j p hj hl
theorem full (hT:xeP T) (h:xgr T m b w0 l a w) (h0:l.getD 0 false=true) (hall:∀ j,j < T.length->l.getD (j+1) false=true) (k:Int):(Instr.lookup 290 (.map (some b)) (.int .i64 k) false).run prog w = .ok (.int .i64 (look T k)) w:=by
 obtain ⟨hm,hk,t,ht,h1,h2⟩:=h.yes h0
 rw [<- xpQ hT (fun p hp=>by obtain ⟨j,_,hj⟩:=h1 p hp;exact gm hj) (fun p hp=>by
  obtain ⟨j,hj⟩:=List.mem_iff_getElem?.1 hp
  exact h2 j p hj (hall j (gi.1 hj).1)) k]
 exact lookup_int ht k
end xgr
def xfI (F:List (Nat × Nat × Value)) (l:Array Bool) (a:Act):Prop:=∀ f ∈ F,l.getD f.1 false=true->a.tmps.getD f.2.1 undef=f.2.2
theorem xfI.step {F:List (Nat × Nat × Value)} {l:Array Bool} {a:Act} {i d:Nat} {v:Value} (h:xfI F l a) (hF:∀ f ∈ F,(f.1=i->f.2.1=d/\f.2.2=v)/\(f.1≠i->f.2.1≠d)) (hd:d < a.tmps.size):xfI F (l.setIfInBounds i true) (a.put (some d) v):=by
 intro f hf hl
 by_cases e:f.1=i
 ·obtain ⟨h1,h2⟩:=(hF f hf).1 e;rw [h1,h2];simp [Act.put,hd]
 ·rw [xaN (fun h=>e h.symm)] at hl;have hne:=(hF f hf).2 e;have h3:=h f hf hl;rw [<- h3];simp only [Act.put,Array.getD_eq_getD_getElem?];rw [Array.getElem?_setIfInBounds,if_neg (fun h=>hne h.symm)]
theorem xfI.none_ {F:List (Nat × Nat × Value)} {l:Array Bool} {a:Act} {i:Nat} (h:xfI F l a) (hF:∀ f ∈ F,f.1≠i):xfI F (l.setIfInBounds i true) a:=by
 intro f hf hl;rw [xaN (fun h=>hF f hf h.symm)] at hl;exact h f hf hl
end
end Go.Proofs.YtmdpodeegdjkeaaGreatDoor
