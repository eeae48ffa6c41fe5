/- FnReadSymbolMap, part 1 (texts RdK HdN LwK OpH UnA LsA Wk LsM KeysOf LwM). No conditions. -/
import Derived.Defers
import Derived.Recover
import Derived.Deep.RegionHeld3
import Derived.Deep.DrawnRows
import Derived.StillTailTactics
import Derived.Test.YtmdpodeegdjkeaaGreatDoorU22
import Derived.Test.YtmdpodeegdjkeaaGreatDoorU35
import Derived.Test.YtmdpodeegdjkeaaGreatDoorU36
import Derived.Test.YtmdpodeegdjkeaaGreatDoorU34
import Derived.Test.YtmdpodeegdjkeaaGreatDoorU25
import Derived.Test.YtmdpodeegdjkeaaGreatDoorU33
import Derived.Test.YtmdpodeegdjkeaaGreatDoorU23
import Derived.Test.YtmdpodeegdjkeaaGreatDoorU3
import Derived.Test.YtmdpodeegdjkeaaGreatDoorU27
import Derived.Test.YtmdpodeegdjkeaaGreatDoorES0
set_option maxRecDepth 100000
set_option maxHeartbeats 3200000
namespace Go.Proofs.YtmdpodeegdjkeaaGreatDoor
open Go Go.RowKit Go.Lib Tryz
def xmn (w:World) (K:Int) (u:V):Value->Value->World->Prop:=fun y b w'=>b = .bool true/\Kept Nope w w'/\∃ l',VSl (xaf w) w' y l'/\xao u (.mk K 0 ByteArray.empty l' 0 [])
def xdA (w:World) (K:Int) (u:V) (bh:List UInt8):Ending->World->Prop:=fun e w'=>∃ lx rx,e = .returned (.tuple #[lx,rx,.bool true])/\Kept Nope w w'/\(∃ l',VSl (xaf w) w' lx l'/\xao u (.mk K 0 ByteArray.empty l' 0 []))/\BSl (xaf w) w' rx bh
def xiN (w:World):Ending->World->Prop:=fun e w'=>e = .returned (.tuple #[.slice none 0 0,.slice none 0 0,.bool false])/\Kept Nope w w'
theorem xbq (a b c:Addr) (w:World):CallsD prog 40 #[.pointer (some a),.pointer (some b),.pointer (some c)] .returning w fun e u' w'=>e = .returned (.tuple #[])/\u' = .returning/\w'=w:=by
 refine callsD_of_wpS func40 rfl fun c₀ cs hu => ?_
 apply wpS_seq;apply wpS_region;simp [wpOpsS,go_sem,recoverD,hu,ntmps40,Exit.thenS];refine wpS_cond (t:=false) (by simp [Act.eval,Array.replicate]) ?_;simp only [Bool.false_eq_true,if_false];refine wpS_of_wp (wp_skip ?_);cases c₀
 simp_all [bodyPostS,results,results40]
structure Three (W:World) (P:Nat) (x y z:Value):Prop where
 b0:Blk W P 23 #[x]
 b1:Blk W (P+1) 26 #[y]
 b2:Blk W (P+1+1) 4 #[z]
def xcw (P:Nat) (b:Nat):Prop:=P<=b/\b < P+3
namespace Three
variable {W W':World} {P:Nat} {x y z:Value}
theorem keep (h:Three W P x y z) (hk:Kept Nope W W'):Three W' P x y z:=⟨h.b0.kept hk (fun h=>h),h.b1.kept hk (fun h=>h),h.b2.kept hk (fun h=>h)⟩
theorem keepO {r:Nat} (h:Three W P x y z) (hk:Kept (Only r) W W') (hr:P+3<=r):Three W' P x y z :=
 ⟨h.b0.kept hk (fun e=>by have e':P=r:=e;omega),h.b1.kept hk (fun e=>by have e':P+1=r:=e;omega),h.b2.kept hk (fun e=>by have e':P+1+1=r:=e;omega)⟩
theorem set0 (h:Three W P x y z) (u:Value):Three (W.setCell ⟨P,0,none⟩ u) P u y z :=
 ⟨by simpa using h.b0.set_ 0 u,h.b1.far (show P+1≠P by omega) u,h.b2.far (show P+1+1≠P by omega) u⟩
theorem set1 (h:Three W P x y z) (u:Value):Three (W.setCell ⟨P+1,0,none⟩ u) P x u z :=
 ⟨h.b0.far (show P≠P+1 by omega) u,by simpa using h.b1.set_ 0 u,h.b2.far (show P+1+1≠P+1 by omega) u⟩
theorem set2 (h:Three W P x y z) (u:Value):Three (W.setCell ⟨P+1+1,0,none⟩ u) P x y u :=
 ⟨h.b0.far (show P≠P+1+1 by omega) u,h.b1.far (show P+1≠P+1+1 by omega) u,by simpa using h.b2.set_ 0 u⟩
theorem store02 (h:Three W P x y z) (u v:Value):Three ((W.setCell ⟨P,0,none⟩ u).setCell ⟨P+1+1,0,none⟩ v) P u y v:=(h.set0 u).set2 v
theorem drew (h:Three W P x y z):Three W.drew P x y z:=h.keep ((kR Nope W).drew)
theorem drewN (h:Three W P x y z) (k:Nat):Three (W.drewN k) P x y z:=h.keep ((kR Nope W).drewN k)
theorem cell0 (h:Three W P x y z):W.cell? ⟨P,0,none⟩=some x:=h.b0.cell 0
end Three
theorem xcR (w:World) (P:Nat) (u v:Value):Kept (xcw P) w ((w.setCell ⟨P,0,none⟩ u).setCell ⟨P+1+1,0,none⟩ v) :=
 ((kR _ w).setCell (p:=⟨P,0,none⟩) (.inl (show P<=P/\P < P+3 by omega)) u).setCell (p:=⟨P+1+1,0,none⟩) (.inl (show P<=P+1+1/\P+1+1 < P+3 by omega)) v
theorem xbr (w:World) (P:Nat) (u v x:Value):Kept (xcw P) w (((w.setCell ⟨P,0,none⟩ u).setCell ⟨P+1,0,none⟩ v).setCell ⟨P+1+1,0,none⟩ x) :=
 (((kR _ w).setCell (p:=⟨P,0,none⟩) (.inl (show P<=P/\P < P+3 by omega)) u).setCell (p:=⟨P+1,0,none⟩) (.inl (show P<=P+1/\P+1 < P+3 by omega)) v).setCell (p:=⟨P+1+1,0,none⟩) (.inl (show P<=P+1+1/\P+1+1 < P+3 by omega)) x
theorem xco (w:World) (P:Nat) (hP:w.heap.size=P) (W:World) (hW:((w.alloc (.cells #[.slice none 0 0] 23)).alloc (.cells #[.slice none 0 0] 26)).alloc (.cells #[.bool false] 4)=W) :
  Kept Nope w W/\W.heap.size=P+3/\Three W P (.slice none 0 0) (.slice none 0 0) (.bool false)/\w.heap.size=P:=by
 subst hW;have h0:=Blk.new w 23 #[.slice none 0 0];have h1:=Blk.new (w.alloc (.cells #[.slice none 0 0] 23)) 26 #[.slice none 0 0];have h2:=Blk.new ((w.alloc (.cells #[.slice none 0 0] 23)).alloc (.cells #[.slice none 0 0] 26)) 4 #[.bool false];rw [World.size_alloc,hP] at h1;rw [World.size_alloc,World.size_alloc,hP] at h2;rw [hP] at h0;refine ⟨(((kR Nope w).alloc _).alloc _).alloc _,by rw [World.size_alloc,World.size_alloc,World.size_alloc,hP],⟨(h0.alloc _).alloc _,h1.alloc _,h2⟩,hP⟩
theorem Buf.keepQ {M:Nat->Prop} {w w':World} {r:Nat} {s:Value} {D:List UInt8} {i:Nat} (h:Buf w r s D i) (hk:Kept M w w') (hr:¬ M r) (hb:BSl (fun b=>b≠r/\¬ M b) w s D) (he:¬ M 0):Buf w' r s D i:=by
 obtain ⟨v,hv,hc⟩:=h.eof;exact ⟨h.blk.kept hk hr,(hb.keep hk (fun b _ hb e=>hb.2 e)).mono fun _ _ hb=>hb.1,h.le,h.small,⟨v,hv,hk.cell hc he⟩,h.ne⟩
theorem xfo {fn:Func} {a b c:Tmp} {t1 t2 t3:TypeId} (h:fn.results = #[.cell a t1,.cell b t2,.cell c t3]) (tmps:Array Value) (P:Program) (w:World) {p1 p2 p3:Addr} {x1 x2 x3:Value}
  (h1:tmps.getD a undef = .pointer (some p1)) (h2:tmps.getD b undef = .pointer (some p2)) (h3:tmps.getD c undef = .pointer (some p3))
  (l1:(loadVar t1 p1).run P w = .ok x1 w) (l2:(loadVar t2 p2).run P w = .ok x2 w) (l3:(loadVar t3 p3).run P w = .ok x3 w) :
  (results fn tmps).run P w = .ok (.tuple #[x1,x2,x3]) w:=by
 simp only [results,h];simp only [Array.getD_eq_getD_getElem?] at h1 h2 h3;simp [Sem.run_bind,Result.andThen,h1,h2,h3,asAddr,l1,l2,l3]
theorem ret3 (fn:Func) (hf:fn.results = #[.cell 2 23,.cell 3 26,.cell 4 4]) (w':World) (R:Ending->World->Prop) (tmps:Array Value) (P:Nat) (x y z:Value) (h2:tmps.getD 2 undef = .pointer (some ⟨P,0,none⟩)) (h3:tmps.getD 3 undef = .pointer (some ⟨P+1,0,none⟩)) (h4:tmps.getD 4 undef = .pointer (some ⟨P+1+1,0,none⟩))
  (hq:Three w' P x y z) (hR:R (.returned (.tuple #[x,y,z])) w'):Leaves prog fn tmps R [] .returning w':=by
 have c1:=hq.b0.cell 0;have c2:=hq.b1.cell 0;have c3:=hq.b2.cell 0;simp only [gt,gz] at c1 c2 c3
 have l1:(loadVar 23 ⟨P,0,none⟩).run prog w' = .ok x w':=by
  simp [loadVar,c1,go_sem]
 have l2:(loadVar 26 ⟨P+1,0,none⟩).run prog w' = .ok y w':=by
  simp [loadVar,c2,go_sem]
 have l3:(loadVar 4 ⟨P+1+1,0,none⟩).run prog w' = .ok z w':=by
  simp [loadVar,c3,go_sem]
 exact ⟨_,xfo hf tmps prog w' h2 h3 h4 l1 l2 l3,hR⟩
theorem xfW {c x:Nat} (h:c < 256) (hx:x < 256) (hn:c≠x):UInt8.ofNat c≠UInt8.ofNat x:=fun e=>by
 have:=congrArg UInt8.toNat e;simp at this;omega
def LCode (c:UInt8):Prop:=(c≠69/\c≠192/\c≠208)/\c≠193/\c≠209
theorem xbR {c:Nat} (h:c < 256) (h1:c≠69/\c≠192/\c≠208/\c≠193/\c≠209):LCode (UInt8.ofNat c) :=
 ⟨⟨xfW h (x:=69) (by omega) h1.1,xfW h (x:=192) (by omega) h1.2.1,xfW h (x:=208) (by omega) h1.2.2.1⟩,xfW h (x:=193) (by omega) h1.2.2.2.1,xfW h (x:=209) (by omega) h1.2.2.2.2⟩
theorem Form.code {v:V} {c:Nat} {p:List UInt8} (h:Form v c p) :
  (v.kind=21/\((c=69/\p=[]/\v.kids=[])\/(c=192/\∃ d,EncL v.kids d/\d.length+1 < 256/\p=be 1 (d.length+1) ++ be 1 v.kids.length ++ d)\/(c=208/\∃ d,EncL v.kids d/\p=be 4 (d.length+4) ++ be 4 v.kids.length ++ d))) \/
  (v.kind=22/\((c=193/\∃ d,EncL v.kids d/\d.length+1 < 256/\p=be 1 (d.length+1) ++ be 1 v.kids.length ++ d)\/(c=209/\∃ d,EncL v.kids d/\p=be 4 (d.length+4) ++ be 4 v.kids.length ++ d))) \/
  (v.kind≠21/\v.kind≠22/\LCode (UInt8.ofNat c)):=by
 cases h with
 | null h=>exact .inr (.inr ⟨by omega,by omega,xbR (by decide) (by decide)⟩)
 | flag h=>exact .inr (.inr ⟨by omega,by omega,xbR (by omega) (by omega)⟩)
 | bool h=>exact .inr (.inr ⟨by omega,by omega,xbR (by decide) (by decide)⟩)
 | full h =>
  have h2:v.kind=2\/v.kind=3\/v.kind=4\/v.kind=5\/v.kind=6\/v.kind=7\/v.kind=8\/v.kind=9\/v.kind=10\/v.kind=11\/v.kind=12\/v.kind=13\/v.kind=15\/v.kind=16:=by unfold xay at h;omega
  refine .inr (.inr ⟨by omega,by omega,?_⟩)
  rcases h2 with e | e | e | e | e | e | e | e | e | e | e | e | e | e <;> rw [e] <;> exact xbR (by decide) (by decide)
 | uint0 h=>exact .inr (.inr ⟨by omega,by omega,xbR (by decide) (by decide)⟩)
 | ulong0 h=>exact .inr (.inr ⟨by omega,by omega,xbR (by decide) (by decide)⟩)
 | uint1 h=>exact .inr (.inr ⟨by omega,by omega,xbR (by decide) (by decide)⟩)
 | ulong1 h=>exact .inr (.inr ⟨by omega,by omega,xbR (by decide) (by decide)⟩)
 | int1 h=>exact .inr (.inr ⟨by omega,by omega,xbR (by decide) (by decide)⟩)
 | long1 h=>exact .inr (.inr ⟨by omega,by omega,xbR (by decide) (by decide)⟩)
 | wide h =>
  refine .inr (.inr ⟨by omega,by omega,?_⟩)
  rcases h with e | e <;> rw [e] <;> exact xbR (by decide) (by decide)
 | text1 h =>
  refine .inr (.inr ⟨by omega,by omega,?_⟩)
  rcases h with e | e | e <;> rw [e] <;> exact xbR (by decide) (by decide)
 | text4 h =>
  refine .inr (.inr ⟨by omega,by omega,?_⟩)
  rcases h with e | e | e <;> rw [e] <;> exact xbR (by decide) (by decide)
 | list0 h hk=>exact .inl ⟨h,.inl ⟨rfl,rfl,hk⟩⟩
 | @kids1 _ d h hE hn hd =>
  rcases h with h | h
  ·exact .inl ⟨h,.inr (.inl ⟨by rw [h];rfl,d,hE,hd,rfl⟩)⟩
  ·exact .inr (.inl ⟨h,.inl ⟨by rw [h];rfl,d,hE,hd,rfl⟩⟩)
 | @kids4 _ d h hE =>
  rcases h with h | h
  ·exact .inl ⟨h,.inr (.inr ⟨by rw [h];rfl,d,hE,rfl⟩)⟩
  ·exact .inr (.inl ⟨h,.inr ⟨by rw [h];rfl,d,hE,rfl⟩⟩)
 | array1 h=>exact .inr (.inr ⟨by omega,by omega,xbR (by decide) (by decide)⟩)
 | array4 h=>exact .inr (.inr ⟨by omega,by omega,xbR (by decide) (by decide)⟩)
def xbY (k:Int) (v:V) (D:List UInt8):Prop:=∃ bs,Enc v bs/\v.desc=[]/\bs.length < 4294967296/\((∃ m,m < bs.length/\D=bs.take m)\/(v.kind≠k/\∃ bh,D=bs ++ bh))
section
variable (r:Nat) (s:Value) (D:List UInt8) (w:World)
theorem xaP {bs:List UInt8} {m j:Nat} {x:UInt8} (h:bs[j]? = some x) (hj:j < m):(bs.take m)[j]? = some x:=by rw [List.getElem?_take,if_pos hj];exact h
theorem xfB {v:V} (hR:xbY 21 v D) (h:Buf w r s D 0):Calls prog 104 #[.pointer (some ⟨r,0,none⟩)] w (Fails w r):=by
 obtain ⟨bs,hE,hd,hlen,hc⟩:=hR
 cases hE with
 | desc h1 _ _=>rw [hd] at h1;cases h1
 | @plain _ c p _ hF =>
  rcases hc with ⟨m,hm,rfl⟩ | ⟨hk,bh,rfl⟩
  ·simp only [lC] at hm hlen
   match m,hm,h with
   | 0,_,h=>exact xfz r s _ 0 w h (Nat.le_refl _)
   | m+1,hm,h =>
    have hhead:((UInt8.ofNat c :: p).take (m+1))[0]? = some (UInt8.ofNat c):=rfl;have hl:((UInt8.ofNat c :: p).take (m+1)).length=m+1:=by rw [List.length_take,lC];omega
    rcases hF.code with ⟨h21,⟨_,rfl,_⟩ | ⟨rfl,d,_,hd1,rfl⟩ | ⟨rfl,d,_,rfl⟩⟩ | ⟨h22,hx⟩ | ⟨_,_,hA⟩
    ·simp at hm
    ·have hp:(be 1 (d.length+1) ++ be 1 v.kids.length ++ d).length=2+d.length:=by simp;omega
     rcases Nat.lt_or_ge (m+1) 3 with h3 | h3
     ·exact xez r s _ 0 w h hhead (by rw [hl];omega)
     ·have h0:(UInt8.ofNat ((d.length+1) % 256)).toNat=d.length+1:=by simp;omega
      exact xfk r s _ 0 w (UInt8.ofNat ((d.length+1) % 256)) (UInt8.ofNat (v.kids.length % 256)) h hhead (xaP (by simp [be1]) (by omega)) (xaP (by simp [be1]) (by omega)) (by rw [hl,h0];omega)
    ·have hp:(be 4 (d.length+4) ++ be 4 v.kids.length ++ d).length=8+d.length:=by simp;omega
     have hN:Lib.beNat (be 4 (d.length+4))=d.length+4:=by rw [xcT];omega
     rcases Nat.lt_or_ge (m+1) 9 with h3 | h3
     ·exact xey r s _ 0 w h hhead (by rw [hl];omega)
     ·exact xfj r s _ 0 w _ _ _ _ _ _ _ _ h hhead ⟨xaP rfl (by omega),xaP rfl (by omega),xaP rfl (by omega),xaP rfl (by omega),xaP rfl (by omega),xaP rfl (by omega),xaP rfl (by omega),xaP rfl (by omega)⟩
       (by rw [hl];show m+1 < 0+5+Lib.beNat (be 4 (d.length+4));omega)
    ·refine xcm r s _ 0 w _ h hhead ?_
     rcases hx with ⟨rfl,_⟩ | ⟨rfl,_⟩ <;> decide
    ·exact xcm r s _ 0 w _ h hhead hA.1
  ·refine xcm r s _ 0 w (UInt8.ofNat c) h rfl ?_
   rcases hF.code with ⟨h21,_⟩ | ⟨_,⟨rfl,_⟩ | ⟨rfl,_⟩⟩ | ⟨_,_,hA⟩
   ·exact absurd h21 hk
   ·decide
   ·decide
   ·exact hA.1
theorem xdl {v:V} (hR:xbY 22 v D) (h:Buf w r s D 0):Calls prog 100 #[.pointer (some ⟨r,0,none⟩)] w (Fails w r):=by
 obtain ⟨bs,hE,hd,hlen,hc⟩:=hR
 cases hE with
 | desc h1 _ _=>rw [hd] at h1;cases h1
 | @plain _ c p _ hF =>
  rcases hc with ⟨m,hm,rfl⟩ | ⟨hk,bh,rfl⟩
  ·simp only [lC] at hm hlen
   match m,hm,h with
   | 0,_,h=>exact xfP r s _ 0 w h (Nat.le_refl _)
   | m+1,hm,h =>
    have hhead:((UInt8.ofNat c :: p).take (m+1))[0]? = some (UInt8.ofNat c):=rfl;have hl:((UInt8.ofNat c :: p).take (m+1)).length=m+1:=by rw [List.length_take,lC];omega
    rcases hF.code with ⟨h21,hx⟩ | ⟨h22,⟨rfl,d,_,hd1,rfl⟩ | ⟨rfl,d,_,rfl⟩⟩ | ⟨_,_,hA⟩
    ·refine xcu r s _ 0 w _ h hhead ?_
     rcases hx with ⟨rfl,_⟩ | ⟨rfl,_⟩ | ⟨rfl,_⟩ <;> decide
    ·have hp:(be 1 (d.length+1) ++ be 1 v.kids.length ++ d).length=2+d.length:=by simp;omega
     refine xfv r s _ 0 w h hhead fun W hW => ?_
     rcases Nat.lt_or_ge (m+1) 3 with h3 | h3
     ·exact xfx r s _ 1 W hW (by rw [hl];omega)
     ·have h0:(UInt8.ofNat ((d.length+1) % 256)).toNat=d.length+1:=by simp;omega
      exact xfR r s _ 1 W (UInt8.ofNat ((d.length+1) % 256)) (UInt8.ofNat (v.kids.length % 256)) hW (xaP (by simp [be1]) (by omega)) (xaP (by simp [be1]) (by omega)) (by rw [hl,h0];omega)
    ·have hp:(be 4 (d.length+4) ++ be 4 v.kids.length ++ d).length=8+d.length:=by simp;omega
     have hN:Lib.beNat (be 4 (d.length+4))=d.length+4:=by rw [xcT];omega
     refine xfh r s _ 0 w h hhead fun W hW => ?_
     rcases Nat.lt_or_ge (m+1) 9 with h3 | h3
     ·exact xfi r s _ 1 W hW (by rw [hl];omega)
     ·exact xfy r s _ 1 W _ _ _ _ _ _ _ _ hW ⟨xaP rfl (by omega),xaP rfl (by omega),xaP rfl (by omega),xaP rfl (by omega),xaP rfl (by omega),xaP rfl (by omega),xaP rfl (by omega),xaP rfl (by omega)⟩
       (by rw [hl];show m+1 < 1+4+Lib.beNat (be 4 (d.length+4));omega)
    ·exact xcu r s _ 0 w _ h hhead hA.2
  ·refine xcu r s _ 0 w (UInt8.ofNat c) h rfl ?_
   rcases hF.code with ⟨_,⟨rfl,_⟩ | ⟨rfl,_⟩ | ⟨rfl,_⟩⟩ | ⟨h22,_⟩ | ⟨_,_,hA⟩
   ·decide
   ·decide
   ·decide
   ·exact absurd h22 hk
   ·exact hA.2
end
structure xiq (W:World) (x:Value) (t:V) (st cut:Int) (xb:Value) (bs:List UInt8):Prop where
 form:∃ a0 a1 a2 a3 a4 a5,x = .agg #[a0,a1,a2,a3,a4,a5,.int .u64 st,xb,.int .i64 cut]/\VAgg Any_ W (.agg #[a0,a1,a2,a3,a4,a5]) t
 state:0<=st/\st<=18446744073709551615
 cut_:-9223372036854775808<=cut/\cut<=9223372036854775807
 bytes:BSl Any_ W xb bs
def Given (w':World) (v:V) (bh:List UInt8) (x y:Value) (c:Bool):Prop :=
 Fits v/\v.count<=2000/\v.desc=[]/\bh.length<=100/\∃ bs D,Enc v bs/\BSl Any_ w' x D/\((c=true/\∃ m,m < bs.length/\D=bs.take m)\/(c=false/\D=bs ++ bh/\BSl Any_ w' y bh))
theorem xnX.one {w w':World} {v:V} {bh:List UInt8} {e:Ending} (h:xnX w v bh e w'):Kept Nope w w'/\((∃ x y c,e = .returned (.tuple #[x,y,.bool c,.bool false]))\/∃ x y c,e = .returned (.tuple #[x,y,.bool c,.bool true])/\Given w' v bh x y c):=by
 obtain ⟨hk,h | ⟨hf,hc,hd,hb,bs,hE,⟨x,k,he,hl,hx⟩ | ⟨x,y,he,hx,hy⟩⟩⟩:=h
 ·exact ⟨hk,.inl h⟩
 ·exact ⟨hk,.inr ⟨_,_,_,he,hf,hc,hd,hb,bs,_,hE,hx,.inl ⟨rfl,k,hl,rfl⟩⟩⟩
 ·exact ⟨hk,.inr ⟨_,_,_,he,hf,hc,hd,hb,bs,_,hE,hx,.inr ⟨rfl,rfl,hy⟩⟩⟩
theorem xfa {v:V} {bs:List UInt8} (hf:Fits v) (hc:v.count<=2000) (hE:Enc v bs):bs.length<=1000000000:=by
 have h0:=hE.len;have h1:=room_le _ v (Nat.le_refl _) hf;omega
theorem xds {v:V} (hn:Nums v) (ha:Askd v) (hy:xip v):Good v:=good_of _ _ (Nat.le_refl _) hn ha.fits ha.say hy
theorem xeU {v:V} (ha:Askd v):Utf (asRead v):=(utf_of _ _ (Nat.le_refl _) ha.fits).2
theorem xeZ (w:World) (T:TypeId) (bs:List UInt8) (hl:bs.length<=1000):BSl Any_ (w.alloc (.cells (bs.map u8).toArray T)) (.slice (some ⟨w.heap.size,0,none⟩) bs.length bs.length) bs :=
 ⟨some ⟨w.heap.size,0,none⟩,bs.length,rfl,Nat.le_refl _,by unfold maxLen;omega,.inr ⟨w.heap.size,0,rfl,trivial,fun j x hx=>by
  rw [(Blk.new w T (bs.map u8).toArray).cell,Nat.zero_add,gt,gM,hx];rfl⟩⟩
theorem xeC {S:Nat->Prop} {W:World} {y:Value} {l:List V} (K:Int) (hK:0<=K/\K<=30) (h:VSl S W y l):VAgg S W (.agg #[.int .i64 K,.int .u64 0,.string ⟨#[]⟩,y,.int .i64 0,.slice none 0 0]) (.mk K 0 ByteArray.empty l 0 []) :=
 ⟨y,.slice none 0 0,rfl,⟨⟨by simp only [V.kind_mk];omega,by simp only [V.kind_mk];omega⟩,by simp,by simp [maxLen],by simp⟩,h,.nil _ _ (Nat.zero_le _)⟩
def xdf:V:=.mk 1 1 ⟨#[]⟩ [] 0 []
theorem xhY:Good xdf:=by
 refine .mk ⟨by decide,fun _=>by decide,?_,?_,?_,?_,?_,?_,fun h => ?_,fun _=>rfl,?_,by decide,by decide,fun _=>rfl,.inl (by decide)⟩ rfl (fun _ h=>by cases h) (fun h => ?_) (fun h => ?_)
 all_goals simp only [xdf,V.kind_mk] at *
 all_goals (first | omega | (intro h;omega))
theorem utf_true:Utf (asRead xdf):=by
 rw [xbj];exact .mk (fun h=>by simp only [xdf,V.kind_mk] at h;omega) (fun k h=>by cases h)
theorem xly:prog.cellsOf 39=9:=by kernel_rfl
theorem xig:prog.cellsOf 26=1:=by kernel_rfl
section
variable {H:Type} {enc:TypeId × Value->H} {W:World} {sp:Nat->Bool}
theorem xkc {fuel:Nat} {s:Value} {x:DataW H × List MemPlace} (h:DataW.trod enc prog W 0 sp true fuel 26 [s]=some x):∃ bs:List UInt8,BSl Any_ W s bs:=by
 rcases DataW.trod_slice underlying26 h with ⟨hcs,_⟩ | ⟨a,len,cap,elems,rest,m,rfl,hcs,_,_,hl,hm,hlen,hel,_,_⟩
 ·obtain rfl:=(List.cons.inj hcs).1;exact ⟨[],.nil none 0 (Nat.zero_le _)⟩
 ·obtain rfl:=(List.cons.inj hcs).1
  have hall:∀ i,i < len->∃ z:UInt8,W.cell? (a.add i)=some (u8 z):=fun i hi=>by
   have h1:=hel i hi;rw [ge (by omega),xoq,Nat.mul_one] at h1;obtain ⟨cs,h2,h3⟩:=Option.bind_eq_some_iff.1 h1;obtain ⟨n,rfl,_,hw⟩:=DataW.trod_int underlying5 h3;have h4:=(World.cells?_some h2).2.2 0 (by decide);have h5:=wf_u8_le hw;refine ⟨UInt8.ofNat n.toNat,?_⟩;rw [show (a.add i).add 0=a.add i by simp [Addr.add]] at h4;rw [h4];simp only [gz,u8]
   congr 2
   simp only [UInt8.toNat_ofNat'];omega
  obtain ⟨f,hf⟩:=Go.Deep.choose_lt hall
  rcases Nat.eq_zero_or_pos len with rfl | hpos
  ·exact ⟨[],.nil _ _ hm⟩
  ·obtain ⟨b,off,spot⟩:=a;have hspot:spot=none:=by simpa [Addr.add] using World.cell?_spot (hf 0 hpos)
   subst hspot;have hlen':((List.range len).map f).length=len:=by simp
   refine ⟨(List.range len).map f,some ⟨b,off,none⟩,cap,by rw [hlen'],by rw [hlen'];exact hl,hm,.inr ⟨b,off,rfl,trivial,fun j x hj => ?_⟩⟩
   have hj':j < len:=by
    have:=(gi.1 hj).1;rwa [hlen'] at this
   rw [gM,List.getElem?_range hj'] at hj;obtain rfl:=Option.some.inj hj;have:=hf j hj';rwa [Addr.add_lit] at this
theorem open_Handed {base:Nat} {v:Value} {d:DataW H} {p:List MemPlace} (hval:Value.okWide prog W .any base 39 v) (h:DataW.Trod enc prog W 0 sp true 39 v d p):∃ t st cut xb bs,xiq W v t st cut xb bs:=by
 unfold Value.okWide at hval;rw [underlying39] at hval;obtain ⟨cs,rfl,_⟩:=hval;obtain ⟨fuel,hf⟩:=h;obtain ⟨xs,n,rfl,_,hl,hlen,hf⟩:=DataW.trod_struct underlying39 hf;rw [xly] at hl;obtain ⟨cs⟩:=cs;simp only [Value.cells] at hl hf
 match cs,hl with
 | [c0,c1,c2,c3,c4,c5,c6,c7,c8],_ =>
  match xs,hlen with
  | [y0,y1,y2,y3],_ =>
   have f0:DataW.trod enc prog W 0 sp true n 25 [c0,c1,c2,c3,c4,c5]=some y0:=by
    have h:=hf 0 _ rfl
    simpa [xdW] using h
   have f1:DataW.trod enc prog W 0 sp true n 22 [c6]=some y1:=by
    have h:=hf 1 _ rfl
    simpa [xgd,xdW] using h
   have f2:DataW.trod enc prog W 0 sp true n 26 [c7]=some y2:=by
    have h:=hf 2 _ rfl
    simpa [xgd,xdW,xig] using h
   have f3:DataW.trod enc prog W 0 sp true n 3 [c8]=some y3:=by
    have h:=hf 3 _ rfl
    simpa [xgd,xdW,xig,xif] using h
   obtain ⟨q,e0,q1,q2,q3⟩:=xhM _ _ _ f0;obtain ⟨st,e1,_,w1⟩:=DataW.trod_int underlying22 f1;obtain ⟨bs,hb⟩:=xkc f2;obtain ⟨cut,e3,_,w3⟩:=DataW.trod_int underlying3 f3;obtain rfl:=(List.cons.inj e1).1;obtain rfl:=(List.cons.inj e3).1;simp only [List.cons.injEq,and_true] at e0;obtain ⟨rfl,rfl,rfl,rfl,rfl,rfl⟩:=e0;exact ⟨q.1,st,cut,c7,bs,⟨_,_,_,_,_,_,rfl,_,_,rfl,q1,q2,q3⟩,wf_u64_le w1,xhI w3,hb⟩
end
section
variable (r:Nat) (s:Value) (D:List UInt8)
structure xqJ (r:Nat) (s:Value) (D:List UInt8) (v:V) (bs:List UInt8) (j0:Nat) (ps:List (List UInt8)):Prop where
 head:∀ W,Buf W r s D 0->Calls prog 100 #[.pointer (some ⟨r,0,none⟩)] W fun e W'=>e = .returned (.tuple #[.int .u32 (2*((v.kids.length / 2:Nat):Int)),.nilIface])/\At_ W W' r s D (place j0 ps 0)
 even:v.kids.length=2*(v.kids.length / 2)
 few:v.kids.length / 2<=32768
 num:ps.length=v.kids.length
 enc:∀ (k:Nat) (u:V) (p:List UInt8),v.kids[k]? = some u->ps[k]? = some p->Enc u p
 lies:Lies D j0 ps.flatten
 end_:place j0 ps (2*(v.kids.length / 2))=bs.length
theorem xhG {v:V} {bs:List UInt8} (hg:Good v) (h22:v.kind=22) (hD:D.length < 4294967296) (hE:Enc v bs) (hL:Lies D 0 bs):∃ (j0:Nat) (ps:List (List UInt8)),xqJ r s D v bs j0 ps:=by
 have hfew:=hg.tidy.few;have hlen:=hL.len (Nat.zero_le _);have hev:v.kids.length % 2=0:=by cases hg with | mk _ _ _ hm _=>exact (hm h22).1
 have hm:((v.kids.length:Nat):Int)=2*((v.kids.length / 2:Nat):Int):=by omega
 cases hE with
 | desc h1 _ _=>rw [hg.desc] at h1;cases h1
 | @plain _ c q _ hF =>
  simp only [lC] at hlen ⊢
  rcases hF.code with ⟨h21,_⟩ | ⟨_,⟨rfl,d,hE,hd,rfl⟩ | ⟨rfl,d,hE,rfl⟩⟩ | ⟨_,h,_⟩
  ·omega
  ·have hl3:Lies D 3 d:=by have:=hL.tail.right;simpa using this
   have hq:(be 1 (d.length+1) ++ be 1 v.kids.length ++ d).length+1=3+d.length:=by simp;omega
   have hcnt:=hE.count_le;obtain ⟨ps,h1,h2,h3⟩:=hE.pieces;refine ⟨3,ps,fun W hW => ?_,by omega,by omega,h1,h3,h2 ▸ hl3,?_⟩
   ·rw [xcI,<- hm];exact mapHead1 W r s D 0 _ d hcnt hd hW hL
   ·rw [show 2*(v.kids.length / 2)=ps.length by omega,xdV,<- h2];simp only [lC];omega
  ·have hl9:Lies D 9 d:=by have:=hL.tail.right;simpa using this
   have hq:(be 4 (d.length+4) ++ be 4 v.kids.length ++ d).length+1=9+d.length:=by simp;omega
   have hcnt:=hE.count_le;obtain ⟨ps,h1,h2,h3⟩:=hE.pieces;refine ⟨9,ps,fun W hW => ?_,by omega,by omega,h1,h3,h2 ▸ hl9,?_⟩
   ·rw [xcI,<- hm];exact mapHead4 W r s D 0 _ d hcnt (by omega) (by omega) hW hL
   ·rw [show 2*(v.kids.length / 2)=ps.length by omega,xdV,<- h2];simp only [lC];omega
  ·exact absurd h22 h
theorem text_read (W:World) (i:Nat) (u:V) (p:List UInt8) (hg:Good u) (hk:u.kind=19\/u.kind=20) (hE:Enc u p) (h:Buf W r s D i) (hl:Lies D i p) :
  Calls prog 107 #[.pointer (some ⟨r,0,none⟩)] W fun e W'=>e = .returned (.tuple #[.string u.text,.nilIface])/\At_ W W' r s D (i+p.length):=by
 have hx:u.text.size < 4294967296:=by have:=hg.tidy.size;omega
 cases hE with
 | desc h1 _ _=>rw [hg.desc] at h1;cases h1
 | @plain _ c q _ hF =>
  cases hF with
  | text1 _ hs =>
   have hlen:(UInt8.ofNat (xiz u.kind) :: (be 1 u.text.size ++ bytesOf u.text)).length=2+u.text.size:=by simp [bytesOf_length];omega
   rw [hlen,<- Nat.add_assoc]
   rcases hk with h0 | h0 <;> rw [h0] at hl
   ·exact xjF W r s D i 161 (.inl rfl) u.text hs h hl
   ·exact xjF W r s D i 163 (.inr rfl) u.text hs h hl
  | text4 _ =>
   have hlen:(UInt8.ofNat (xaU u.kind) :: (be 4 u.text.size ++ bytesOf u.text)).length=5+u.text.size:=by simp [bytesOf_length];omega
   rw [hlen,<- Nat.add_assoc]
   rcases hk with h0 | h0 <;> rw [h0] at hl
   ·exact str4_ok W r s D i 177 (.inl rfl) u.text hx h hl
   ·exact str4_ok W r s D i 179 (.inr rfl) u.text hx h hl
  | full h=>unfold xay at h;omega
  | _=>omega
theorem xkK {v:V} {bs:List UInt8} {j0:Nat} {ps:List (List UInt8)} (hg:Good v) (hD:D.length < 4294967296) (H:xqJ r s D v bs j0 ps) (hk:∀ (i:Nat) (k:V),v.kids[2*i]? = some k->k.kind=19\/k.kind=20):xql r s D (v.kids.map asRead) (place j0 ps):=by
 have hI:∀ k ∈ v.kids,IH r s D k:=fun k hk=>xfO r s D hD _ k (Nat.le_refl _) (hg.kid hk)
 refine ⟨fun k u hu W hW => ?_,fun k u hu W hW=>xfN r s D hI H.num H.enc H.lies _ u hu W hW⟩;rw [gM] at hu;obtain ⟨x,hx,rfl⟩:=Option.map_eq_some_iff.1 hu;have hlt:=(gi.1 hx).1;have hp:ps[2*k]? = some (ps[2*k]'(by have:=H.num;omega)):=ge _;have:=text_read r s D W _ x _ (hg.kid (gm hx)) (hk k x hx) (H.enc _ x _ hx hp) hW (H.lies.piece hp);rw [xeX j0 ps (2*k) _ hp,xaS];exact this
theorem xgw {v:V} (hg:Good v) (h22:v.kind=22) (hk:∀ (i:Nat) (k:V),v.kids[2*i]? = some k->k.kind=19\/k.kind=20):xkm (v.kids.map asRead):=by
 refine ⟨fun i j u u' hij hu hu' ht => ?_⟩;rw [gM] at hu hu';obtain ⟨x,hx,rfl⟩:=Option.map_eq_some_iff.1 hu;obtain ⟨y,hy,rfl⟩:=Option.map_eq_some_iff.1 hu';have gx:=hg.kid (gm hx);have gy:=hg.kid (gm hy);have kx:(asRead x).kind=19:=by rw [xaw];rcases hk i x hx with h | h <;> simp [h]
 have ky:(asRead y).kind=19:=by rw [xaw];rcases hk j y hy with h | h <;> simp [h]
 have tx:=gx.tidy.asRead;have ty:=gy.tidy.asRead;have hs:Same (asRead x) (asRead y):=Same.of_fields (kx.trans ky.symm) ((tx.zero (by omega)).trans (ty.zero (by omega)).symm) ht (tx.leaf (by omega)) (ty.leaf (by omega)) (by rw [xbu];exact gx.desc) (by rw [xbu];exact gy.desc)
 cases hg with
 | mk _ _ _ hm _=>exact (hm h22).2.2 i j x y hij hx hy hs
theorem mapSymUn_all (w0 W:World) (p i0:Nat) (t:TypeId) (v:V) (bs:List UInt8) (hg:Good v) (h22:v.kind=22) (hk:∀ (i:Nat) (k:V),v.kids[2*i]? = some k->k.kind=19\/k.kind=20) (hD:D.length < 4294967296) (hE:Enc v bs) (hL:Lies D 0 bs) (h0:Buf w0 r s D i0) (hA:At_ w0 W r s D 0) (hp:w0.heap.size<=p) (hc:Blk W p t #[.map none]) :
  Calls prog 48 #[.pointer (some ⟨p,0,none⟩),.pointer (some ⟨r,0,none⟩)] W (Gives fun e w'=>e = .nilIface/\xgm w0 r s D bs.length p t (v.kids.map asRead) (v.kids.length / 2) w'):=by
 obtain ⟨j0,ps,H⟩:=xhG r s D hg h22 hD hE hL;have:=xmW w0 W r s D i0 p t (v.kids.map asRead) (v.kids.length / 2) (place j0 ps) 0 h0 hA hp hc H.head (by rw [lM];exact H.even) H.few (xkK r s D hg hD H hk) (xgw hg h22 hk);rwa [H.end_] at this
end
theorem xoM (bs bh:List UInt8):Lies (bs ++ bh) 0 bs:=fun k x hk=>by
 rw [Nat.zero_add,List.getElem?_append_left (gi.1 hk).1];exact hk
theorem xjR {v:V} (hg:Good v) (hu:Utf (asRead v)) (h23:v.kind≠23):∀ k ∈ v.kids.map asRead,xkk k:=fun k hk=>by
 obtain ⟨x,hx,rfl⟩:=List.mem_map.1 hk;refine xiQ _ x (Nat.le_refl _) (hg.kid hx) ?_
 cases hu with
 | mk _ h=>exact h _ (by rw [xbi,if_neg h23];exact hk)
def mix (l:List V) (k:Nat):List V:=l.mapIdx fun i x=>if i % 2=0/\i < 2*k then x else asRead x
theorem mix_zero (l:List V):mix l 0=l.map asRead:=by
 apply List.ext_getElem?;intro i;unfold mix;rw [List.getElem?_mapIdx,gM];simp
theorem xgM (l:List V) (k:Nat):(mix l k).length=l.length:=by simp [mix]
theorem mix_succ {l:List V} {k:Nat} {x:V} (hx:l[2*k]? = some x):mix l (k+1)=(mix l k).set (2*k) x:=by
 have hlt:=(gi.1 hx).1;apply List.ext_getElem?;intro i;rw [List.getElem?_set];unfold mix;rw [List.getElem?_mapIdx,List.getElem?_mapIdx,List.length_mapIdx]
 by_cases hi:2*k=i
 ·subst hi;rw [if_pos rfl,if_pos hlt,hx,Option.map_some,if_pos (by omega)]
 ·rw [if_neg hi]
  cases h:l[i]? with
  | none=>rfl
  | some y =>
   simp only [Option.map_some]
   by_cases h1:i % 2=0/\i < 2*k
   ·rw [if_pos h1,if_pos (by omega)]
   ·rw [if_neg h1,if_neg (by omega)]
def xcJ (v:V):V:=.mk (asRead v).kind v.num v.text (mix v.kids v.kids.length) v.of_ v.desc
theorem own_set6 {w:World} {base:Nat} {e:TypeId} {g cap n:Nat} {la:List Lay} {i:Nat} {a:Lay} {c0 c1 c2 c3 c4 c5:Value} (hn:n=la.length) (h:w.ownsRow base e 6 (.slice (some ⟨g,0,none⟩) n cap) la.length (la.flatMap Lay.cells)) (hi:i < la.length) (ha:a.cells=[c0,c1,c2,c3,c4,c5]) :
    ((((((w.setCell ⟨g,i*6,none⟩ c0).setCell ⟨g,i*6+1,none⟩ c1).setCell ⟨g,i*6+2,none⟩ c2).setCell ⟨g,i*6+3,none⟩ c3).setCell ⟨g,i*6+4,none⟩ c4).setCell ⟨g,i*6+5,none⟩ c5).ownsRow base e 6 (.slice (some ⟨g,0,none⟩) n cap) (la.set i a).length ((la.set i a).flatMap Lay.cells):=by
  subst hn;obtain ⟨_,h⟩:=h
  rcases h with ⟨h0,_⟩ | ⟨g',cap',cur,h0,hb,hg,hnc,hm,hsz,hcur⟩
  . cases h0
  . injection h0 with h1 _ h2
    injection h1 with h1
    injection h1 with h1
    subst h1 h2;have hB:Blk w g e cur:=hg;have hB':=(((((hB.set_ (i*6) c0).set_ (i*6+1) c1).set_ (i*6+2) c2).set_ (i*6+3) c3).set_ (i*6+4) c4).set_ (i*6+5) c5;refine ⟨by rw [xcg],.inr ⟨g,cap,_,by rw [List.length_set],hb,hB',by rw [List.length_set];exact hnc,hm,by simpa using hsz,?_⟩⟩;rw [List.length_set];apply List.ext_getElem?;intro j;have hlen:(la.flatMap Lay.cells).length=la.length*6:=xcg la
    rcases Nat.lt_or_ge j (la.length*6) with hj | hj
    . obtain ⟨q,m,rfl,hm6⟩:∃ q m,j=q*6+m/\m < 6:=⟨j / 6,j % 6,by omega,by omega⟩
      have hq:q < la.length:=by omega
      have h1:(la.flatMap Lay.cells)[q*6+m]? = cur[q*6+m]? := by
        rw [<- hcur,List.getElem?_take,if_pos (by omega),Array.getElem?_toList]
      rw [List.getElem?_take,if_pos hj,Array.getElem?_toList]
      by_cases hqi:q=i
      . subst hqi
        have h2:(la.set q a)[q]? = some a:=by rw [List.getElem?_set,if_pos rfl,if_pos hq]
        rw [xdt h2 m hm6,ha];have hs:la.length*6<=cur.size:=by rw [hsz];exact Nat.mul_le_mul_right 6 hnc
        rcases (show m=0\/m=1\/m=2\/m=3\/m=4\/m=5 by omega) with rfl | rfl | rfl | rfl | rfl | rfl <;> simp [Array.getElem?_setIfInBounds] <;> omega
      . have h2:(la.set i a)[q]? = some la[q]:=by rw [List.getElem?_set,if_neg (fun e=>hqi e.symm),ge hq]
        rw [xdt h2 m hm6,<- xdt (ge hq) m hm6,h1];simp only [Array.getElem?_setIfInBounds,Array.size_setIfInBounds];rw [if_neg (by omega),if_neg (by omega),if_neg (by omega),if_neg (by omega),if_neg (by omega),if_neg (by omega)]
    . rw [List.getElem?_take,if_neg (by omega),List.getElem?_eq_none]
      rw [xcg,List.length_set];exact hj
structure WRow (R:Nat) (w:World) (base:Nat) (v:V) (ks:Value) (k:Nat) (la:List Lay) (w':World):Prop where
 kept:Kept (fun b=>ks.ownBlock=some b) w w'
 own:w'.ownsRow base 25 6 ks la.length (la.flatMap Lay.cells)
 kids:la.map Lay.v=mix v.kids k
 ok:∀ a ∈ la,a.Ok (fun b=>ks.ownBlock≠some b/\b≠R) w'
theorem WRow.len {R:Nat} {w:World} {base:Nat} {v:V} {ks:Value} {k:Nat} {la:List Lay} {w':World} (h:WRow R w base v ks k la w'):la.length=v.kids.length:=by
 have:=congrArg List.length h.kids;rwa [lM,xgM] at this
theorem WRow.row {R:Nat} {w:World} {base:Nat} {v:V} {p:Option Addr} {n c:Nat} {k:Nat} {la:List Lay} {w':World} (h:WRow R w base v (.slice p n c) k la w') (hn:0 < v.kids.length):∃ g cur,p=some ⟨g,0,none⟩/\base<=g/\Blk w' g 25 cur/\v.kids.length*6<=cur.size:=by
 have hl:=h.len
 rcases h.own.2 with ⟨_,h0⟩ | ⟨g,cap,cur,h0,hb,hg,hnc,_,hsz,_⟩
 ·omega
 ·injection h0 with h1
  exact ⟨g,cur,h1,hb,hg,by rw [hsz];exact Nat.mul_le_mul_right 6 (hl ▸ hnc)⟩
theorem Blk.some_ {w:World} {g:Nat} {t:TypeId} {cs:Array Value} (h:Blk w g t cs) {j:Nat} (hj:j < cs.size):∃ u,w.cell? ⟨g,j,none⟩=some u:=⟨_,(h.cell j).trans (Array.getElem?_eq_getElem hj)⟩
theorem WRow.drew {R:Nat} {w:World} {base:Nat} {v:V} {ks:Value} {k:Nat} {la:List Lay} {w':World} (h:WRow R w base v ks k la w'):WRow R w base v ks k la w'.drew :=
 ⟨h.kept.drew,xaB h.own ((kR Nope w').drew) (fun _ _ h=>h),h.kids,fun a ha=>(h.ok a ha).keep ((kR Nope w').drew) (fun _ _ _ h=>h)⟩
theorem six_sets (w:World) (g m:Nat) (c0 c1 c2 c3 c4 c5:Value):Kept (Only g) w ((((((w.setCell ⟨g,m,none⟩ c0).setCell ⟨g,m+1,none⟩ c1).setCell ⟨g,m+2,none⟩ c2).setCell ⟨g,m+3,none⟩ c3).setCell ⟨g,m+4,none⟩ c4).setCell ⟨g,m+5,none⟩ c5) :=
 ((((((kR (Only g) w).set1 m c0).set1 (m+1) c1).set1 (m+2) c2).set1 (m+3) c3).set1 (m+4) c4).set1 (m+5) c5
theorem WRow.step {R:Nat} {w:World} {base:Nat} {v:V} {g n c:Nat} {k:Nat} {la:List Lay} {w':World} {x:V} {kx dx:Value} (h:WRow R w base v (.slice (some ⟨g,0,none⟩) n c) k la w') (hn:n=la.length) (hx:v.kids[2*k]? = some x) (hok:(Lay.mk x kx dx).Ok (fun b=>b≠g/\b≠R) w') :
  WRow R w base v (.slice (some ⟨g,0,none⟩) n c) (k+1) (la.set (2*k) (Lay.mk x kx dx)) ((((((w'.setCell ⟨g,2*k*6,none⟩ (.int .i64 x.kind)).setCell ⟨g,2*k*6+1,none⟩ (.int .u64 x.num)).setCell ⟨g,2*k*6+2,none⟩ (.string x.text)).setCell ⟨g,2*k*6+3,none⟩ kx).setCell ⟨g,2*k*6+4,none⟩ (.int .i64 x.of_)).setCell ⟨g,2*k*6+5,none⟩ dx):=by
 have hlt:=(gi.1 hx).1;have hk:=six_sets w' g (2*k*6) (.int .i64 x.kind) (.int .u64 x.num) (.string x.text) kx (.int .i64 x.of_) dx;have hM:∀ b,(Value.slice (some ⟨g,0,none⟩) n c).ownBlock≠some b->b≠g:=fun b hb e=>hb (by rw [e];rfl)
 refine ⟨h.kept.trans hk fun b _ e => ?_,own_set6 hn h.own (by rw [h.len];exact hlt) rfl,?_,fun a ha => ?_⟩
 ·have e':b=g:=e;rw [e'];rfl
 ·rw [List.map_set,h.kids,mix_succ hx]
 ·have hok':a.Ok (fun b=>(Value.slice (some ⟨g,0,none⟩) n c).ownBlock≠some b/\b≠R) w':=by
   rcases List.mem_or_eq_of_mem_set ha with ha | rfl
   ·exact h.ok a ha
   ·exact hok.mono fun b _ hb=>⟨fun e=>hb.1 (Option.some.inj (show some g=some b from e)).symm,hb.2⟩
  exact hok'.keep hk fun b _ hb e=>hM b hb.1 e
theorem mix_all {l:List V} {k:Nat} (h:l.length<=2*k):mix l k=mix l l.length:=by
 apply List.ext_getElem?;intro i;unfold mix;rw [List.getElem?_mapIdx,List.getElem?_mapIdx]
 cases hi:l[i]? with
 | none=>rfl
 | some y =>
  have hlt:=(gi.1 hi).1;simp only [Option.map_some]
  by_cases h1:i % 2=0
  ·rw [if_pos ⟨h1,by omega⟩,if_pos ⟨h1,by omega⟩]
  ·rw [if_neg (by omega),if_neg (by omega)]
theorem xft (v:V) (h22:v.kind=22) (hf:Few v) (w:World) (xa:Value) (ha:VAgg Any_ w xa v) (hn:v.kids.length<=1000):Calls prog 25 #[xa] w (Gives fun y w'=>VAgg Any_ w' y (xcJ v)/\Kept Nope w w'):=by
  have HA:=hid ha;obtain ⟨ka,da,rfl,hna,hka,hda⟩:=ha;obtain ⟨p1,c1,rfl,q1,m1⟩:=hka.form;obtain ⟨p2,c2,rfl,q2,m2⟩:=hda.form;have HV:=hid (aI hka (aI hda (aI hna hf)));clear hna hka hda q1 m1 q2 m2 hf;unfold vagg at HA ⊢;obtain ⟨n,hnl⟩:∃ m,v.kids.length=m:=⟨_,rfl⟩
  rw [hnl] at hn HA HV ⊢;have HL:=hid hnl;have H22:=hid h22;clear hnl h22;go_enter func25,ntmps25;go_wp2_with fail;obtain ⟨A,hA⟩:∃ A,w.heap.size=A:=⟨_,rfl⟩
  obtain ⟨W2,hW2⟩:∃ W2,(w.alloc (.cells #[.int .i64 v.kind,.int .u64 v.num,.string v.text,.slice p1 n c1,.int .i64 v.of_,.slice p2 v.desc.length c2] 25)).alloc (.cells zVal 25)=W2:=⟨_,rfl⟩
  have hB:=Blk.two w #[.int .i64 v.kind,.int .u64 v.num,.string v.text,.slice p1 n c1,.int .i64 v.of_,.slice p2 v.desc.length c2] zVal 25;have hsz:W2.heap.size=A+2:=by rw [<- hW2,World.size_alloc,World.size_alloc,hA]
  rw [hW2,hA] at hB;unfold zVal at hW2;rw [hW2]
  (try rw [hA])
  have HB:=hid (aI hB.1 (aI hB.2.1 (aI hB.2.2 (aI hsz hA))));clear hB hsz hW2 hA;have hu2:(prog.info? 25).map (fun i=>i.size)=some 6:=by kernel_rfl
  have HU:=hid hu2;clear hu2;refine (xju (fun b=>b < A) _ v (Nat.le_refl _) HV.out.2.2.2 W2 _ ((HA.out.mono (S':=fun b=>b < A) fun b hb _=>by have:=HB.out.2.2.2.2;omega).keep HB.out.2.2.1 (fun _ _ _ h=>h)) (fun b hb=>by have h1:b < A:=hb;have:=HB.out.2.2.2.1;omega)).mono ?_;rintro e w1 ⟨y,rfl,ks,ds,la,rfl,hp⟩;obtain ⟨dsp,dsc,rfl,_⟩:=hp.desc.form;obtain ⟨ksp,ksc,rfl⟩:=xab hp.own;have HP:=hid hp
  have hla:la.length=n:=by
    have h1:=congrArg List.length HP.out.kids;have h2:v.kind≠23:=by rw [H22.out];decide
    rwa [lM,xbi,if_neg h2,lM,HL.out] at h1
  rw [hla] at HP ⊢;have HLA:=hid hla;clear hp hla;unfold vagg
  go_wp2_with (first
    | (refine xbl rfl 25 (.tmp 3) (.tmp 6) rfl w1.heap.size #[.int .i64 (asRead v).kind,.int .u64 (asRead v).num,.string (asRead v).text,.slice ksp n ksc,.int .i64 (asRead v).of_,.slice dsp v.desc.length dsc] rfl rfl 25 zVal (Blk.new w1 25 zVal) (by rw [HU.out];rfl) rfl (by simp [Value.oneCell']) ?_
       intro W3 hW3 hK3;have H3:=hid (aI hW3 hK3)
       clear hW3 hK3))
  have h3:WRow (A+1) W3 W2.heap.size v (.slice ksp n ksc) 0 la W3:=by
    have hka:=(kR Nope w1).alloc (.cells #[.int .i64 0,.int .u64 0,.string ⟨#[]⟩,.slice none 0 0,.int .i64 0,.slice none 0 0] 25)
    have hne:∀ b,(Value.slice ksp n ksc).ownBlock=some b->¬ Only w1.heap.size b:=fun b hb e=>by
      have h1:=(HP.out.own.lt b hb).2;have e':b=w1.heap.size:=e;omega
    refine ⟨kR _ _,xaB (xaB HP.out.own hka (fun _ _ h=>h)) H3.out.2 hne,by rw [mix_zero,HP.out.kids,xbi,if_neg (by rw [H22.out];decide)],fun a ha => ?_⟩;have h4:=HP.out.ok a ha;have h5:a.Ok (fun b=>((Value.slice ksp n ksc).ownBlock≠some b/\b≠A+1)/\b < w1.heap.size) w1:=h4.mono fun b hb hS=>⟨⟨hS.2,by have h6:b < A\/W2.heap.size<=b:=hS.1;have:=HB.out.2.2.2.1;omega⟩,hb⟩
    exact ((h5.keep hka (fun _ _ _ h=>h)).keep H3.out.2 fun b _ hb e=>by have e':b=w1.heap.size:=e;have:=hb.2;omega).mono fun b _ hb=>hb.1
  have HI:=hid h3;clear h3
  have hC:Blk W3 A 25 #[.int .i64 v.kind,.int .u64 v.num,.string v.text,.slice p1 n c1,.int .i64 v.of_,.slice p2 v.desc.length c2]/\Blk W3 (A+1) 25 zVal:=by
    have hka:=(kR Nope w1).alloc (.cells #[.int .i64 0,.int .u64 0,.string ⟨#[]⟩,.slice none 0 0,.int .i64 0,.slice none 0 0] 25);have hsz:=HP.out.kept.size;have hs2:=HB.out.2.2.2.1;exact ⟨((HB.out.1.kept HP.out.kept (fun h=>h)).kept hka (fun h=>h)).kept H3.out.2 (fun e=>by have e':A=w1.heap.size:=e;omega),((HB.out.2.1.kept HP.out.kept (fun h=>h)).kept hka (fun h=>h)).kept H3.out.2 (fun e=>by have e':A+1=w1.heap.size:=e;omega)⟩
  have HC:=hid hC;clear hC;have hkW:Kept Nope w W3:=(HB.out.2.2.1.trans' HP.out.kept).trans' ((((kR Nope w1).alloc _).trans H3.out.2 (fun k hk e=>by have e':k=w1.heap.size:=e;omega)));have HKW:=hid hkW;clear hkW;obtain ⟨Q,hQ⟩:∃ Q,w1.heap.size=Q:=⟨_,rfl⟩
  have HQ:=hid (aI (hQ ▸ H3.out.1) (show ∀ b,(Value.slice ksp n ksc).ownBlock=some b->A+2<=b/\b < Q from fun b hb=>⟨by have h1:=(HP.out.own.lt b hb).1;have h2:=HB.out.2.2.2.1;omega,by have h1:=(HP.out.own.lt b hb).2;omega⟩));rw [hQ];have HDS:=hid (aI HP.out.desc H3.out.2);clear hQ H3 HU
  go_loopw [4] (fun c w'=>∃ (k:Nat) (la':List Lay),2*k<=n+1/\c = .int .i64 (2*(k:Int))/\Hid (WRow (A+1) W3 W2.heap.size v (.slice ksp n ksc) k la' w')) (fun c _=>n+1 - (RowKit.intOf c).toNat)
  case atStart=>exact ⟨0,la,by omega,rfl,HI⟩
  case round =>
    obtain ⟨k,la',hk,rfl,HR⟩:=hrel;clear HI;have bb:=HC.out.1.kept HR.out.kept (fun e=>by have:=(HQ.out.2 A e).1;omega);have cc:=HQ.out.1.kept HR.out.kept (fun e=>by have:=(HQ.out.2 Q e).2;omega);have rr:=HC.out.2.kept HR.out.kept (fun e=>by have:=(HQ.out.2 (A+1) e).1;omega);have HBB:=hid (aI bb (aI cc rr));have b3:=bb.cell 3;have d3:=cc.cell 3;simp only [gt,gz,gs] at b3 d3;clear bb cc rr
    by_cases hkn:2*k < n
    . have hkn':2*(k:Int) < (n:Int):=by omega
      have hk0:(0:Int)<=2*(k:Int):=by omega
      have e1:IntKind.i64.wrap (2*(k:Int)+2)=2*(k:Int)+2:=IntWalk.i64_in _ (by omega);have t1:(2*(k:Int)).toNat=2*k:=by omega
      obtain ⟨x,hx⟩:∃ u,v.kids[2*k]? = some u:=⟨v.kids[2*k]'(by rw [HL.out];exact hkn),ge _⟩
      have hkr:Kept (fun b=>(Value.slice ksp n ksc).ownBlock=some b) w wr:=HKW.out.nope.trans' HR.out.kept;obtain ⟨b2,off2,cap2,pk,ck,pd,cd,q2,hvx,y0,y1,y2,y3,y4,y5⟩:=(((HV.out.1.mono (S':=fun b=>b < w.heap.size) fun b hb _=>hb).keep hkr (fun b _ hb e=>by have h1:=(HQ.out.2 b e).1;have h2:=HB.out.2.2.2.2;omega))).sixS hx;injection q2 with q2 qq q2'
      clear qq;subst q2 q2';obtain ⟨g,cur,hg,hbg,hB,hcs⟩:=HR.out.row (by rw [HL.out];omega);rw [HL.out] at hcs;obtain ⟨o0,x0⟩:=hB.some_ (j:=2*k*6) (by omega);obtain ⟨o1,x1⟩:=hB.some_ (j:=2*k*6+1) (by omega);obtain ⟨o2,x2⟩:=hB.some_ (j:=2*k*6+2) (by omega);obtain ⟨o3,x3⟩:=hB.some_ (j:=2*k*6+3) (by omega);obtain ⟨o4,x4⟩:=hB.some_ (j:=2*k*6+4) (by omega);obtain ⟨o5,x5⟩:=hB.some_ (j:=2*k*6+5) (by omega);subst hg;have z0:=hB.frozen (2*k*6);have z1:=hB.frozen (2*k*6+1);have z2:=hB.frozen (2*k*6+2);have z3:=hB.frozen (2*k*6+3);have z4:=hB.frozen (2*k*6+4);have z5:=hB.frozen (2*k*6+5);have HX:=hid (aI hx (aI hvx hbg));clear hx hvx hkr hB hcs;go_wp2_with fail;refine wp_region_tail 9 (by kernel_rfl) (by kernel_rfl) (fun K hK => ?_);simp only [List.take_succ_cons,List.take_zero,List.drop_succ_cons,List.drop_zero] at hK ⊢
      repeat still_step
      refine wpStill_nil (hK _ ?_);clear hK K;go_wp2_with fail
      have hok:(Lay.mk x (.slice pk x.kids.length ck) (.slice pd x.desc.length cd)).Ok (fun b=>b≠g/\b≠A+1) wr:=(Lay.ofV HX.out.2.1).mono fun b _ hb=>by
        have h1:b < w.heap.size:=hb;have h2:=HX.out.2.2;have h3:=HB.out.2.2.2;exact ⟨by omega,by omega⟩
      have hst:=(HR.out.step (by rw [HR.out.len,HL.out]) HX.out.1 hok).drew;exact ⟨⟨k+1,_,by omega,by go_num,hid hst⟩,by simp [RowKit.intOf];omega⟩
    . have hlt:¬ 2*(k:Int) < (n:Int):=by omega
      have cc:=HBB.out.2.1;have rr:=HBB.out.2.2;unfold zVal at rr;have d0:=cc.cell 0;have d1:=cc.cell 1;have d2:=cc.cell 2;have d4:=cc.cell 4;have d5:=cc.cell 5;have r0:=rr.cell 0;have r1:=rr.cell 1;have r2:=rr.cell 2;have r3:=rr.cell 3;have r4:=rr.cell 4;have r5:=rr.cell 5;have g0:=rr.frozen 0;have g1:=rr.frozen 1;have g2:=rr.frozen 2;have g3:=rr.frozen 3;have g4:=rr.frozen 4;have g5:=rr.frozen 5;simp only [gt,gz,gs] at d0 d1 d2 d4 d5 r0 r1 r2 r3 r4 r5;have HRR:=hid rr;clear cc rr;go_wp2;have hB2:=(((((HRR.out.set_ 0 (.int .i64 (asRead v).kind)).set_ 1 (.int .u64 (asRead v).num)).set_ 2 (.string (asRead v).text)).set_ 3 (.slice ksp n ksc)).set_ 4 (.int .i64 (asRead v).of_)).set_ 5 (.slice dsp v.desc.length dsc);have hks:Kept (Only (A+1)) wr ((((((wr.setCell ⟨A+1,0,none⟩ (.int .i64 (asRead v).kind)).setCell ⟨A+1,1,none⟩ (.int .u64 (asRead v).num)).setCell ⟨A+1,2,none⟩ (.string (asRead v).text)).setCell ⟨A+1,3,none⟩ (.slice ksp n ksc)).setCell ⟨A+1,4,none⟩ (.int .i64 (asRead v).of_)).setCell ⟨A+1,5,none⟩ (.slice dsp v.desc.length dsc)):=((((((kR _ _).set1 0 _).set1 1 _).set1 2 _).set1 3 _).set1 4 _).set1 5 _
      have hvs:VSl (fun b=>b≠A+1) wr (.slice ksp n ksc) (mix v.kids v.kids.length):=by
        have h1:=VSl.ofOwn (S:=fun b=>b≠A+1) HR.out.own (fun b hb=>by have:=(HQ.out.2 b hb).1;omega) fun a ha=>(HR.out.ok a ha).mono fun b _ hb=>hb.2
        rwa [HR.out.kids,mix_all (by rw [HL.out];omega)] at h1
      have hds:VSl (fun b=>b≠A+1) wr (.slice dsp v.desc.length dsc) v.desc:=by
        have hka:=(kR Nope w1).alloc (.cells #[.int .i64 0,.int .u64 0,.string ⟨#[]⟩,.slice none 0 0,.int .i64 0,.slice none 0 0] 25);have h1:=((HDS.out.1.keep hka (fun _ _ _ h=>h)).keep HDS.out.2 (fun b _ hb e=>by have h1:b < A:=hb;have e':b=w1.heap.size:=e;have:=HP.out.kept.size;have:=HB.out.2.2.2.1;omega)).keep HR.out.kept (fun b _ hb e=>by have h1:b < A:=hb;have:=(HQ.out.2 b e).1;omega);exact h1.mono fun b _ hb=>by have h1:b < A:=hb;show b≠A+1;omega
      refine bodyPost_ret (v:=.agg #[.int .i64 (asRead v).kind,.int .u64 (asRead v).num,.string (asRead v).text,.slice ksp n ksc,.int .i64 (asRead v).of_,.slice dsp v.desc.length dsc]) (results_cell_row (P:=prog) rfl _ _ (A+1) 25 _ _ _ rfl hB2 underlying25 rfl (by kernel_rfl)) rfl ⟨_,rfl,⟨.slice ksp n ksc,.slice dsp v.desc.length dsc,?_,?_,(hvs.keep hks fun b _ hb e=>hb e).mono fun _ _ _=>trivial,(hds.keep hks fun b _ hb e=>hb e).mono fun _ _ _=>trivial⟩,?_⟩
      . unfold vagg xcJ
        rw [xbj]
        rfl
      . have h1:=xhK HV.out.2.2.1
        exact ⟨h1.kind,HV.out.2.2.1.num,HV.out.2.2.1.text,HV.out.2.2.1.of_⟩
      . exact (HKW.out.trans HR.out.kept fun b hb e=>by have:=(HQ.out.2 b e).1;have:=HB.out.2.2.2.2;omega).trans hks fun b hb e=>by have e':b=A+1:=e;have:=HB.out.2.2.2.2;omega
theorem xgX {v:V} (h22:v.kind=22):(asRead v).kind=22:=by rw [xaw,if_neg (by omega)];exact h22
theorem xjd {v:V} (h22:v.kind=22):(asRead v).kids=v.kids.map asRead:=by rw [xbi,if_neg (by omega)]
theorem xqa {v:V} (hg:Good v) (h22:v.kind=22):v.kids.length % 2=0:=by cases hg with | mk _ _ _ hm _=>exact (hm h22).1
def xeo (K:Int) (v:V):Prop:=∀ (i:Nat) (k:V),v.kids[2*i]? = some k->k.kind=K
theorem texts_apart {v:V} (hg:Good v) (h22:v.kind=22) (hk:∀ (i:Nat) (k:V),v.kids[2*i]? = some k->k.kind=19\/k.kind=20) {i j:Nat} {x y:V} (hx:v.kids[2*i]? = some x) (hy:v.kids[2*j]? = some y) (ht:x.text=y.text):i=j:=by
 have hT:=xgw hg h22 hk;have get:∀ {i:Nat} {x:V},v.kids[2*i]? = some x->(v.kids.map asRead)[2*i]? = some (asRead x):=fun h=>by rw [gM,h];rfl
 rcases Nat.lt_trichotomy i j with h | h | h
 ·exact absurd (by rw [xaS,xaS];exact ht) (hT.ne i j _ _ h (get hx) (get hy))
 ·exact h
 ·exact absurd (by rw [xaS,xaS];exact ht.symm) (hT.ne j i _ _ h (get hy) (get hx))
theorem xgt (v:V) (w:World) (xa s:Value) (ks:List Int) (ha:VAgg Any_ w xa v) (hf:v.kids.length<=1000) (hs:CSl Any_ w 1 s ks.length (ks.map fun k => .int .i64 k)) :
  Calls prog 22 #[xa,s] w (AskT (v.kind=22/\∀ (i:Nat) (x:V),v.kids[2*i]? = some x->x.kind ∈ ks) w):=by
 obtain ⟨ka,da,rfl,hna,hka,hda⟩:=ha;have HKA:=hid hka;have HS:=hid hs;obtain ⟨p1,c1,rfl,q1,m1⟩:=hka.form;clear hna hka hda q1 m1 hs;unfold vagg;obtain ⟨n,hn⟩:∃ m,v.kids.length=m:=⟨_,rfl⟩
 rw [hn] at hf ⊢;have HL:=hid hn;clear hn;obtain ⟨kd,hkd⟩:∃ m,v.kind=m:=⟨_,rfl⟩
 rw [hkd];have HD:=hid hkd;clear hkd;go_enter func22,ntmps22;go_wp2;have HT:=Blk.one w #[Value.int .i64 kd,.int .u64 v.num,.string v.text,.slice p1 n c1,.int .i64 v.of_,da] 25;generalize w.alloc (.cells #[Value.int .i64 kd,.int .u64 v.num,.string v.text,.slice p1 n c1,.int .i64 v.of_,da] 25)=W2 at HT ⊢;generalize w.heap.size=A at HT ⊢;have HW:=hid HT;clear HT
 go_loopw [5] (fun c w'=>∃ k:Nat,2*k<=n+1/\c = .int .i64 (2*(k:Int))/\Hid (Kept Nope W2 w'/\∀ (i:Nat) (x:V),i < k->v.kids[2*i]? = some x->x.kind ∈ ks)) (fun c _=>n+1 - (RowKit.intOf c).toNat)
 case atStart=>exact ⟨0,by omega,rfl,hid ⟨kR _ _,fun i x hi=>by omega⟩⟩
 case round =>
  obtain ⟨k,hk,rfl,HR⟩:=hrel;have bb:=HW.out.1.kept HR.out.1 (fun h=>h);have b0:=bb.cell 0;have b3:=bb.cell 3;simp only [gt,gz,gs] at b0 b3;clear bb;have HKW:=hid (HW.out.2.trans' HR.out.1)
  by_cases hkn:2*k < n
  ·have hkn':2*(k:Int) < (n:Int):=by omega
   have hk0:(0:Int)<=2*(k:Int):=by omega
   have e1:IntKind.i64.wrap (2*(k:Int)+2)=2*(k:Int)+2:=IntWalk.i64_in _ (by omega);have t1:(2*(k:Int)).toNat=2*k:=by omega
   obtain ⟨x,hx⟩:∃ u,v.kids[2*k]? = some u:=⟨v.kids[2*k]'(by rw [HL.out];exact hkn),ge _⟩
   obtain ⟨b2,off2,cap2,pk,ck,pd,cd,q2,hvx,y0,y1,y2,y3,y4,y5⟩:=(HKA.out.keep HKW.out (fun _ _ _ h=>h)).sixS hx;injection q2 with q2 _ q2'
   subst q2 q2';have HX:=hid hx;clear hx hvx;go_wp2_with (go_at_call 44;go_must (refine (in_ok _ _ ks _ (HS.out.keep HKW.out (fun _ _ _ h=>h))).mono ?_;rintro e w1 ⟨⟨rfl,hb⟩ | rfl,hk1⟩;all_goals have H1:=hid hk1;all_goals clear hk1))
   ·have HBB:=hid hb;clear hb;go_roundw
    case rel =>
     refine ⟨k+1,by omega,by go_num,hid ⟨HR.out.1.trans' H1.out,fun i x' hi hx' => ?_⟩⟩
     rcases Nat.lt_or_ge i k with hlt | hge
     ·exact HR.out.2 i x' hlt hx'
     ·obtain rfl:i=k:=by omega
      have h1:=HX.out;rw [hx'] at h1;cases h1;exact HBB.out
    case measure=>simp [RowKit.intOf];omega
   ·go_ret;exact ⟨.inr rfl,HKW.out.trans' H1.out⟩
  ·have hlt:¬ 2*(k:Int) < (n:Int):=by omega
   by_cases h22:kd=22
   ·subst h22;go_wp2;go_ret;exact ⟨.inl ⟨rfl,fun i x hx=>HR.out.2 i x (by have:=(gi.1 hx).1;have:=HL.out;omega) hx⟩,HKW.out⟩
   ·have h22':(kd == 22)=false:=by simpa using h22
    go_wp2;go_ret;exact ⟨.inr rfl,HKW.out⟩
theorem xaL {W W':World} {P:Nat} {a0 a1 a2 a3 a4 a5:Value} (h0:Blk W P 25 #[a0,a1,a2,a3,a4,a5]) (hk:Kept Nope W W') :
  W'.cell? ⟨P,0,none⟩=some a0/\W'.cell? ⟨P,1,none⟩=some a1/\W'.cell? ⟨P,2,none⟩=some a2/\W'.cell? ⟨P,3,none⟩=some a3/\W'.cell? ⟨P,4,none⟩=some a4/\W'.cell? ⟨P,5,none⟩=some a5:=by
 have g0:=h0.kept hk (fun h=>h);exact ⟨g0.cell 0,g0.cell 1,g0.cell 2,g0.cell 3,g0.cell 4,g0.cell 5⟩
theorem xfV (w:World) (T:TypeId) (ks:List Int) (hl:ks.length<=1000):CSl Any_ (w.alloc (.cells (ks.map fun k=>Value.int .i64 k).toArray T)) 1 (.slice (some ⟨w.heap.size,0,none⟩) ks.length ks.length) ks.length (ks.map fun k=>Value.int .i64 k) :=
 ⟨by simp,_,ks.length,rfl,Nat.le_refl _,by unfold maxLen;omega,.inr ⟨w.heap.size,0,rfl,trivial,fun j u hu=>by
  rw [(Blk.new w T _).cell,Nat.zero_add,gt];exact hu⟩⟩
def kA (K:Int):V:=.mk K 0 ⟨#[97]⟩ [] 0 []
def xdO (K:Int):V:=.mk 22 0 ⟨#[]⟩ [kA K,xdf] 0 []
theorem good_kA {K:Int} (hK:K=19\/K=20):Good (kA K):=by
 refine .mk ⟨by simp only [kA,V.num_mk];omega,fun h => ?_,?_,?_,?_,?_,?_,?_,fun _=>rfl,fun h => ?_,fun h => ?_,by show ByteArray.size ⟨#[97]⟩<=131072;decide,Nat.zero_le _,fun _=>rfl,?_⟩ rfl (fun _ h=>by cases h) (fun h => ?_) (fun h => ?_)
 all_goals simp only [kA,V.kind_mk] at *
 all_goals (first | omega | (intro h;omega))
theorem xga {K:Int} (hK:K=19\/K=20):Good (xdO K):=by
 have h0:∀ (i:Nat) (k:V),[kA K,xdf][2*i]? = some k->i=0/\k=kA K:=fun i k h=>by
  match i,h with
  | 0,h=>exact ⟨rfl,(Option.some.inj h).symm⟩
  | i+1,h =>
   have:=(gi.1 h).1;simp only [lC,List.length_nil] at this;omega
 refine .mk ⟨by simp only [xdO,V.num_mk];omega,fun h => ?_,?_,?_,?_,?_,?_,?_,fun _=>rfl,fun _=>rfl,?_,by show ByteArray.size ⟨#[]⟩<=131072;decide,by show 2<=1000;decide,fun h => ?_,.inr (by show (16:Int)<=22/\(22:Int)<=23;decide)⟩ rfl (fun k h => ?_) (fun _=>⟨(rfl:2 % 2=0),fun i k h => ?_,fun i j k k' hij _ h => ?_⟩) (fun h => ?_)
 all_goals (try simp only [xdO,V.kind_mk] at *)
 ·omega
 ·intro h;omega
 ·intro h;omega
 ·intro h;omega
 ·intro h;omega
 ·intro h;omega
 ·intro h;omega
 ·intro h;omega
 ·omega
 ·rcases List.mem_cons.1 h with rfl | h
  ·exact good_kA hK
  ·rw [List.mem_singleton.1 h];exact xhY
 ·rw [(h0 i k h).2];unfold xce;simp only [kA,V.kind_mk];omega
 ·have:=(h0 j k' h).1;omega
 ·omega
theorem xpT (K:Int):(xdO K).kids.map asRead=[asRead (kA K),asRead xdf]:=rfl
theorem xhF (K:Int):Utf (asRead (xdO K)):=by
 refine .mk (fun h => ?_) (fun k h => ?_)
 ·rw [xgX (v:=xdO K) rfl] at h;exact absurd h (by decide)
 ·rw [xjd (v:=xdO K) rfl,xpT] at h
  rcases List.mem_cons.1 h with rfl | h
  ·rw [xbj];refine .mk (fun _ => ?_) (fun k h => ?_)
   ·simp only [V.text_mk,kA];exact xfu _ (by decide)
   ·simp only [V.kids_mk,kA,V.kind_mk,List.map_nil,ite_self] at h;cases h
  ·rw [List.mem_singleton.1 h];exact utf_true
theorem xoo:EncL [xdf] [65]:=EncL.cons (v:=xdf) (p:=[65]) (q:=[]) (.plain (c:=65) (p:=[]) rfl (Form.flag (v:=xdf) rfl)) .nil
theorem xid:Enc (xdO 20) [193,5,2,163,1,97,65] :=
 .plain (c:=193) (p:=[5,2,163,1,97,65]) rfl (Form.kids1 (v:=xdO 20) (d:=[163,1,97,65]) (.inr rfl) (EncL.cons (v:=kA 20) (p:=[163,1,97]) (q:=[65]) (.plain (c:=163) (p:=[1,97]) rfl (Form.text1 (v:=kA 20) (.inr (.inr rfl)) (by decide))) xoo) (by decide) (by decide))
theorem xlq (K:Int):xeo K (xdO K):=fun i k h=>by
 match i,h with
 | 0,h=>rw [<- Option.some.inj (show some (kA K)=some k from h)];rfl
 | i+1,h =>
  have:=(gi.1 h).1;simp only [xdO,V.kids_mk,lC,List.length_nil] at this;omega
theorem first_text {u a b:V} {l':List V} (h:xao u (.mk 22 0 ByteArray.empty l' 0 [])) (h22:u.kind=22) (hk:u.kids=[a,b]):∃ x y,l'=[x,y]/\x.text=a.text:=by
 cases h with
 | leaf _ h=>exact absurd h22 h
 | list h=>omega
 | map j k x _ _ hn _ _ h1 _ =>
  rw [hk] at hn;simp only [V.kids_mk,lC,List.length_nil] at hn
  match l',hn,h1 with
  | [x0,y0],_,h1 =>
   obtain ⟨h2,_,h3⟩:=h1 0 a (by rw [hk];rfl) (by rw [hk];simp);simp only [V.kids_mk] at h2;have hlt:=(gi.1 h2).1;simp only [lC,List.length_nil] at hlt;rw [show 2*j 0=0 by omega] at h2;have h4:x0=k 0:=Option.some.inj h2;refine ⟨x0,y0,rfl,?_⟩;rw [h4]
   cases h3 with | mk _ _ ht _ _ _ _=>exact ht.symm
theorem xfU {w w':World} {e:Ending} {u a b:V} (h:xdA w 22 u [] e w') (h22:u.kind=22) (hk:u.kids=[a,b]) (ha:a.text=⟨#[97]⟩) :
  ∃ b off c rx,e = .returned (.tuple #[.slice (some ⟨b,off,none⟩) 2 c,rx,.bool true])/\2<=c/\w'.cell? ⟨b,off+2,none⟩=some (.string ⟨#[97]⟩)/\Kept Nope w w':=by
 obtain ⟨lx,rx,rfl,hkk,⟨l',hl,hlo⟩,_⟩:=h;obtain ⟨x,y,rfl,ht⟩:=first_text hlo h22 hk
 cases hl with
 | mk b off cap _ ks ds _ _ hc _ hcell _ _ =>
  have h2:=(hcell 0 x rfl).2.2.2.1;rw [ht,ha,Nat.zero_mul,Nat.add_zero] at h2;exact ⟨b,off,cap,rx,rfl,hc,h2,hkk⟩
end Go.Proofs.YtmdpodeegdjkeaaGreatDoor
