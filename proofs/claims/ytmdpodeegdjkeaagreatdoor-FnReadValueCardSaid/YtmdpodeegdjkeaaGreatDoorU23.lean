/- Part 23 of the proof of the readers and the guards. No conditions. -/
import Derived.Test.YtmdpodeegdjkeaaGreatDoorU0
import Derived.Test.YtmdpodeegdjkeaaGreatDoorU13
import Derived.Test.YtmdpodeegdjkeaaGreatDoorU16
import Derived.Test.YtmdpodeegdjkeaaGreatDoorU17
import Derived.Test.YtmdpodeegdjkeaaGreatDoorU21
import Derived.Test.YtmdpodeegdjkeaaGreatDoorU22
set_option maxRecDepth 100000
set_option maxHeartbeats 3200000
namespace Go.Proofs.YtmdpodeegdjkeaaGreatDoor
open Go Go.RowKit Go.Lib Tryz
structure Flat (v:V) (k n:Int) (t:ByteArray):Prop where
 kind:v.kind=k
 num:v.num=n
 text:v.text=t
 kids:v.kids=[]
 desc:v.desc=[]
theorem xcc {w w':World} {e:Ending} {v:V} {k n:Int} {t:ByteArray} (h:Vd w (vagg (.mk k n t [] 0 []) (.slice none 0 0) (.slice none 0 0)) e w') (f:Flat v k n t) (hk:0<=k/\k < 21) (hn:0<=n/\n<=18446744073709551615) (ht:t.size<=maxLen):xac (xbE w v) e w' :=
 ⟨_,_,h.1,rfl,h.2,.mk k n t [] 0 [],⟨_,_,rfl,⟨by simp;omega,by simpa using hn,by simpa using ht,by simp⟩,.nil _ _ (by simp [maxLen]),.nil _ _ (by simp [maxLen])⟩,
  .leaf (by have:=f.kind;omega) (by have:=f.kind;omega) (Same.of_fields f.kind f.num f.text f.kids rfl f.desc rfl)⟩
theorem xbg:(ByteArray.empty).size<=maxLen:=by decide
theorem xmt {v:V} (t:Tidy v) (hd:v.desc=[]) (hs:xaj v.kind) (w:World):Calls prog 33 #[.iface (rtype v.kind) (raw v)] w (xac (xbE w v)):=by
 have hp:=t.pos;have hw:=xdS hp;have hsb:-9223372036854775808<=sint v.num/\sint v.num<=9223372036854775807:=by unfold sint;split <;> omega
 have hb:0<=v.num/\v.num<=18446744073709551615:=by omega
 have e1:v.kind=1\/v.kind=2\/v.kind=3\/v.kind=4\/v.kind=5\/v.kind=6\/v.kind=7\/v.kind=8\/v.kind=9\/v.kind=10\/v.kind=11\/v.kind=16\/v.kind=17\/v.kind=19:=by unfold xaj at hs;omega
 have hb2:0<=((v.num.toNat:Nat):Int)/\((v.num.toNat:Nat):Int)<=18446744073709551615:=by rw [Int.toNat_of_nonneg hp.1];exact hb
 have hl:=t.leaf;have he:=t.empty;have hz:=t.zero;have hsz:=t.size;have htx:v.text.size<=maxLen:=by unfold maxLen;omega
 unfold rtype raw
 rcases e1 with h | h | h | h | h | h | h | h | h | h | h | h | h | h
 all_goals have hf:=hl (by omega)
 all_goals simp only [h,if_true,Int.reduceEq,if_false]
 ·have h1:=t.flag h
  by_cases h0:v.num=0
  ·have hq:decide (v.num≠0)=false:=by simp [h0]
   rw [hq];exact (xkD w).mono fun e w' g=>xcc (k:=1) (n:=0) g ⟨h,h0,he (by omega),hf,hd⟩ (by omega) (by omega) xbg
  ·have hq:decide (v.num≠0)=true:=by simp [h0]
   rw [hq];exact (xms w).mono fun e w' g=>xcc (k:=1) (n:=1) g ⟨h,by omega,he (by omega),hf,hd⟩ (by omega) (by omega) xbg
 ·exact (xpt _ ⟨hp.1,t.n1 h⟩ w).mono fun e w' g=>xcc (k:=2) g ⟨h,rfl,he (by omega),hf,hd⟩ (by omega) hb xbg
 ·exact (xoz _ ⟨hp.1,t.n2 h⟩ w).mono fun e w' g=>xcc (k:=3) g ⟨h,rfl,he (by omega),hf,hd⟩ (by omega) hb xbg
 ·exact (xoy _ ⟨hp.1,t.n4 (.inl h)⟩ w).mono fun e w' g=>xcc (k:=4) g ⟨h,rfl,he (by omega),hf,hd⟩ (by omega) hb xbg
 ·exact (xox _ w).mono fun e w' g=>xcc (k:=5) g ⟨h,rfl,he (by omega),hf,hd⟩ (by omega) hb xbg
 ·exact (xpu _ _ hw w).mono fun e w' g=>xcc (k:=6) g ⟨h,rfl,he (by omega),hf,hd⟩ (by omega) hb xbg
 ·exact (xoD _ _ hw w).mono fun e w' g=>xcc (k:=7) g ⟨h,rfl,he (by omega),hf,hd⟩ (by omega) hb xbg
 ·exact (xoC _ _ hw w).mono fun e w' g=>xcc (k:=8) g ⟨h,rfl,he (by omega),hf,hd⟩ (by omega) hb xbg
 ·exact (xoB _ _ hw w).mono fun e w' g=>xcc (k:=9) g ⟨h,rfl,he (by omega),hf,hd⟩ (by omega) hb xbg
 ·have h1:=t.n4 (.inr h);exact (xoF _ (by omega) w).mono fun e w' g=>xcc (k:=10) g ⟨h,(Int.toNat_of_nonneg hp.1).symm,he (by omega),hf,hd⟩ (by omega) hb2 xbg
 ·exact (xoE _ w).mono fun e w' g=>xcc (k:=11) g ⟨h,(Int.toNat_of_nonneg hp.1).symm,he (by omega),hf,hd⟩ (by omega) hb2 xbg
 ·exact (xmI _ _ w hsb.1 hsb.2 hw).mono fun e w' g=>xcc (k:=16) g ⟨h,rfl,he (by omega),hf,hd⟩ (by omega) hb xbg
 ·have h16:=t.uuid h;exact (xmH (bytesOf v.text) w (by rw [bytesOf_length];exact h16)).mono fun e w' g=>xcc (k:=17) (n:=0) (by rw [bytes_eta] at g;exact g) ⟨h,hz (by omega),rfl,hf,hd⟩ (by omega) (by omega) htx
 ·exact (xjy _ w).mono fun e w' g=>xcc (k:=19) (n:=0) g ⟨h,hz (by omega),rfl,hf,hd⟩ (by omega) (by omega) htx
theorem xjr {v:V} (h:v.kind=23):asRead v=v:=by
 rw [xbj,if_neg (by omega),if_pos h];exact v.eta.symm
theorem xbW {v k:V} {i:Nat} (hk:v.kind≠23) (h:(asRead v).kids[i]? = some k):∃ u,v.kids[i]? = some u/\k=asRead u:=by
 rw [xbi,if_neg hk,gM] at h;obtain ⟨u,h1,h2⟩:=Option.map_eq_some_iff.1 h;exact ⟨u,h1,h2.symm⟩
theorem xmG {v k0:V} (hg:Good v) (h23:v.kind=23) (h0:v.kids[0]? = some k0) (hs:xaj k0.kind) (w:World) (s:Value) (hc:CSl Any_ w (xdD k0.kind) s v.kids.length (v.kids.flatMap fun k=>(raw k).cells.toList)) :
  Calls prog 33 #[.iface (xdE k0.kind) s] w (xac (xbE w v)):=by
 have hlo:=xij hg h23 h0;have hn:=hg.tidy.few
 have hk:∀ k ∈ v.kids,k.kind=k0.kind/\Tidy k:=fun k hk=>by
  refine ⟨?_,(hg.kid hk).tidy⟩
  cases hg with
  | mk _ _ _ _ h5 =>
   obtain ⟨k1,g0,_,_,g2,_⟩:=h5 h23;rw [h0] at g0;cases g0;exact g2 k hk
 have e1:k0.kind=1\/k0.kind=2\/k0.kind=3\/k0.kind=4\/k0.kind=5\/k0.kind=6\/k0.kind=7\/k0.kind=8\/k0.kind=9\/k0.kind=10\/k0.kind=11\/k0.kind=16\/k0.kind=17\/k0.kind=19:=by unfold xaj at hs;omega
 unfold xdE;unfold xdD at hc
 rcases e1 with h | h | h | h | h | h | h | h | h | h | h | h | h | h
 all_goals rw [h] at hk hlo hc
 all_goals simp only [h,if_true,Int.reduceEq,if_false] at hc ⊢
 ·exact xkC v w s hc hk hn hlo
 ·exact xgv v w s hc hk hn hlo
 ·exact xmw v w s hc hk hn hlo
 ·exact xmv v w s hc hk hn hlo
 ·exact xmu v w s hc hk hn hlo
 ·exact xoA v w s hc hk hn hlo
 ·exact xmA v w s hc hk hn hlo
 ·exact xmz v w s hc hk hn hlo
 ·exact xmy v w s hc hk hn hlo
 ·exact xmC v w s hc hk hn hlo
 ·exact xmB v w s hc hk hn hlo
 ·exact xkB v w s hc hk hn hlo
 ·exact xkA v w s hc hk hn hlo
 ·exact xmx v w s hc hk hn hlo
theorem xiQ:∀ (n:Nat) (v:V),SizeOf.sizeOf v<=n->Good v->Utf (asRead v)->xkk (asRead v):=by
 intro n
 induction n using Nat.strongRecOn with
 | _ n ih =>
  intro v hv hg hu w x hT hx;have t:=hg.tidy.asRead;have hd:(asRead v).desc=[]:=by rw [xbu];exact hg.desc
  have hfew:=t.few
  have hik:v.kind≠23->∀ k ∈ (asRead v).kids,xkk k:=fun h23 k hk=>by
   obtain ⟨i,hi⟩:=List.mem_iff_getElem?.1 hk;obtain ⟨u,h1,rfl⟩:=xbW h23 hi;have hm:=gm h1;have:=V.sizeOf_kid hm;exact ih (SizeOf.sizeOf u) (by omega) u (Nat.le_refl _) (hg.kid hm) (by cases hu with | mk _ h=>exact h _ (gm hi))
  have hkind:=xaw v
  cases hx with
  | null h=>exact (xmD w).mono fun e w' g=>xcc (k:=0) (n:=0) g ⟨h,t.zero (.inl h),t.empty (by omega),t.leaf (by omega),hd⟩ (by omega) (by omega) xbg
  | scal h=>exact xmt t hd h w
  | bin h hb=>exact (xkE _ _ _ w hb).mono fun e w' g=>xcc (k:=18) (n:=0) (by rw [bytes_eta] at g;exact g) ⟨h,t.zero (by omega),rfl,t.leaf (by omega),hd⟩ (by omega) (by omega) (by have:=t.size;unfold maxLen;omega)
  | list h hs hk=>exact valued_list _ w _ _ h hd hs hk hfew hT (hik (by split at hkind <;> omega))
  | map j l h _ hm hl hj hjl hk hx =>
   have h22:v.kind=22:=by split at hkind <;> omega
   have hK:=hg.keysOk h22;have hkids:(asRead v).kids=v.kids.map asRead:=by rw [xbi,if_neg (by omega)]
   have hko:∀ (i:Nat) (k:V),(asRead v).kids[2*i]? = some k->xbn k.kind:=fun i k hk=>(hK.ok i k (by rw [<- hkids];exact hk)).1
   have hka:=(kR Nope w).alloc (.cells zVal 25);refine xmF _ w _ (xof _ _ _ _ j l h hd (hm.keep hka (fun h=>h)) hl hj hjl (fun i e k h1 h2=>(hk i e k h1 h2).keep hka (fun _ _ _ h=>h)) (fun i e k h1 h2=>(hx i e k h1 h2).keep hka (fun _ _ _ h=>h)) (fun i e h1 => ?_) hko hfew (hT.nope hka) (hik (by omega)));have hil:=hj i (gi.1 h1).1;have h2:(asRead v).kids[2*j i]? = some ((asRead v).kids[2*j i]'(by omega)):=ge _;obtain ⟨u,h3,h4⟩:=xbW (by omega) h2;rw [(hk i e _ h1 h2).key (hko _ _ h2),h4];have hm3:=gm h3;have hgu:=hg.kid hm3;refine xpP (by rw [<- h4];exact hko _ _ h2) hgu.tidy.asRead fun h19 => ?_
   have hu2:Utf (asRead u):=by cases hu with | mk _ h=>exact h _ (by rw [<- h4];exact gm h2)
   cases hu2 with
   | mk h5 _=>exact h5 h19
  | mapS j l h _ hm hl hj hjl hk hx =>
   have h22:v.kind=22:=by split at hkind <;> omega
   have hK:=hg.keysOk h22;have hkids:(asRead v).kids=v.kids.map asRead:=by rw [xbi,if_neg (by omega)]
   have hka:=(kR Nope w).alloc (.cells zVal 25);refine xmE _ w _ (xgV _ _ _ _ j l h hd (hm.keep hka (fun h=>h)) hl hj hjl hk (fun i e k h1 h2=>(hx i e k h1 h2).keep hka (fun _ _ _ h=>h)) (fun i k h1 => ?_) (fun i i' k k' h1 h1' h2 h3 h4 => ?_) hfew (hT.nope hka) (hik (by omega)))
   ·obtain ⟨u,h3,rfl⟩:=xbW (by omega) h1;have hgu:=hg.kid (gm h3);exact ⟨hgu.tidy.asRead,by rw [xbu];exact hgu.desc⟩
   ·have hne:∀ (a c:Nat) (x y:V),a < c->(asRead v).kids[2*a]? = some x->(asRead v).kids[2*c]? = some y->x.text=y.text->x.kind=19->y.kind=19->False:=fun a c x y hac hx hy ht hx19 hy19=>by
     obtain ⟨u,g1,rfl⟩:=xbW (by omega) hx;obtain ⟨u',g2,rfl⟩:=xbW (by omega) hy;have gu:=hg.kid (gm g1);have gu':=hg.kid (gm g2);have tu:=gu.tidy.asRead;have tu':=gu'.tidy.asRead;have hs:Same (asRead u) (asRead u'):=Same.of_fields (hx19.trans hy19.symm) ((tu.zero (by omega)).trans (tu'.zero (by omega)).symm) ht (tu.leaf (by omega)) (tu'.leaf (by omega)) (by rw [xbu];exact gu.desc) (by rw [xbu];exact gu'.desc)
     cases hg with
     | mk _ _ _ hm _=>exact (hm h22).2.2 a c u u' hac g1 g2 hs
    rcases Nat.lt_trichotomy i i' with hlt | heq | hgt
    ·exact (hne i i' k k' hlt h1 h1' h2 h3 h4).elim
    ·exact heq
    ·exact (hne i' i k' k hgt h1' h1 h2.symm h4 h3).elim
  | arr h h0 h1 hs =>
   have h23:v.kind=23:=by split at hkind <;> omega
   rw [xjr h23] at h0 hs ⊢;exact xmG hg h23 h0 h1 w _ hs
  | arrB h h0 h1 hs h2 =>
   have h23:v.kind=23:=by split at hkind <;> omega
   rw [xjr h23] at h0 hs h2 ⊢;have hlo:=xij hg h23 h0;rw [h1] at hlo;refine valued_sBytes v w _ _ hs h2 (fun k hk=>⟨?_,(hg.kid hk).tidy⟩) hg.tidy.few hlo
   cases hg with
   | mk _ _ _ _ h5 =>
    obtain ⟨k1,g0,_,_,g2,_⟩:=h5 h23;rw [h0] at g0;cases g0;rw [g2 k hk,h1]
end Go.Proofs.YtmdpodeegdjkeaaGreatDoor
section
namespace Go.Proofs.YtmdpodeegdjkeaaGreatDoor
theorem xcr {v:V} {c:Nat} {q:List UInt8} (h:Form v c q) (hk:xay v.kind) (hc:c=xaU v.kind):q=be (fsz v.kind) v.num.toNat:=by
 unfold xay at hk
 cases h with
 | full _=>rfl
 | null h=>omega
 | flag h=>omega
 | bool h=>omega
 | uint0 h _=>rw [h] at hc;simp [xaU] at hc
 | ulong0 h _=>rw [h] at hc;simp [xaU] at hc
 | uint1 h _=>rw [h] at hc;simp [xaU] at hc
 | ulong1 h _=>rw [h] at hc;simp [xaU] at hc
 | int1 h _=>rw [h] at hc;simp [xaU] at hc
 | long1 h _=>rw [h] at hc;simp [xaU] at hc
 | wide h _=>omega
 | text1 h _=>omega
 | text4 h=>omega
 | list0 h _=>omega
 | kids1 h _ _ _=>omega
 | kids4 h _=>omega
 | array1 h _ _ _=>omega
 | array4 h _=>omega
theorem xbU {v:V} {c:Nat} {q:List UInt8} (h:Form v c q) (hc:(v.kind=4/\c=0x52)\/(v.kind=5/\c=0x53)\/(v.kind=8/\c=0x54)\/(v.kind=9/\c=0x55)) :
  q=be 1 v.num.toNat/\(v.kind=4\/v.kind=5->v.num < 256)/\(v.kind=8\/v.kind=9->v.num < 128\/18446744073709551488<=v.num):=by
 cases h with
 | full hk =>
  rcases hc with ⟨h,e⟩ | ⟨h,e⟩ | ⟨h,e⟩ | ⟨h,e⟩ <;> (rw [h] at e;simp [xaU] at e)
 | null h=>omega
 | flag h=>omega
 | bool h=>omega
 | uint0 h _=>omega
 | ulong0 h _=>omega
 | uint1 h hx=>exact ⟨rfl,fun _=>hx,fun h'=>by omega⟩
 | ulong1 h hx=>exact ⟨rfl,fun _=>hx,fun h'=>by omega⟩
 | int1 h hx=>exact ⟨rfl,fun h'=>by omega,fun _=>hx⟩
 | long1 h hx=>exact ⟨rfl,fun h'=>by omega,fun _=>hx⟩
 | wide h _=>omega
 | text1 h _=>omega
 | text4 h=>omega
 | list0 h _=>omega
 | kids1 h _ _ _=>omega
 | kids4 h _=>omega
 | array1 h _ _ _=>omega
 | array4 h _=>omega
theorem xoj {v:V} {c:Nat} {q:List UInt8} (h:Form v c q) (hk:v.kind=1) (hc:c=0x56):q=be 1 v.num.toNat:=by
 cases h with
 | bool _=>rw [be1];congr 1;apply UInt8.toNat.inj;simp
 | full h=>unfold xay at h;omega
 | wide h _=>omega
 | text1 h _=>omega
 | text4 h=>omega
 | kids1 h _ _ _=>omega
 | kids4 h _=>omega
 | _=>omega
theorem xoi {v:V} {c:Nat} {q:List UInt8} (h:Form v c q) (hk:v.kind=17):q=bytesOf v.text:=by
 cases h with
 | wide _ _=>rfl
 | full h=>unfold xay at h;omega
 | text1 h _=>omega
 | text4 h=>omega
 | kids1 h _ _ _=>omega
 | kids4 h _=>omega
 | _=>omega
theorem xfY {v:V} {c:Nat} {q:List UInt8} (h:Form v c q) (hk:v.kind=18\/v.kind=19\/v.kind=20) (hc:c=xiz v.kind):q=be 1 v.text.size ++ bytesOf v.text/\v.text.size < 256:=by
 cases h with
 | text1 _ h=>exact ⟨rfl,h⟩
 | text4 _=>rcases hk with h | h | h <;> (rw [h] at hc;simp [xaU,xiz] at hc)
 | wide h _=>omega
 | full h=>unfold xay at h;omega
 | kids1 h _ _ _=>omega
 | kids4 h _=>omega
 | _=>omega
theorem xfX {v:V} {c:Nat} {q:List UInt8} (h:Form v c q) (hk:v.kind=18\/v.kind=19\/v.kind=20) (hc:c=xaU v.kind):q=be 4 v.text.size ++ bytesOf v.text:=by
 cases h with
 | text4 _=>rfl
 | text1 _ _=>rcases hk with h | h | h <;> (rw [h] at hc;simp [xaU,xiz] at hc)
 | wide h _=>omega
 | full h=>unfold xay at h;omega
 | kids1 h _ _ _=>omega
 | kids4 h _=>omega
 | _=>omega
theorem xbD.pieces {l:List V} {c:Nat} {d:List UInt8} (h:xbD l c d):∃ ps:List (List UInt8),ps.length=l.length/\d=ps.flatten/\∀ (k:Nat) (v:V) (p:List UInt8),l[k]? = some v->ps[k]? = some p->Form v c p:=by
 induction l generalizing d with
 | nil=>cases h;exact ⟨[],rfl,rfl,by simp⟩
 | cons a l ih =>
  cases h with
  | @cons _ _ _ p q h1 h2 =>
   obtain ⟨ps,h3,h4,h5⟩:=ih h2;refine ⟨p :: ps,by simp [h3],by simp [h4],fun k v p' hv hp => ?_⟩
   cases k with
   | zero=>simp at hv hp;subst hv hp;exact h1
   | succ k=>exact h5 k v p' (by simpa using hv) (by simpa using hp)
theorem xbD.fixed {l:List V} {c:Nat} {d:List UInt8} {g:V->List UInt8} {sz:Nat} (h:xbD l c d) (hg:∀ v ∈ l,∀ q,Form v c q->q=g v/\(g v).length=sz) :
  d.length=l.length*sz/\∀ (D:List UInt8) (b:Nat),Lies D b d->∀ (k:Nat) (v:V),l[k]? = some v->Lies D (b+sz*k) (g v):=by
 induction l generalizing d with
 | nil=>cases h;exact ⟨by simp,fun D b _ k v hv=>by simp at hv⟩
 | cons a l ih =>
  cases h with
  | @cons _ _ _ p q h1 h2 =>
   obtain ⟨h3,h4⟩:=ih h2 (fun v hv=>hg v (by simp [hv]));obtain ⟨e1,e2⟩:=hg a (by simp) p h1;subst e1;refine ⟨by simp [h3,e2,Nat.add_mul];omega,fun D b hL k v hv => ?_⟩
   cases k with
   | zero=>simp at hv;subst hv;simpa using hL.left
   | succ k =>
    have:=h4 D _ hL.right k v (by simpa using hv);rw [e2] at this;rw [show b+sz*(k+1)=b+sz+sz*k by rw [Nat.mul_add,Nat.mul_one];omega];exact this
end Go.Proofs.YtmdpodeegdjkeaaGreatDoor
end
namespace Go.Proofs.YtmdpodeegdjkeaaGreatDoor
open Go Go.RowKit Go.Lib Tryz
theorem xda {D:List UInt8} {i:Nat} {x:UInt8} (h:D[i]? = some x):at0 D i=x:=by unfold at0;rw [List.getD_eq_getElem?_getD,h];rfl
theorem v16_of {D:List UInt8} {b k u:Nat} (h:Lies D (b+2*k) (be 2 u)):v16 D b k=u % 65536:=by
 unfold v16;rw [xda (show D[b+2*k]? = some _ from h 0 _ rfl),xda (h 1 _ rfl)];exact xqh u
theorem xpv {D:List UInt8} {b k u:Nat} (h:Lies D (b+4*k) (be 4 u)):v32 D b k=u % 4294967296:=by
 unfold v32;rw [xda (show D[b+4*k]? = some _ from h 0 _ rfl),xda (h 1 _ rfl),xda (h 2 _ rfl),xda (h 3 _ rfl)];exact xcT u
theorem xob {D:List UInt8} {b k u:Nat} (h:Lies D (b+8*k) (be 8 u)):v64 D b k=u % 18446744073709551616:=by
 unfold v64;rw [xda (show D[b+8*k]? = some _ from h 0 _ rfl),xda (h 1 _ rfl),xda (h 2 _ rfl),xda (h 3 _ rfl),xda (h 4 _ rfl),xda (h 5 _ rfl),xda (h 6 _ rfl),xda (h 7 _ rfl)];exact xlA u
theorem xmJ {D:List UInt8} {b k u:Nat} (h:Lies D (b+1*k) (be 1 u)):(at0 D (b+k)).toNat=u % 256:=by
 have:=h 0 _ rfl;rw [Nat.one_mul,Nat.add_zero] at this;rw [xda this];exact xgU u
theorem xcf {l:List V} {f:Nat->Value} (h1:∀ v ∈ l,(raw v).cells.toList=[raw v]) (h2:∀ (k:Nat) (v:V),l[k]? = some v->f k=raw v):(List.range l.length).map f=l.flatMap fun k=>(raw k).cells.toList:=by
 have e:(l.flatMap fun k=>(raw k).cells.toList)=l.map raw:=by
  clear h2
  induction l with
  | nil=>rfl
  | cons a l ih =>
   rw [List.flatMap_cons,h1 a (by simp),List.map_cons,ih (fun v hv=>h1 v (by simp [hv]))]
   rfl
 rw [e];apply List.ext_getElem?;intro k;rw [gM,gM]
 rcases Nat.lt_or_ge k l.length with hk | hk
 ·rw [List.getElem?_range hk,ge hk];simp [h2 k _ (ge hk)]
 ·rw [List.getElem?_eq_none (by simpa using hk),List.getElem?_eq_none hk];rfl
theorem AnyV.arrRead {S:Nat->Prop} {w:World} {x:Value} {v:V} (h:AnyV S w x v) (hk:v.kind=23):AnyV S w x (asRead v):=by
 have hk':(asRead v).kind=23:=by rw [xaw];simp [hk]
 have hkids:(asRead v).kids=v.kids:=by rw [xbi,if_pos hk]
 cases h with
 | arr _ h1 h2 h3=>exact .arr hk' (by rw [hkids];exact h1) h2 (by rw [hkids];exact h3)
 | arrB _ h1 h2 h3 h4=>exact .arrB hk' (by rw [hkids];exact h1) h2 (by rw [hkids];exact h3) (by rw [hkids];exact h4)
 | null h=>omega
 | scal h=>unfold xaj at h;omega
 | bin h=>omega
 | list h=>omega
 | map j l h=>omega
 | mapS j l h=>omega
theorem xaE (w:World) (r:Nat) (s:Value) (D:List UInt8) (i:Nat) (v:V) (c:UInt8) (hcc:c=224\/c=240) (j:Nat) (hk:v.kind=23) (h:Buf w r s D i) (hc:D[i]? = some c)
  (hr:∀ W,Buf W r s D i->Calls prog 126 #[.pointer (some ⟨r,0,none⟩)] W (xac fun x e w'=>e = .nilIface/\AnyV (xaf W) w' x v/\At_ W w' r s D j)):RA w r s D j v:=by
 refine (xdb r s D i w c hcc h hc (fun x e w'=>e = .nilIface/\AnyV (xaf w) w' x (asRead v)/\At_ w w' r s D j) (fun W hW=>(hr W hW.buf).mono ?_)).mono ?_
 ·rintro e w' ⟨x,y,rfl,rfl,hx,hA⟩;exact ⟨_,_,rfl,rfl,(hx.mono fun b hb=>by have hb':W.heap.size<=b:=hb;have:=hW.kept.size;show w.heap.size<=b;omega).arrRead hk,hW.trans hA⟩
 ·rintro e w' ⟨y,z,rfl,rfl,hx,hA⟩;exact ⟨_,_,rfl,rfl,hx,hA⟩
def xbF (r:Nat) (s:Value) (D:List UInt8) (i j n:Nat):Prop:=((D[i]? = some 224/\j=i+3)\/(D[i]? = some 240/\j=i+9)) /\
 ∀ W,Buf W r s D i->Calls prog 183 #[.pointer (some ⟨r,0,none⟩)] W fun e W'=>e = .returned (.tuple #[.int .i64 n,.nilIface])/\At_ W W' r s D j
theorem xqB (w:World) (r:Nat) (s:Value) (D:List UInt8) (i j:Nat) (v:V) (p:List UInt8) (hk23:v.kind=23) (hne:0 < v.kids.length) (hfew:v.kids.length<=1000) (hkt:∀ k ∈ v.kids,k.kind=3/\Tidy k) (hF:xbD v.kids 96 p) (h:Buf w r s D i)
  (hH:xbF r s D i j v.kids.length) (hj:j<=D.length) (hL:Lies D j (96 :: p)):RA w r s D (j+(96 :: p:List UInt8).length) v:=by
 have hfx:=hF.fixed (g:=fun k=>be 2 k.num.toNat) (sz:=2) (fun k hk q hq=>by
  have:=xcr hq (by unfold xay;have:=(hkt k hk).1;omega) (by rw [(hkt k hk).1];rfl);rw [(hkt k hk).1] at this
  exact ⟨this,be_length _ _⟩)
 obtain ⟨hpl,hpieces⟩:=hfx;have hpc:=hpieces D (j+1) hL.tail;have hlen:=hL.len hj;simp only [lC] at hlen ⊢;have hk0:∃ k0,v.kids[0]? = some k0:=⟨_,ge hne⟩
 obtain ⟨k0,hk0⟩:=hk0;have hK0:=(hkt k0 (gm hk0)).1
 have hflat:(List.range v.kids.length).map (fun k => .int .u16 (v16 D (j+1) k))=v.kids.flatMap fun k=>(raw k).cells.toList:=by
  refine xcf (fun k hk => ?_) (fun k v hv => ?_)
  ·have:=(hkt k hk).1;simp [raw,this,Value.cells]
  ·have hk:=(hkt v (gm hv)).1;have tp:=(hkt v (gm hv)).2.pos;have hL':=hpc k v hv;have h1:=(hkt v (gm hv)).2.n2 hk;have h2:=tp;have h3:=v16_of hL';simp only [raw,hk,↓reduceIte,Int.reduceEq];rw [h3];congr 1;omega
 have arr:∀ W W0,At_ W0 W r s D i->∀ h0:Buf W0 r s D i,Blk W W0.heap.size 118 #[.slice none 0 0]->Calls prog 132 #[.pointer (some ⟨W0.heap.size,0,none⟩),.pointer (some ⟨r,0,none⟩)] W (Gives fun e w'=>e = .nilIface/\At_ W0 w' r s D (j+(p.length+1))/\∃ a n c,Blk w' W0.heap.size 118 #[.slice a n c]/\AnyV (xaf W0) w' (.iface 118 (.slice a n c)) v):=by
  intro W W0 hA h0 hb;refine (xlS W0 W r s D i i j W0.heap.size 118 v.kids.length h0 hA (Nat.le_refl _) hb hne (by omega) hH.2 hL.head (by omega)).mono ?_;rintro e w' ⟨_,rfl,rfl,hP,x,hx,hc⟩;rw [hflat] at hc;obtain ⟨a,cc,hxe⟩:∃ a cc,x = .slice a v.kids.length cc:=by obtain ⟨_,a,cc,e,_⟩:=hc;exact ⟨a,cc,e⟩
  subst hxe;refine ⟨_,rfl,rfl,by rw [show j+(p.length+1)=j+1+v.kids.length*2 by omega];exact hP,_,_,_,hx,?_⟩;have hT:xdE k0.kind=118:=by rw [hK0];rfl
  rw [<- hT];exact .arr hk23 hk0 (by rw [hK0];unfold xaj;omega) (by rw [show xdD k0.kind=1 from (by rw [hK0];rfl)];exact hc)
 rcases hH.1 with ⟨hc0,hj3⟩ | ⟨hc0,hj9⟩
 ·refine xaE w r s D i v 224 (.inl rfl) _ hk23 h hc0 fun W hW => ?_
  refine (xaX 132 118 96 (by decide) r s D i _ W (fun x w'=>AnyV (xaf W) w' (.iface 118 x) v) hW hc0 (by rw [<- hj3];exact hL.head) (fun W' hA hb=>arr W' W hA hW hb)).mono ?_;rintro e w' ⟨x,y,rfl,rfl,hA,z,rfl,hz⟩;exact ⟨_,_,rfl,rfl,hz,hA⟩
 ·refine xaE w r s D i v 240 (.inr rfl) _ hk23 h hc0 fun W hW => ?_
  refine (xaW 132 118 96 (by decide) r s D i _ W (fun x w'=>AnyV (xaf W) w' (.iface 118 x) v) hW hc0 (by rw [<- hj9];exact hL.head) (fun W' hA hb=>arr W' W hA hW hb)).mono ?_;rintro e w' ⟨x,y,rfl,rfl,hA,z,rfl,hz⟩;exact ⟨_,_,rfl,rfl,hz,hA⟩
theorem xqA (w:World) (r:Nat) (s:Value) (D:List UInt8) (i j:Nat) (v:V) (p:List UInt8) (hk23:v.kind=23) (hne:0 < v.kids.length) (hfew:v.kids.length<=1000) (hkt:∀ k ∈ v.kids,k.kind=7/\Tidy k) (hF:xbD v.kids 97 p) (h:Buf w r s D i)
  (hH:xbF r s D i j v.kids.length) (hj:j<=D.length) (hL:Lies D j (97 :: p)):RA w r s D (j+(97 :: p:List UInt8).length) v:=by
 have hfx:=hF.fixed (g:=fun k=>be 2 k.num.toNat) (sz:=2) (fun k hk q hq=>by
  have:=xcr hq (by unfold xay;have:=(hkt k hk).1;omega) (by rw [(hkt k hk).1];rfl);rw [(hkt k hk).1] at this
  exact ⟨this,be_length _ _⟩)
 obtain ⟨hpl,hpieces⟩:=hfx;have hpc:=hpieces D (j+1) hL.tail;have hlen:=hL.len hj;simp only [lC] at hlen ⊢;have hk0:∃ k0,v.kids[0]? = some k0:=⟨_,ge hne⟩
 obtain ⟨k0,hk0⟩:=hk0;have hK0:=(hkt k0 (gm hk0)).1
 have hflat:(List.range v.kids.length).map (fun k => .int .i16 (sg 16 (v16 D (j+1) k)))=v.kids.flatMap fun k=>(raw k).cells.toList:=by
  refine xcf (fun k hk => ?_) (fun k v hv => ?_)
  ·have:=(hkt k hk).1;simp [raw,this,Value.cells]
  ·have hk:=(hkt v (gm hv)).1;have tp:=(hkt v (gm hv)).2.pos;have hL':=hpc k v hv;have h3:=v16_of hL';simp only [raw,hk,↓reduceIte,Int.reduceEq];rw [h3];exact congrArg _ (sg_16 tp.1 tp.2 ((hkt v (gm hv)).2.s2 hk))
 have arr:∀ W W0,At_ W0 W r s D i->∀ h0:Buf W0 r s D i,Blk W W0.heap.size 130 #[.slice none 0 0]->Calls prog 133 #[.pointer (some ⟨W0.heap.size,0,none⟩),.pointer (some ⟨r,0,none⟩)] W (Gives fun e w'=>e = .nilIface/\At_ W0 w' r s D (j+(p.length+1))/\∃ a n c,Blk w' W0.heap.size 130 #[.slice a n c]/\AnyV (xaf W0) w' (.iface 130 (.slice a n c)) v):=by
  intro W W0 hA h0 hb;refine (xnD W0 W r s D i i j W0.heap.size 130 v.kids.length h0 hA (Nat.le_refl _) hb hne (by omega) hH.2 hL.head (by omega)).mono ?_;rintro e w' ⟨_,rfl,rfl,hP,x,hx,hc⟩;rw [hflat] at hc;obtain ⟨a,cc,hxe⟩:∃ a cc,x = .slice a v.kids.length cc:=by obtain ⟨_,a,cc,e,_⟩:=hc;exact ⟨a,cc,e⟩
  subst hxe;refine ⟨_,rfl,rfl,by rw [show j+(p.length+1)=j+1+v.kids.length*2 by omega];exact hP,_,_,_,hx,?_⟩;have hT:xdE k0.kind=130:=by rw [hK0];rfl
  rw [<- hT];exact .arr hk23 hk0 (by rw [hK0];unfold xaj;omega) (by rw [show xdD k0.kind=1 from (by rw [hK0];rfl)];exact hc)
 rcases hH.1 with ⟨hc0,hj3⟩ | ⟨hc0,hj9⟩
 ·refine xaE w r s D i v 224 (.inl rfl) _ hk23 h hc0 fun W hW => ?_
  refine (xaX 133 130 97 (by decide) r s D i _ W (fun x w'=>AnyV (xaf W) w' (.iface 130 x) v) hW hc0 (by rw [<- hj3];exact hL.head) (fun W' hA hb=>arr W' W hA hW hb)).mono ?_;rintro e w' ⟨x,y,rfl,rfl,hA,z,rfl,hz⟩;exact ⟨_,_,rfl,rfl,hz,hA⟩
 ·refine xaE w r s D i v 240 (.inr rfl) _ hk23 h hc0 fun W hW => ?_
  refine (xaW 133 130 97 (by decide) r s D i _ W (fun x w'=>AnyV (xaf W) w' (.iface 130 x) v) hW hc0 (by rw [<- hj9];exact hL.head) (fun W' hA hb=>arr W' W hA hW hb)).mono ?_;rintro e w' ⟨x,y,rfl,rfl,hA,z,rfl,hz⟩;exact ⟨_,_,rfl,rfl,hz,hA⟩
theorem xqz (w:World) (r:Nat) (s:Value) (D:List UInt8) (i j:Nat) (v:V) (p:List UInt8) (hk23:v.kind=23) (hne:0 < v.kids.length) (hfew:v.kids.length<=1000) (hkt:∀ k ∈ v.kids,k.kind=4/\Tidy k) (hF:xbD v.kids 112 p) (h:Buf w r s D i)
  (hH:xbF r s D i j v.kids.length) (hj:j<=D.length) (hL:Lies D j (112 :: p)):RA w r s D (j+(112 :: p:List UInt8).length) v:=by
 have hfx:=hF.fixed (g:=fun k=>be 4 k.num.toNat) (sz:=4) (fun k hk q hq=>by
  have:=xcr hq (by unfold xay;have:=(hkt k hk).1;omega) (by rw [(hkt k hk).1];rfl);rw [(hkt k hk).1] at this
  exact ⟨this,be_length _ _⟩)
 obtain ⟨hpl,hpieces⟩:=hfx;have hpc:=hpieces D (j+1) hL.tail;have hlen:=hL.len hj;simp only [lC] at hlen ⊢;have hk0:∃ k0,v.kids[0]? = some k0:=⟨_,ge hne⟩
 obtain ⟨k0,hk0⟩:=hk0;have hK0:=(hkt k0 (gm hk0)).1
 have hflat:(List.range v.kids.length).map (fun k => .int .u32 (v32 D (j+1) k))=v.kids.flatMap fun k=>(raw k).cells.toList:=by
  refine xcf (fun k hk => ?_) (fun k v hv => ?_)
  ·have:=(hkt k hk).1;simp [raw,this,Value.cells]
  ·have hk:=(hkt v (gm hv)).1;have tp:=(hkt v (gm hv)).2.pos;have hL':=hpc k v hv;have h1:=(hkt v (gm hv)).2.n4 (.inl hk);have h2:=tp;have h3:=xpv hL';simp only [raw,hk,↓reduceIte,Int.reduceEq];rw [h3];congr 1;omega
 have arr:∀ W W0,At_ W0 W r s D i->∀ h0:Buf W0 r s D i,Blk W W0.heap.size 121 #[.slice none 0 0]->Calls prog 134 #[.pointer (some ⟨W0.heap.size,0,none⟩),.pointer (some ⟨r,0,none⟩)] W (Gives fun e w'=>e = .nilIface/\At_ W0 w' r s D (j+(p.length+1))/\∃ a n c,Blk w' W0.heap.size 121 #[.slice a n c]/\AnyV (xaf W0) w' (.iface 121 (.slice a n c)) v):=by
  intro W W0 hA h0 hb;refine (xlQ W0 W r s D i i j W0.heap.size 121 v.kids.length h0 hA (Nat.le_refl _) hb hne (by omega) hH.2 hL.head (by omega)).mono ?_;rintro e w' ⟨_,rfl,rfl,hP,x,hx,hc⟩;rw [hflat] at hc;obtain ⟨a,cc,hxe⟩:∃ a cc,x = .slice a v.kids.length cc:=by obtain ⟨_,a,cc,e,_⟩:=hc;exact ⟨a,cc,e⟩
  subst hxe;refine ⟨_,rfl,rfl,by rw [show j+(p.length+1)=j+1+v.kids.length*4 by omega];exact hP,_,_,_,hx,?_⟩;have hT:xdE k0.kind=121:=by rw [hK0];rfl
  rw [<- hT];exact .arr hk23 hk0 (by rw [hK0];unfold xaj;omega) (by rw [show xdD k0.kind=1 from (by rw [hK0];rfl)];exact hc)
 rcases hH.1 with ⟨hc0,hj3⟩ | ⟨hc0,hj9⟩
 ·refine xaE w r s D i v 224 (.inl rfl) _ hk23 h hc0 fun W hW => ?_
  refine (xaX 134 121 112 (by decide) r s D i _ W (fun x w'=>AnyV (xaf W) w' (.iface 121 x) v) hW hc0 (by rw [<- hj3];exact hL.head) (fun W' hA hb=>arr W' W hA hW hb)).mono ?_;rintro e w' ⟨x,y,rfl,rfl,hA,z,rfl,hz⟩;exact ⟨_,_,rfl,rfl,hz,hA⟩
 ·refine xaE w r s D i v 240 (.inr rfl) _ hk23 h hc0 fun W hW => ?_
  refine (xaW 134 121 112 (by decide) r s D i _ W (fun x w'=>AnyV (xaf W) w' (.iface 121 x) v) hW hc0 (by rw [<- hj9];exact hL.head) (fun W' hA hb=>arr W' W hA hW hb)).mono ?_;rintro e w' ⟨x,y,rfl,rfl,hA,z,rfl,hz⟩;exact ⟨_,_,rfl,rfl,hz,hA⟩
theorem xqy (w:World) (r:Nat) (s:Value) (D:List UInt8) (i j:Nat) (v:V) (p:List UInt8) (hk23:v.kind=23) (hne:0 < v.kids.length) (hfew:v.kids.length<=1000) (hkt:∀ k ∈ v.kids,k.kind=8/\Tidy k) (hF:xbD v.kids 113 p) (h:Buf w r s D i)
  (hH:xbF r s D i j v.kids.length) (hj:j<=D.length) (hL:Lies D j (113 :: p)):RA w r s D (j+(113 :: p:List UInt8).length) v:=by
 have hfx:=hF.fixed (g:=fun k=>be 4 k.num.toNat) (sz:=4) (fun k hk q hq=>by
  have:=xcr hq (by unfold xay;have:=(hkt k hk).1;omega) (by rw [(hkt k hk).1];rfl);rw [(hkt k hk).1] at this
  exact ⟨this,be_length _ _⟩)
 obtain ⟨hpl,hpieces⟩:=hfx;have hpc:=hpieces D (j+1) hL.tail;have hlen:=hL.len hj;simp only [lC] at hlen ⊢;have hk0:∃ k0,v.kids[0]? = some k0:=⟨_,ge hne⟩
 obtain ⟨k0,hk0⟩:=hk0;have hK0:=(hkt k0 (gm hk0)).1
 have hflat:(List.range v.kids.length).map (fun k => .int .i32 (sg 32 (v32 D (j+1) k)))=v.kids.flatMap fun k=>(raw k).cells.toList:=by
  refine xcf (fun k hk => ?_) (fun k v hv => ?_)
  ·have:=(hkt k hk).1;simp [raw,this,Value.cells]
  ·have hk:=(hkt v (gm hv)).1;have tp:=(hkt v (gm hv)).2.pos;have hL':=hpc k v hv;have h3:=xpv hL';simp only [raw,hk,↓reduceIte,Int.reduceEq];rw [h3];exact congrArg _ (sg_32 tp.1 tp.2 ((hkt v (gm hv)).2.s4 hk))
 have arr:∀ W W0,At_ W0 W r s D i->∀ h0:Buf W0 r s D i,Blk W W0.heap.size 133 #[.slice none 0 0]->Calls prog 135 #[.pointer (some ⟨W0.heap.size,0,none⟩),.pointer (some ⟨r,0,none⟩)] W (Gives fun e w'=>e = .nilIface/\At_ W0 w' r s D (j+(p.length+1))/\∃ a n c,Blk w' W0.heap.size 133 #[.slice a n c]/\AnyV (xaf W0) w' (.iface 133 (.slice a n c)) v):=by
  intro W W0 hA h0 hb;refine (xnB W0 W r s D i i j W0.heap.size 133 v.kids.length h0 hA (Nat.le_refl _) hb hne (by omega) hH.2 hL.head (by omega)).mono ?_;rintro e w' ⟨_,rfl,rfl,hP,x,hx,hc⟩;rw [hflat] at hc;obtain ⟨a,cc,hxe⟩:∃ a cc,x = .slice a v.kids.length cc:=by obtain ⟨_,a,cc,e,_⟩:=hc;exact ⟨a,cc,e⟩
  subst hxe;refine ⟨_,rfl,rfl,by rw [show j+(p.length+1)=j+1+v.kids.length*4 by omega];exact hP,_,_,_,hx,?_⟩;have hT:xdE k0.kind=133:=by rw [hK0];rfl
  rw [<- hT];exact .arr hk23 hk0 (by rw [hK0];unfold xaj;omega) (by rw [show xdD k0.kind=1 from (by rw [hK0];rfl)];exact hc)
 rcases hH.1 with ⟨hc0,hj3⟩ | ⟨hc0,hj9⟩
 ·refine xaE w r s D i v 224 (.inl rfl) _ hk23 h hc0 fun W hW => ?_
  refine (xaX 135 133 113 (by decide) r s D i _ W (fun x w'=>AnyV (xaf W) w' (.iface 133 x) v) hW hc0 (by rw [<- hj3];exact hL.head) (fun W' hA hb=>arr W' W hA hW hb)).mono ?_;rintro e w' ⟨x,y,rfl,rfl,hA,z,rfl,hz⟩;exact ⟨_,_,rfl,rfl,hz,hA⟩
 ·refine xaE w r s D i v 240 (.inr rfl) _ hk23 h hc0 fun W hW => ?_
  refine (xaW 135 133 113 (by decide) r s D i _ W (fun x w'=>AnyV (xaf W) w' (.iface 133 x) v) hW hc0 (by rw [<- hj9];exact hL.head) (fun W' hA hb=>arr W' W hA hW hb)).mono ?_;rintro e w' ⟨x,y,rfl,rfl,hA,z,rfl,hz⟩;exact ⟨_,_,rfl,rfl,hz,hA⟩
theorem xqw (w:World) (r:Nat) (s:Value) (D:List UInt8) (i j:Nat) (v:V) (p:List UInt8) (hk23:v.kind=23) (hne:0 < v.kids.length) (hfew:v.kids.length<=1000) (hkt:∀ k ∈ v.kids,k.kind=5/\Tidy k) (hF:xbD v.kids 128 p) (h:Buf w r s D i)
  (hH:xbF r s D i j v.kids.length) (hj:j<=D.length) (hL:Lies D j (128 :: p)):RA w r s D (j+(128 :: p:List UInt8).length) v:=by
 have hfx:=hF.fixed (g:=fun k=>be 8 k.num.toNat) (sz:=8) (fun k hk q hq=>by
  have:=xcr hq (by unfold xay;have:=(hkt k hk).1;omega) (by rw [(hkt k hk).1];rfl);rw [(hkt k hk).1] at this
  exact ⟨this,be_length _ _⟩)
 obtain ⟨hpl,hpieces⟩:=hfx;have hpc:=hpieces D (j+1) hL.tail;have hlen:=hL.len hj;simp only [lC] at hlen ⊢;have hk0:∃ k0,v.kids[0]? = some k0:=⟨_,ge hne⟩
 obtain ⟨k0,hk0⟩:=hk0;have hK0:=(hkt k0 (gm hk0)).1
 have hflat:(List.range v.kids.length).map (fun k => .int .u64 (v64 D (j+1) k))=v.kids.flatMap fun k=>(raw k).cells.toList:=by
  refine xcf (fun k hk => ?_) (fun k v hv => ?_)
  ·have:=(hkt k hk).1;simp [raw,this,Value.cells]
  ·have hk:=(hkt v (gm hv)).1;have tp:=(hkt v (gm hv)).2.pos;have hL':=hpc k v hv;have h2:=tp;have h3:=xob hL';simp only [raw,hk,↓reduceIte,Int.reduceEq];rw [h3];congr 1;omega
 have arr:∀ W W0,At_ W0 W r s D i->∀ h0:Buf W0 r s D i,Blk W W0.heap.size 124 #[.slice none 0 0]->Calls prog 136 #[.pointer (some ⟨W0.heap.size,0,none⟩),.pointer (some ⟨r,0,none⟩)] W (Gives fun e w'=>e = .nilIface/\At_ W0 w' r s D (j+(p.length+1))/\∃ a n c,Blk w' W0.heap.size 124 #[.slice a n c]/\AnyV (xaf W0) w' (.iface 124 (.slice a n c)) v):=by
  intro W W0 hA h0 hb;refine (xlO W0 W r s D i i j W0.heap.size 124 v.kids.length h0 hA (Nat.le_refl _) hb hne (by omega) hH.2 hL.head (by omega)).mono ?_;rintro e w' ⟨_,rfl,rfl,hP,x,hx,hc⟩;rw [hflat] at hc;obtain ⟨a,cc,hxe⟩:∃ a cc,x = .slice a v.kids.length cc:=by obtain ⟨_,a,cc,e,_⟩:=hc;exact ⟨a,cc,e⟩
  subst hxe;refine ⟨_,rfl,rfl,by rw [show j+(p.length+1)=j+1+v.kids.length*8 by omega];exact hP,_,_,_,hx,?_⟩;have hT:xdE k0.kind=124:=by rw [hK0];rfl
  rw [<- hT];exact .arr hk23 hk0 (by rw [hK0];unfold xaj;omega) (by rw [show xdD k0.kind=1 from (by rw [hK0];rfl)];exact hc)
 rcases hH.1 with ⟨hc0,hj3⟩ | ⟨hc0,hj9⟩
 ·refine xaE w r s D i v 224 (.inl rfl) _ hk23 h hc0 fun W hW => ?_
  refine (xaX 136 124 128 (by decide) r s D i _ W (fun x w'=>AnyV (xaf W) w' (.iface 124 x) v) hW hc0 (by rw [<- hj3];exact hL.head) (fun W' hA hb=>arr W' W hA hW hb)).mono ?_;rintro e w' ⟨x,y,rfl,rfl,hA,z,rfl,hz⟩;exact ⟨_,_,rfl,rfl,hz,hA⟩
 ·refine xaE w r s D i v 240 (.inr rfl) _ hk23 h hc0 fun W hW => ?_
  refine (xaW 136 124 128 (by decide) r s D i _ W (fun x w'=>AnyV (xaf W) w' (.iface 124 x) v) hW hc0 (by rw [<- hj9];exact hL.head) (fun W' hA hb=>arr W' W hA hW hb)).mono ?_;rintro e w' ⟨x,y,rfl,rfl,hA,z,rfl,hz⟩;exact ⟨_,_,rfl,rfl,hz,hA⟩
theorem xqv (w:World) (r:Nat) (s:Value) (D:List UInt8) (i j:Nat) (v:V) (p:List UInt8) (hk23:v.kind=23) (hne:0 < v.kids.length) (hfew:v.kids.length<=1000) (hkt:∀ k ∈ v.kids,k.kind=9/\Tidy k) (hF:xbD v.kids 129 p) (h:Buf w r s D i)
  (hH:xbF r s D i j v.kids.length) (hj:j<=D.length) (hL:Lies D j (129 :: p)):RA w r s D (j+(129 :: p:List UInt8).length) v:=by
 have hfx:=hF.fixed (g:=fun k=>be 8 k.num.toNat) (sz:=8) (fun k hk q hq=>by
  have:=xcr hq (by unfold xay;have:=(hkt k hk).1;omega) (by rw [(hkt k hk).1];rfl);rw [(hkt k hk).1] at this
  exact ⟨this,be_length _ _⟩)
 obtain ⟨hpl,hpieces⟩:=hfx;have hpc:=hpieces D (j+1) hL.tail;have hlen:=hL.len hj;simp only [lC] at hlen ⊢;have hk0:∃ k0,v.kids[0]? = some k0:=⟨_,ge hne⟩
 obtain ⟨k0,hk0⟩:=hk0;have hK0:=(hkt k0 (gm hk0)).1
 have hflat:(List.range v.kids.length).map (fun k => .int .i64 (sg 64 (v64 D (j+1) k)))=v.kids.flatMap fun k=>(raw k).cells.toList:=by
  refine xcf (fun k hk => ?_) (fun k v hv => ?_)
  ·have:=(hkt k hk).1;simp [raw,this,Value.cells]
  ·have hk:=(hkt v (gm hv)).1;have tp:=(hkt v (gm hv)).2.pos;have hL':=hpc k v hv;have h3:=xob hL';simp only [raw,hk,↓reduceIte,Int.reduceEq];rw [h3];exact congrArg _ (sg_64 tp.1 tp.2)
 have arr:∀ W W0,At_ W0 W r s D i->∀ h0:Buf W0 r s D i,Blk W W0.heap.size 136 #[.slice none 0 0]->Calls prog 137 #[.pointer (some ⟨W0.heap.size,0,none⟩),.pointer (some ⟨r,0,none⟩)] W (Gives fun e w'=>e = .nilIface/\At_ W0 w' r s D (j+(p.length+1))/\∃ a n c,Blk w' W0.heap.size 136 #[.slice a n c]/\AnyV (xaf W0) w' (.iface 136 (.slice a n c)) v):=by
  intro W W0 hA h0 hb;refine (xnz W0 W r s D i i j W0.heap.size 136 v.kids.length h0 hA (Nat.le_refl _) hb hne (by omega) hH.2 hL.head (by omega)).mono ?_;rintro e w' ⟨_,rfl,rfl,hP,x,hx,hc⟩;rw [hflat] at hc;obtain ⟨a,cc,hxe⟩:∃ a cc,x = .slice a v.kids.length cc:=by obtain ⟨_,a,cc,e,_⟩:=hc;exact ⟨a,cc,e⟩
  subst hxe;refine ⟨_,rfl,rfl,by rw [show j+(p.length+1)=j+1+v.kids.length*8 by omega];exact hP,_,_,_,hx,?_⟩;have hT:xdE k0.kind=136:=by rw [hK0];rfl
  rw [<- hT];exact .arr hk23 hk0 (by rw [hK0];unfold xaj;omega) (by rw [show xdD k0.kind=1 from (by rw [hK0];rfl)];exact hc)
 rcases hH.1 with ⟨hc0,hj3⟩ | ⟨hc0,hj9⟩
 ·refine xaE w r s D i v 224 (.inl rfl) _ hk23 h hc0 fun W hW => ?_
  refine (xaX 137 136 129 (by decide) r s D i _ W (fun x w'=>AnyV (xaf W) w' (.iface 136 x) v) hW hc0 (by rw [<- hj3];exact hL.head) (fun W' hA hb=>arr W' W hA hW hb)).mono ?_;rintro e w' ⟨x,y,rfl,rfl,hA,z,rfl,hz⟩;exact ⟨_,_,rfl,rfl,hz,hA⟩
 ·refine xaE w r s D i v 240 (.inr rfl) _ hk23 h hc0 fun W hW => ?_
  refine (xaW 137 136 129 (by decide) r s D i _ W (fun x w'=>AnyV (xaf W) w' (.iface 136 x) v) hW hc0 (by rw [<- hj9];exact hL.head) (fun W' hA hb=>arr W' W hA hW hb)).mono ?_;rintro e w' ⟨x,y,rfl,rfl,hA,z,rfl,hz⟩;exact ⟨_,_,rfl,rfl,hz,hA⟩
theorem xqx (w:World) (r:Nat) (s:Value) (D:List UInt8) (i j:Nat) (v:V) (p:List UInt8) (hk23:v.kind=23) (hne:0 < v.kids.length) (hfew:v.kids.length<=1000) (hkt:∀ k ∈ v.kids,k.kind=10/\Tidy k) (hF:xbD v.kids 114 p) (h:Buf w r s D i)
  (hH:xbF r s D i j v.kids.length) (hj:j<=D.length) (hL:Lies D j (114 :: p)):RA w r s D (j+(114 :: p:List UInt8).length) v:=by
 have hfx:=hF.fixed (g:=fun k=>be 4 k.num.toNat) (sz:=4) (fun k hk q hq=>by
  have:=xcr hq (by unfold xay;have:=(hkt k hk).1;omega) (by rw [(hkt k hk).1];rfl);rw [(hkt k hk).1] at this
  exact ⟨this,be_length _ _⟩)
 obtain ⟨hpl,hpieces⟩:=hfx;have hpc:=hpieces D (j+1) hL.tail;have hlen:=hL.len hj;simp only [lC] at hlen ⊢;have hk0:∃ k0,v.kids[0]? = some k0:=⟨_,ge hne⟩
 obtain ⟨k0,hk0⟩:=hk0;have hK0:=(hkt k0 (gm hk0)).1
 have hflat:(List.range v.kids.length).map (fun k => .float .f32 (v32 D (j+1) k))=v.kids.flatMap fun k=>(raw k).cells.toList:=by
  refine xcf (fun k hk => ?_) (fun k v hv => ?_)
  ·have:=(hkt k hk).1;simp [raw,this,Value.cells]
  ·have hk:=(hkt v (gm hv)).1;have tp:=(hkt v (gm hv)).2.pos;have hL':=hpc k v hv;have h1:=(hkt v (gm hv)).2.n4 (.inr hk);have h2:=tp;have h3:=xpv hL';simp only [raw,hk,↓reduceIte,Int.reduceEq];rw [h3];congr 1;omega
 have arr:∀ W W0,At_ W0 W r s D i->∀ h0:Buf W0 r s D i,Blk W W0.heap.size 139 #[.slice none 0 0]->Calls prog 138 #[.pointer (some ⟨W0.heap.size,0,none⟩),.pointer (some ⟨r,0,none⟩)] W (Gives fun e w'=>e = .nilIface/\At_ W0 w' r s D (j+(p.length+1))/\∃ a n c,Blk w' W0.heap.size 139 #[.slice a n c]/\AnyV (xaf W0) w' (.iface 139 (.slice a n c)) v):=by
  intro W W0 hA h0 hb;refine (xnE W0 W r s D i i j W0.heap.size 139 v.kids.length h0 hA (Nat.le_refl _) hb hne (by omega) hH.2 hL.head (by omega)).mono ?_;rintro e w' ⟨_,rfl,rfl,hP,x,hx,hc⟩;rw [hflat] at hc;obtain ⟨a,cc,hxe⟩:∃ a cc,x = .slice a v.kids.length cc:=by obtain ⟨_,a,cc,e,_⟩:=hc;exact ⟨a,cc,e⟩
  subst hxe;refine ⟨_,rfl,rfl,by rw [show j+(p.length+1)=j+1+v.kids.length*4 by omega];exact hP,_,_,_,hx,?_⟩;have hT:xdE k0.kind=139:=by rw [hK0];rfl
  rw [<- hT];exact .arr hk23 hk0 (by rw [hK0];unfold xaj;omega) (by rw [show xdD k0.kind=1 from (by rw [hK0];rfl)];exact hc)
 rcases hH.1 with ⟨hc0,hj3⟩ | ⟨hc0,hj9⟩
 ·refine xaE w r s D i v 224 (.inl rfl) _ hk23 h hc0 fun W hW => ?_
  refine (xaX 138 139 114 (by decide) r s D i _ W (fun x w'=>AnyV (xaf W) w' (.iface 139 x) v) hW hc0 (by rw [<- hj3];exact hL.head) (fun W' hA hb=>arr W' W hA hW hb)).mono ?_;rintro e w' ⟨x,y,rfl,rfl,hA,z,rfl,hz⟩;exact ⟨_,_,rfl,rfl,hz,hA⟩
 ·refine xaE w r s D i v 240 (.inr rfl) _ hk23 h hc0 fun W hW => ?_
  refine (xaW 138 139 114 (by decide) r s D i _ W (fun x w'=>AnyV (xaf W) w' (.iface 139 x) v) hW hc0 (by rw [<- hj9];exact hL.head) (fun W' hA hb=>arr W' W hA hW hb)).mono ?_;rintro e w' ⟨x,y,rfl,rfl,hA,z,rfl,hz⟩;exact ⟨_,_,rfl,rfl,hz,hA⟩
theorem xqu (w:World) (r:Nat) (s:Value) (D:List UInt8) (i j:Nat) (v:V) (p:List UInt8) (hk23:v.kind=23) (hne:0 < v.kids.length) (hfew:v.kids.length<=1000) (hkt:∀ k ∈ v.kids,k.kind=11/\Tidy k) (hF:xbD v.kids 130 p) (h:Buf w r s D i)
  (hH:xbF r s D i j v.kids.length) (hj:j<=D.length) (hL:Lies D j (130 :: p)):RA w r s D (j+(130 :: p:List UInt8).length) v:=by
 have hfx:=hF.fixed (g:=fun k=>be 8 k.num.toNat) (sz:=8) (fun k hk q hq=>by
  have:=xcr hq (by unfold xay;have:=(hkt k hk).1;omega) (by rw [(hkt k hk).1];rfl);rw [(hkt k hk).1] at this
  exact ⟨this,be_length _ _⟩)
 obtain ⟨hpl,hpieces⟩:=hfx;have hpc:=hpieces D (j+1) hL.tail;have hlen:=hL.len hj;simp only [lC] at hlen ⊢;have hk0:∃ k0,v.kids[0]? = some k0:=⟨_,ge hne⟩
 obtain ⟨k0,hk0⟩:=hk0;have hK0:=(hkt k0 (gm hk0)).1
 have hflat:(List.range v.kids.length).map (fun k => .float .f64 (v64 D (j+1) k))=v.kids.flatMap fun k=>(raw k).cells.toList:=by
  refine xcf (fun k hk => ?_) (fun k v hv => ?_)
  ·have:=(hkt k hk).1;simp [raw,this,Value.cells]
  ·have hk:=(hkt v (gm hv)).1;have tp:=(hkt v (gm hv)).2.pos;have hL':=hpc k v hv;have h2:=tp;have h3:=xob hL';simp only [raw,hk,↓reduceIte,Int.reduceEq];rw [h3];congr 1;omega
 have arr:∀ W W0,At_ W0 W r s D i->∀ h0:Buf W0 r s D i,Blk W W0.heap.size 142 #[.slice none 0 0]->Calls prog 139 #[.pointer (some ⟨W0.heap.size,0,none⟩),.pointer (some ⟨r,0,none⟩)] W (Gives fun e w'=>e = .nilIface/\At_ W0 w' r s D (j+(p.length+1))/\∃ a n c,Blk w' W0.heap.size 142 #[.slice a n c]/\AnyV (xaf W0) w' (.iface 142 (.slice a n c)) v):=by
  intro W W0 hA h0 hb;refine (xlY W0 W r s D i i j W0.heap.size 142 v.kids.length h0 hA (Nat.le_refl _) hb hne (by omega) hH.2 hL.head (by omega)).mono ?_;rintro e w' ⟨_,rfl,rfl,hP,x,hx,hc⟩;rw [hflat] at hc;obtain ⟨a,cc,hxe⟩:∃ a cc,x = .slice a v.kids.length cc:=by obtain ⟨_,a,cc,e,_⟩:=hc;exact ⟨a,cc,e⟩
  subst hxe;refine ⟨_,rfl,rfl,by rw [show j+(p.length+1)=j+1+v.kids.length*8 by omega];exact hP,_,_,_,hx,?_⟩;have hT:xdE k0.kind=142:=by rw [hK0];rfl
  rw [<- hT];exact .arr hk23 hk0 (by rw [hK0];unfold xaj;omega) (by rw [show xdD k0.kind=1 from (by rw [hK0];rfl)];exact hc)
 rcases hH.1 with ⟨hc0,hj3⟩ | ⟨hc0,hj9⟩
 ·refine xaE w r s D i v 224 (.inl rfl) _ hk23 h hc0 fun W hW => ?_
  refine (xaX 139 142 130 (by decide) r s D i _ W (fun x w'=>AnyV (xaf W) w' (.iface 142 x) v) hW hc0 (by rw [<- hj3];exact hL.head) (fun W' hA hb=>arr W' W hA hW hb)).mono ?_;rintro e w' ⟨x,y,rfl,rfl,hA,z,rfl,hz⟩;exact ⟨_,_,rfl,rfl,hz,hA⟩
 ·refine xaE w r s D i v 240 (.inr rfl) _ hk23 h hc0 fun W hW => ?_
  refine (xaW 139 142 130 (by decide) r s D i _ W (fun x w'=>AnyV (xaf W) w' (.iface 142 x) v) hW hc0 (by rw [<- hj9];exact hL.head) (fun W' hA hb=>arr W' W hA hW hb)).mono ?_;rintro e w' ⟨x,y,rfl,rfl,hA,z,rfl,hz⟩;exact ⟨_,_,rfl,rfl,hz,hA⟩
end Go.Proofs.YtmdpodeegdjkeaaGreatDoor
