/- Part 24 of the proof of the readers and the guards. No conditions. -/
import Derived.Test.YtmdpodeegdjkeaaGreatDoorU0
import Derived.Test.YtmdpodeegdjkeaaGreatDoorU23
set_option maxRecDepth 100000
set_option maxHeartbeats 3200000
namespace Go.Proofs.YtmdpodeegdjkeaaGreatDoor
open Go Go.RowKit Go.Lib Tryz
theorem xbD.each {l:List V} {c:Nat} {d:List UInt8} (h:xbD l c d):∀ v ∈ l,∃ q,Form v c q:=by
 induction l generalizing d with
 | nil=>intro v hv;cases hv
 | cons a l ih =>
  cases h with
  | cons h1 h2 =>
   intro v hv
   rcases List.mem_cons.1 hv with rfl | hv
   ·exact ⟨_,h1⟩
   ·exact ih h2 v hv
theorem xqH (w:World) (r:Nat) (s:Value) (D:List UInt8) (i j:Nat) (v:V) (p:List UInt8) (hk23:v.kind=23) (hne:0 < v.kids.length) (hfew:v.kids.length<=1000) (hkt:∀ k ∈ v.kids,k.kind=6/\Tidy k) (hF:xbD v.kids 81 p) (h:Buf w r s D i)
  (hH:xbF r s D i j v.kids.length) (hj:j<=D.length) (hL:Lies D j (81 :: p)):RA w r s D (j+(81 :: p:List UInt8).length) v:=by
 have hfx:=hF.fixed (g:=fun k=>be 1 k.num.toNat) (sz:=1) (fun k hk q hq=>by
  have:=xcr hq (by unfold xay;have:=(hkt k hk).1;omega) (by rw [(hkt k hk).1];rfl);rw [(hkt k hk).1] at this
  exact ⟨this,be_length _ _⟩)
 obtain ⟨hpl,hpieces⟩:=hfx;have hpc:=hpieces D (j+1) hL.tail;have hlen:=hL.len hj;simp only [lC] at hlen ⊢;have hk0:∃ k0,v.kids[0]? = some k0:=⟨_,ge hne⟩
 obtain ⟨k0,hk0⟩:=hk0;have hK0:=(hkt k0 (gm hk0)).1
 have hflat:(List.range v.kids.length).map (fun k => .int .i8 (sg 8 ((at0 D (j+1+k)).toNat)))=v.kids.flatMap fun k=>(raw k).cells.toList:=by
  refine xcf (fun k hk => ?_) (fun k v hv => ?_)
  ·have:=(hkt k hk).1;simp [raw,this,Value.cells]
  ·have hk:=(hkt v (gm hv)).1;have tp:=(hkt v (gm hv)).2.pos;have hL':=hpc k v hv;have h3:=xmJ hL';simp only [raw,hk,↓reduceIte,Int.reduceEq];rw [h3];exact congrArg _ (sg_8 tp.1 tp.2 ((hkt v (gm hv)).2.s1 hk))
 have arr:∀ W W0,At_ W0 W r s D i->∀ h0:Buf W0 r s D i,Blk W W0.heap.size 127 #[.slice none 0 0]->Calls prog 131 #[.pointer (some ⟨W0.heap.size,0,none⟩),.pointer (some ⟨r,0,none⟩)] W (Gives fun e w'=>e = .nilIface/\At_ W0 w' r s D (j+(p.length+1))/\∃ a n c,Blk w' W0.heap.size 127 #[.slice a n c]/\AnyV (xaf W0) w' (.iface 127 (.slice a n c)) v):=by
  intro W W0 hA h0 hb;refine (xpd W0 W r s D i i j W0.heap.size 127 v.kids.length h0 hA (Nat.le_refl _) hb hne (by omega) hH.2 hL.head (by omega)).mono ?_;rintro e w' ⟨_,rfl,rfl,hP,x,hx,hc⟩;rw [hflat] at hc;obtain ⟨a,cc,hxe⟩:∃ a cc,x = .slice a v.kids.length cc:=by obtain ⟨_,a,cc,e,_⟩:=hc;exact ⟨a,cc,e⟩
  subst hxe;refine ⟨_,rfl,rfl,by rw [show j+(p.length+1)=j+1+v.kids.length by omega];exact hP,_,_,_,hx,?_⟩;have hT:xdE k0.kind=127:=by rw [hK0];rfl
  rw [<- hT];exact .arr hk23 hk0 (by rw [hK0];unfold xaj;omega) (by rw [show xdD k0.kind=1 from (by rw [hK0];rfl)];exact hc)
 rcases hH.1 with ⟨hc0,hj3⟩ | ⟨hc0,hj9⟩
 ·refine xaE w r s D i v 224 (.inl rfl) _ hk23 h hc0 fun W hW => ?_
  refine (xaX 131 127 81 (by decide) r s D i _ W (fun x w'=>AnyV (xaf W) w' (.iface 127 x) v) hW hc0 (by rw [<- hj3];exact hL.head) (fun W' hA hb=>arr W' W hA hW hb)).mono ?_;rintro e w' ⟨x,y,rfl,rfl,hA,z,rfl,hz⟩;exact ⟨_,_,rfl,rfl,hz,hA⟩
 ·refine xaE w r s D i v 240 (.inr rfl) _ hk23 h hc0 fun W hW => ?_
  refine (xaW 131 127 81 (by decide) r s D i _ W (fun x w'=>AnyV (xaf W) w' (.iface 127 x) v) hW hc0 (by rw [<- hj9];exact hL.head) (fun W' hA hb=>arr W' W hA hW hb)).mono ?_;rintro e w' ⟨x,y,rfl,rfl,hA,z,rfl,hz⟩;exact ⟨_,_,rfl,rfl,hz,hA⟩
theorem xqG (w:World) (r:Nat) (s:Value) (D:List UInt8) (i j:Nat) (v:V) (p:List UInt8) (hk23:v.kind=23) (hne:0 < v.kids.length) (hfew:v.kids.length<=1000) (hkt:∀ k ∈ v.kids,k.kind=4/\Tidy k) (hF:xbD v.kids 82 p) (h:Buf w r s D i)
  (hH:xbF r s D i j v.kids.length) (hj:j<=D.length) (hL:Lies D j (82 :: p)):RA w r s D (j+(82 :: p:List UInt8).length) v:=by
 have hfx:=hF.fixed (g:=fun k=>be 1 k.num.toNat) (sz:=1) (fun k hk q hq=>by
  have:=(xbU hq (by have:=(hkt k hk).1;omega)).1
  exact ⟨this,be_length _ _⟩)
 obtain ⟨hpl,hpieces⟩:=hfx;have hpc:=hpieces D (j+1) hL.tail;have hlen:=hL.len hj;simp only [lC] at hlen ⊢;have hk0:∃ k0,v.kids[0]? = some k0:=⟨_,ge hne⟩
 obtain ⟨k0,hk0⟩:=hk0;have hK0:=(hkt k0 (gm hk0)).1
 have hflat:(List.range v.kids.length).map (fun k => .int .u32 ((at0 D (j+1+k)).toNat:Nat))=v.kids.flatMap fun k=>(raw k).cells.toList:=by
  refine xcf (fun k hk => ?_) (fun k v hv => ?_)
  ·have:=(hkt k hk).1;simp [raw,this,Value.cells]
  ·have hk:=(hkt v (gm hv)).1;have tp:=(hkt v (gm hv)).2.pos;have hL':=hpc k v hv;obtain ⟨q,hq⟩:=hF.each v (gm hv);have h9:=(xbU hq (by omega)).2.1 (by omega);have h3:=xmJ hL';simp only [raw,hk,↓reduceIte,Int.reduceEq];rw [h3];congr 1;omega
 have arr:∀ W W0,At_ W0 W r s D i->∀ h0:Buf W0 r s D i,Blk W W0.heap.size 121 #[.slice none 0 0]->Calls prog 134 #[.pointer (some ⟨W0.heap.size,0,none⟩),.pointer (some ⟨r,0,none⟩)] W (Gives fun e w'=>e = .nilIface/\At_ W0 w' r s D (j+(p.length+1))/\∃ a n c,Blk w' W0.heap.size 121 #[.slice a n c]/\AnyV (xaf W0) w' (.iface 121 (.slice a n c)) v):=by
  intro W W0 hA h0 hb;refine (xlR W0 W r s D i i j W0.heap.size 121 v.kids.length h0 hA (Nat.le_refl _) hb hne (by omega) hH.2 hL.head (by omega)).mono ?_;rintro e w' ⟨_,rfl,rfl,hP,x,hx,hc⟩;rw [hflat] at hc;obtain ⟨a,cc,hxe⟩:∃ a cc,x = .slice a v.kids.length cc:=by obtain ⟨_,a,cc,e,_⟩:=hc;exact ⟨a,cc,e⟩
  subst hxe;refine ⟨_,rfl,rfl,by rw [show j+(p.length+1)=j+1+v.kids.length by omega];exact hP,_,_,_,hx,?_⟩;have hT:xdE k0.kind=121:=by rw [hK0];rfl
  rw [<- hT];exact .arr hk23 hk0 (by rw [hK0];unfold xaj;omega) (by rw [show xdD k0.kind=1 from (by rw [hK0];rfl)];exact hc)
 rcases hH.1 with ⟨hc0,hj3⟩ | ⟨hc0,hj9⟩
 ·refine xaE w r s D i v 224 (.inl rfl) _ hk23 h hc0 fun W hW => ?_
  refine (xaX 134 121 82 (by decide) r s D i _ W (fun x w'=>AnyV (xaf W) w' (.iface 121 x) v) hW hc0 (by rw [<- hj3];exact hL.head) (fun W' hA hb=>arr W' W hA hW hb)).mono ?_;rintro e w' ⟨x,y,rfl,rfl,hA,z,rfl,hz⟩;exact ⟨_,_,rfl,rfl,hz,hA⟩
 ·refine xaE w r s D i v 240 (.inr rfl) _ hk23 h hc0 fun W hW => ?_
  refine (xaW 134 121 82 (by decide) r s D i _ W (fun x w'=>AnyV (xaf W) w' (.iface 121 x) v) hW hc0 (by rw [<- hj9];exact hL.head) (fun W' hA hb=>arr W' W hA hW hb)).mono ?_;rintro e w' ⟨x,y,rfl,rfl,hA,z,rfl,hz⟩;exact ⟨_,_,rfl,rfl,hz,hA⟩
theorem xqF (w:World) (r:Nat) (s:Value) (D:List UInt8) (i j:Nat) (v:V) (p:List UInt8) (hk23:v.kind=23) (hne:0 < v.kids.length) (hfew:v.kids.length<=1000) (hkt:∀ k ∈ v.kids,k.kind=5/\Tidy k) (hF:xbD v.kids 83 p) (h:Buf w r s D i)
  (hH:xbF r s D i j v.kids.length) (hj:j<=D.length) (hL:Lies D j (83 :: p)):RA w r s D (j+(83 :: p:List UInt8).length) v:=by
 have hfx:=hF.fixed (g:=fun k=>be 1 k.num.toNat) (sz:=1) (fun k hk q hq=>by
  have:=(xbU hq (by have:=(hkt k hk).1;omega)).1
  exact ⟨this,be_length _ _⟩)
 obtain ⟨hpl,hpieces⟩:=hfx;have hpc:=hpieces D (j+1) hL.tail;have hlen:=hL.len hj;simp only [lC] at hlen ⊢;have hk0:∃ k0,v.kids[0]? = some k0:=⟨_,ge hne⟩
 obtain ⟨k0,hk0⟩:=hk0;have hK0:=(hkt k0 (gm hk0)).1
 have hflat:(List.range v.kids.length).map (fun k => .int .u64 ((at0 D (j+1+k)).toNat:Nat))=v.kids.flatMap fun k=>(raw k).cells.toList:=by
  refine xcf (fun k hk => ?_) (fun k v hv => ?_)
  ·have:=(hkt k hk).1;simp [raw,this,Value.cells]
  ·have hk:=(hkt v (gm hv)).1;have tp:=(hkt v (gm hv)).2.pos;have hL':=hpc k v hv;obtain ⟨q,hq⟩:=hF.each v (gm hv);have h9:=(xbU hq (by omega)).2.1 (by omega);have h3:=xmJ hL';simp only [raw,hk,↓reduceIte,Int.reduceEq];rw [h3];congr 1;omega
 have arr:∀ W W0,At_ W0 W r s D i->∀ h0:Buf W0 r s D i,Blk W W0.heap.size 124 #[.slice none 0 0]->Calls prog 136 #[.pointer (some ⟨W0.heap.size,0,none⟩),.pointer (some ⟨r,0,none⟩)] W (Gives fun e w'=>e = .nilIface/\At_ W0 w' r s D (j+(p.length+1))/\∃ a n c,Blk w' W0.heap.size 124 #[.slice a n c]/\AnyV (xaf W0) w' (.iface 124 (.slice a n c)) v):=by
  intro W W0 hA h0 hb;refine (xlP W0 W r s D i i j W0.heap.size 124 v.kids.length h0 hA (Nat.le_refl _) hb hne (by omega) hH.2 hL.head (by omega)).mono ?_;rintro e w' ⟨_,rfl,rfl,hP,x,hx,hc⟩;rw [hflat] at hc;obtain ⟨a,cc,hxe⟩:∃ a cc,x = .slice a v.kids.length cc:=by obtain ⟨_,a,cc,e,_⟩:=hc;exact ⟨a,cc,e⟩
  subst hxe;refine ⟨_,rfl,rfl,by rw [show j+(p.length+1)=j+1+v.kids.length by omega];exact hP,_,_,_,hx,?_⟩;have hT:xdE k0.kind=124:=by rw [hK0];rfl
  rw [<- hT];exact .arr hk23 hk0 (by rw [hK0];unfold xaj;omega) (by rw [show xdD k0.kind=1 from (by rw [hK0];rfl)];exact hc)
 rcases hH.1 with ⟨hc0,hj3⟩ | ⟨hc0,hj9⟩
 ·refine xaE w r s D i v 224 (.inl rfl) _ hk23 h hc0 fun W hW => ?_
  refine (xaX 136 124 83 (by decide) r s D i _ W (fun x w'=>AnyV (xaf W) w' (.iface 124 x) v) hW hc0 (by rw [<- hj3];exact hL.head) (fun W' hA hb=>arr W' W hA hW hb)).mono ?_;rintro e w' ⟨x,y,rfl,rfl,hA,z,rfl,hz⟩;exact ⟨_,_,rfl,rfl,hz,hA⟩
 ·refine xaE w r s D i v 240 (.inr rfl) _ hk23 h hc0 fun W hW => ?_
  refine (xaW 136 124 83 (by decide) r s D i _ W (fun x w'=>AnyV (xaf W) w' (.iface 124 x) v) hW hc0 (by rw [<- hj9];exact hL.head) (fun W' hA hb=>arr W' W hA hW hb)).mono ?_;rintro e w' ⟨x,y,rfl,rfl,hA,z,rfl,hz⟩;exact ⟨_,_,rfl,rfl,hz,hA⟩
theorem xqE (w:World) (r:Nat) (s:Value) (D:List UInt8) (i j:Nat) (v:V) (p:List UInt8) (hk23:v.kind=23) (hne:0 < v.kids.length) (hfew:v.kids.length<=1000) (hkt:∀ k ∈ v.kids,k.kind=8/\Tidy k) (hF:xbD v.kids 84 p) (h:Buf w r s D i)
  (hH:xbF r s D i j v.kids.length) (hj:j<=D.length) (hL:Lies D j (84 :: p)):RA w r s D (j+(84 :: p:List UInt8).length) v:=by
 have hfx:=hF.fixed (g:=fun k=>be 1 k.num.toNat) (sz:=1) (fun k hk q hq=>by
  have:=(xbU hq (by have:=(hkt k hk).1;omega)).1
  exact ⟨this,be_length _ _⟩)
 obtain ⟨hpl,hpieces⟩:=hfx;have hpc:=hpieces D (j+1) hL.tail;have hlen:=hL.len hj;simp only [lC] at hlen ⊢;have hk0:∃ k0,v.kids[0]? = some k0:=⟨_,ge hne⟩
 obtain ⟨k0,hk0⟩:=hk0;have hK0:=(hkt k0 (gm hk0)).1
 have hflat:(List.range v.kids.length).map (fun k => .int .i32 (sg 8 ((at0 D (j+1+k)).toNat)))=v.kids.flatMap fun k=>(raw k).cells.toList:=by
  refine xcf (fun k hk => ?_) (fun k v hv => ?_)
  ·have:=(hkt k hk).1;simp [raw,this,Value.cells]
  ·have hk:=(hkt v (gm hv)).1;have tp:=(hkt v (gm hv)).2.pos;have hL':=hpc k v hv;obtain ⟨q,hq⟩:=hF.each v (gm hv);have h9:=(xbU hq (by omega)).2.2 (by omega);have h3:=xmJ hL';simp only [raw,hk,↓reduceIte,Int.reduceEq];rw [h3];exact congrArg _ (sg_8 tp.1 tp.2 h9)
 have arr:∀ W W0,At_ W0 W r s D i->∀ h0:Buf W0 r s D i,Blk W W0.heap.size 133 #[.slice none 0 0]->Calls prog 135 #[.pointer (some ⟨W0.heap.size,0,none⟩),.pointer (some ⟨r,0,none⟩)] W (Gives fun e w'=>e = .nilIface/\At_ W0 w' r s D (j+(p.length+1))/\∃ a n c,Blk w' W0.heap.size 133 #[.slice a n c]/\AnyV (xaf W0) w' (.iface 133 (.slice a n c)) v):=by
  intro W W0 hA h0 hb;refine (xnC W0 W r s D i i j W0.heap.size 133 v.kids.length h0 hA (Nat.le_refl _) hb hne (by omega) hH.2 hL.head (by omega)).mono ?_;rintro e w' ⟨_,rfl,rfl,hP,x,hx,hc⟩;rw [hflat] at hc;obtain ⟨a,cc,hxe⟩:∃ a cc,x = .slice a v.kids.length cc:=by obtain ⟨_,a,cc,e,_⟩:=hc;exact ⟨a,cc,e⟩
  subst hxe;refine ⟨_,rfl,rfl,by rw [show j+(p.length+1)=j+1+v.kids.length by omega];exact hP,_,_,_,hx,?_⟩;have hT:xdE k0.kind=133:=by rw [hK0];rfl
  rw [<- hT];exact .arr hk23 hk0 (by rw [hK0];unfold xaj;omega) (by rw [show xdD k0.kind=1 from (by rw [hK0];rfl)];exact hc)
 rcases hH.1 with ⟨hc0,hj3⟩ | ⟨hc0,hj9⟩
 ·refine xaE w r s D i v 224 (.inl rfl) _ hk23 h hc0 fun W hW => ?_
  refine (xaX 135 133 84 (by decide) r s D i _ W (fun x w'=>AnyV (xaf W) w' (.iface 133 x) v) hW hc0 (by rw [<- hj3];exact hL.head) (fun W' hA hb=>arr W' W hA hW hb)).mono ?_;rintro e w' ⟨x,y,rfl,rfl,hA,z,rfl,hz⟩;exact ⟨_,_,rfl,rfl,hz,hA⟩
 ·refine xaE w r s D i v 240 (.inr rfl) _ hk23 h hc0 fun W hW => ?_
  refine (xaW 135 133 84 (by decide) r s D i _ W (fun x w'=>AnyV (xaf W) w' (.iface 133 x) v) hW hc0 (by rw [<- hj9];exact hL.head) (fun W' hA hb=>arr W' W hA hW hb)).mono ?_;rintro e w' ⟨x,y,rfl,rfl,hA,z,rfl,hz⟩;exact ⟨_,_,rfl,rfl,hz,hA⟩
theorem xqD (w:World) (r:Nat) (s:Value) (D:List UInt8) (i j:Nat) (v:V) (p:List UInt8) (hk23:v.kind=23) (hne:0 < v.kids.length) (hfew:v.kids.length<=1000) (hkt:∀ k ∈ v.kids,k.kind=9/\Tidy k) (hF:xbD v.kids 85 p) (h:Buf w r s D i)
  (hH:xbF r s D i j v.kids.length) (hj:j<=D.length) (hL:Lies D j (85 :: p)):RA w r s D (j+(85 :: p:List UInt8).length) v:=by
 have hfx:=hF.fixed (g:=fun k=>be 1 k.num.toNat) (sz:=1) (fun k hk q hq=>by
  have:=(xbU hq (by have:=(hkt k hk).1;omega)).1
  exact ⟨this,be_length _ _⟩)
 obtain ⟨hpl,hpieces⟩:=hfx;have hpc:=hpieces D (j+1) hL.tail;have hlen:=hL.len hj;simp only [lC] at hlen ⊢;have hk0:∃ k0,v.kids[0]? = some k0:=⟨_,ge hne⟩
 obtain ⟨k0,hk0⟩:=hk0;have hK0:=(hkt k0 (gm hk0)).1
 have hflat:(List.range v.kids.length).map (fun k => .int .i64 (sg 8 ((at0 D (j+1+k)).toNat)))=v.kids.flatMap fun k=>(raw k).cells.toList:=by
  refine xcf (fun k hk => ?_) (fun k v hv => ?_)
  ·have:=(hkt k hk).1;simp [raw,this,Value.cells]
  ·have hk:=(hkt v (gm hv)).1;have tp:=(hkt v (gm hv)).2.pos;have hL':=hpc k v hv;obtain ⟨q,hq⟩:=hF.each v (gm hv);have h9:=(xbU hq (by omega)).2.2 (by omega);have h3:=xmJ hL';simp only [raw,hk,↓reduceIte,Int.reduceEq];rw [h3];exact congrArg _ (sg_8 tp.1 tp.2 h9)
 have arr:∀ W W0,At_ W0 W r s D i->∀ h0:Buf W0 r s D i,Blk W W0.heap.size 136 #[.slice none 0 0]->Calls prog 137 #[.pointer (some ⟨W0.heap.size,0,none⟩),.pointer (some ⟨r,0,none⟩)] W (Gives fun e w'=>e = .nilIface/\At_ W0 w' r s D (j+(p.length+1))/\∃ a n c,Blk w' W0.heap.size 136 #[.slice a n c]/\AnyV (xaf W0) w' (.iface 136 (.slice a n c)) v):=by
  intro W W0 hA h0 hb;refine (xnA W0 W r s D i i j W0.heap.size 136 v.kids.length h0 hA (Nat.le_refl _) hb hne (by omega) hH.2 hL.head (by omega)).mono ?_;rintro e w' ⟨_,rfl,rfl,hP,x,hx,hc⟩;rw [hflat] at hc;obtain ⟨a,cc,hxe⟩:∃ a cc,x = .slice a v.kids.length cc:=by obtain ⟨_,a,cc,e,_⟩:=hc;exact ⟨a,cc,e⟩
  subst hxe;refine ⟨_,rfl,rfl,by rw [show j+(p.length+1)=j+1+v.kids.length by omega];exact hP,_,_,_,hx,?_⟩;have hT:xdE k0.kind=136:=by rw [hK0];rfl
  rw [<- hT];exact .arr hk23 hk0 (by rw [hK0];unfold xaj;omega) (by rw [show xdD k0.kind=1 from (by rw [hK0];rfl)];exact hc)
 rcases hH.1 with ⟨hc0,hj3⟩ | ⟨hc0,hj9⟩
 ·refine xaE w r s D i v 224 (.inl rfl) _ hk23 h hc0 fun W hW => ?_
  refine (xaX 137 136 85 (by decide) r s D i _ W (fun x w'=>AnyV (xaf W) w' (.iface 136 x) v) hW hc0 (by rw [<- hj3];exact hL.head) (fun W' hA hb=>arr W' W hA hW hb)).mono ?_;rintro e w' ⟨x,y,rfl,rfl,hA,z,rfl,hz⟩;exact ⟨_,_,rfl,rfl,hz,hA⟩
 ·refine xaE w r s D i v 240 (.inr rfl) _ hk23 h hc0 fun W hW => ?_
  refine (xaW 137 136 85 (by decide) r s D i _ W (fun x w'=>AnyV (xaf W) w' (.iface 136 x) v) hW hc0 (by rw [<- hj9];exact hL.head) (fun W' hA hb=>arr W' W hA hW hb)).mono ?_;rintro e w' ⟨x,y,rfl,rfl,hA,z,rfl,hz⟩;exact ⟨_,_,rfl,rfl,hz,hA⟩
theorem xqC (w:World) (r:Nat) (s:Value) (D:List UInt8) (i j:Nat) (v:V) (p:List UInt8) (hk23:v.kind=23) (hne:0 < v.kids.length) (hfew:v.kids.length<=1000) (hkt:∀ k ∈ v.kids,k.kind=1/\Tidy k) (hF:xbD v.kids 86 p) (h:Buf w r s D i)
  (hH:xbF r s D i j v.kids.length) (hj:j<=D.length) (hL:Lies D j (86 :: p)):RA w r s D (j+(86 :: p:List UInt8).length) v:=by
 have hfx:=hF.fixed (g:=fun k=>be 1 k.num.toNat) (sz:=1) (fun k hk q hq=>by
  have:=xoj hq (hkt k hk).1 rfl
  exact ⟨this,be_length _ _⟩)
 obtain ⟨hpl,hpieces⟩:=hfx;have hpc:=hpieces D (j+1) hL.tail;have hlen:=hL.len hj;simp only [lC] at hlen ⊢;have hk0:∃ k0,v.kids[0]? = some k0:=⟨_,ge hne⟩
 obtain ⟨k0,hk0⟩:=hk0;have hK0:=(hkt k0 (gm hk0)).1
 have hflat:(List.range v.kids.length).map (fun k=>bv D (j+1) k)=v.kids.flatMap fun k=>(raw k).cells.toList:=by
  refine xcf (fun k hk => ?_) (fun k v hv => ?_)
  ·have:=(hkt k hk).1;simp [raw,this,Value.cells]
  ·have hk:=(hkt v (gm hv)).1;have tp:=(hkt v (gm hv)).2.pos;have hL':=hpc k v hv;have h9:=(hkt v (gm hv)).2.flag hk;have h3:=xmJ hL';unfold bv;rw [h3];simp only [raw,hk,↓reduceIte];congr 1;rw [decide_eq_decide];omega
 have arr:∀ W W0,At_ W0 W r s D i->∀ h0:Buf W0 r s D i,Blk W W0.heap.size 113 #[.slice none 0 0]->Calls prog 140 #[.pointer (some ⟨W0.heap.size,0,none⟩),.pointer (some ⟨r,0,none⟩)] W (Gives fun e w'=>e = .nilIface/\At_ W0 w' r s D (j+(p.length+1))/\∃ a n c,Blk w' W0.heap.size 113 #[.slice a n c]/\AnyV (xaf W0) w' (.iface 113 (.slice a n c)) v):=by
  intro W W0 hA h0 hb;refine (xpe W0 W r s D i i j W0.heap.size 113 v.kids.length h0 hA (Nat.le_refl _) hb hne (by omega) hH.2 hL.head (by omega)).mono ?_;rintro e w' ⟨_,rfl,rfl,hP,x,hx,hc⟩;rw [hflat] at hc;obtain ⟨a,cc,hxe⟩:∃ a cc,x = .slice a v.kids.length cc:=by obtain ⟨_,a,cc,e,_⟩:=hc;exact ⟨a,cc,e⟩
  subst hxe;refine ⟨_,rfl,rfl,by rw [show j+(p.length+1)=j+1+v.kids.length by omega];exact hP,_,_,_,hx,?_⟩;have hT:xdE k0.kind=113:=by rw [hK0];rfl
  rw [<- hT];exact .arr hk23 hk0 (by rw [hK0];unfold xaj;omega) (by rw [show xdD k0.kind=1 from (by rw [hK0];rfl)];exact hc)
 rcases hH.1 with ⟨hc0,hj3⟩ | ⟨hc0,hj9⟩
 ·refine xaE w r s D i v 224 (.inl rfl) _ hk23 h hc0 fun W hW => ?_
  refine (xaX 140 113 86 (by decide) r s D i _ W (fun x w'=>AnyV (xaf W) w' (.iface 113 x) v) hW hc0 (by rw [<- hj3];exact hL.head) (fun W' hA hb=>arr W' W hA hW hb)).mono ?_;rintro e w' ⟨x,y,rfl,rfl,hA,z,rfl,hz⟩;exact ⟨_,_,rfl,rfl,hz,hA⟩
 ·refine xaE w r s D i v 240 (.inr rfl) _ hk23 h hc0 fun W hW => ?_
  refine (xaW 140 113 86 (by decide) r s D i _ W (fun x w'=>AnyV (xaf W) w' (.iface 113 x) v) hW hc0 (by rw [<- hj9];exact hL.head) (fun W' hA hb=>arr W' W hA hW hb)).mono ?_;rintro e w' ⟨x,y,rfl,rfl,hA,z,rfl,hz⟩;exact ⟨_,_,rfl,rfl,hz,hA⟩
theorem sub_map {D:List UInt8} {b n:Nat} (h:b+n<=D.length):(sub D b n).map u8=(List.range n).map fun k=>u8 (at0 D (b+k)):=by
 apply List.ext_getElem?;intro k;rw [gM,gM]
 rcases Nat.lt_or_ge k n with hk | hk
 ·rw [List.getElem?_range hk];unfold sub;rw [List.getElem?_take,if_pos hk,List.getElem?_drop,xag (show b+k < D.length by omega)]
  rfl
 ·rw [List.getElem?_eq_none (by rw [xgx D b n h];exact hk),List.getElem?_eq_none (by simpa using hk)];rfl
theorem xqI (w:World) (r:Nat) (s:Value) (D:List UInt8) (i j:Nat) (v:V) (p:List UInt8) (hk23:v.kind=23) (hne:0 < v.kids.length) (hfew:v.kids.length<=1000) (hkt:∀ k ∈ v.kids,k.kind=2/\Tidy k) (hF:xbD v.kids 80 p) (h:Buf w r s D i)
  (hH:xbF r s D i j v.kids.length) (hj:j<=D.length) (hL:Lies D j (80 :: p)):RA w r s D (j+(80 :: p:List UInt8).length) v:=by
 have hfx:=hF.fixed (g:=fun k=>be 1 k.num.toNat) (sz:=1) (fun k hk q hq=>by
  have:=xcr hq (by unfold xay;have:=(hkt k hk).1;omega) (by rw [(hkt k hk).1];rfl);rw [(hkt k hk).1] at this
  exact ⟨this,be_length _ _⟩)
 obtain ⟨hpl,hpieces⟩:=hfx;have hpc:=hpieces D (j+1) hL.tail;have hlen:=hL.len hj;simp only [lC] at hlen ⊢;have hk0:∃ k0,v.kids[0]? = some k0:=⟨_,ge hne⟩
 obtain ⟨k0,hk0⟩:=hk0;have hK0:=(hkt k0 (gm hk0)).1
 have hflat:(List.range v.kids.length).map (fun k=>u8 (at0 D (j+1+k)))=v.kids.flatMap fun k=>(raw k).cells.toList:=by
  refine xcf (fun k hk => ?_) (fun k v hv => ?_)
  ·have:=(hkt k hk).1;simp [raw,this,Value.cells]
  ·have hk:=(hkt v (gm hv)).1;have tp:=(hkt v (gm hv)).2.pos;have hL':=hpc k v hv;have h9:=(hkt v (gm hv)).2.n1 hk;have h3:=xmJ hL';unfold u8;rw [h3];simp only [raw,hk,↓reduceIte,Int.reduceEq];congr 1;omega
 have arr:∀ W W0,At_ W0 W r s D i->∀ h0:Buf W0 r s D i,Blk W W0.heap.size 115 #[.slice none 0 0]->Calls prog 181 #[.pointer (some ⟨W0.heap.size,0,none⟩),.pointer (some ⟨r,0,none⟩)] W (Gives fun e w'=>e = .nilIface/\At_ W0 w' r s D (j+(p.length+1))/\∃ a n c,Blk w' W0.heap.size 115 #[.slice a n c]/\AnyV (xaf W0) w' (.iface 115 (.slice a n c)) v):=by
  intro W W0 hA h0 hb;refine (xnx W0 W r s D i i j W0.heap.size 115 v.kids.length h0 hA (Nat.le_refl _) hb (by omega) hH.2 hL.head (by omega)).mono ?_;rintro e w' ⟨_,rfl,rfl,hP,x,hx,hc⟩;rw [sub_map (by omega),hflat] at hc;obtain ⟨a,cc,hxe⟩:∃ a cc,x = .slice a v.kids.length cc:=by obtain ⟨_,a,cc,e,_⟩:=hc;exact ⟨a,cc,e⟩
  subst hxe;refine ⟨_,rfl,rfl,by rw [show j+(p.length+1)=j+1+v.kids.length by omega];exact hP,_,_,_,hx,?_⟩;have hT:xdE k0.kind=115:=by rw [hK0];rfl
  rw [<- hT];exact .arr hk23 hk0 (by rw [hK0];unfold xaj;omega) (by rw [show xdD k0.kind=1 from (by rw [hK0];rfl)];exact hc)
 rcases hH.1 with ⟨hc0,hj3⟩ | ⟨hc0,hj9⟩
 ·refine xaE w r s D i v 224 (.inl rfl) _ hk23 h hc0 fun W hW => ?_
  refine (xaX 181 115 80 (by decide) r s D i _ W (fun x w'=>AnyV (xaf W) w' (.iface 115 x) v) hW hc0 (by rw [<- hj3];exact hL.head) (fun W' hA hb=>arr W' W hA hW hb)).mono ?_;rintro e w' ⟨x,y,rfl,rfl,hA,z,rfl,hz⟩;exact ⟨_,_,rfl,rfl,hz,hA⟩
 ·refine xaE w r s D i v 240 (.inr rfl) _ hk23 h hc0 fun W hW => ?_
  refine (xaW 181 115 80 (by decide) r s D i _ W (fun x w'=>AnyV (xaf W) w' (.iface 115 x) v) hW hc0 (by rw [<- hj9];exact hL.head) (fun W' hA hb=>arr W' W hA hW hb)).mono ?_;rintro e w' ⟨x,y,rfl,rfl,hA,z,rfl,hz⟩;exact ⟨_,_,rfl,rfl,hz,hA⟩
theorem xlu {l:List V} {f:Nat->Value} {sz:Nat} (h1:∀ v ∈ l,(raw v).cells.toList.length=sz) (h2:∀ (k:Nat) (v:V),l[k]? = some v->∀ m,m < sz->(raw v).cells.toList[m]? = some (f (k*sz+m))):(List.range (l.length*sz)).map f=l.flatMap fun k=>(raw k).cells.toList:=by
 induction l generalizing f with
 | nil=>simp
 | cons a l ih =>
  have e:(a :: l).length*sz=sz+l.length*sz:=by simp [Nat.add_mul];omega
  rw [e,List.range_add,List.map_append,List.map_map,List.flatMap_cons]
  have ih':=ih (f:=fun i=>f (sz+i)) (fun v hv=>h1 v (by simp [hv])) (fun k v hv m hm=>by
   have:=h2 (k+1) v (by simpa using hv) m hm
   rw [this,show (k+1)*sz+m=sz+(k*sz+m) by rw [Nat.add_mul];omega])
  rw [<- ih']
  congr 1
  apply List.ext_getElem?;intro m;rw [gM]
  rcases Nat.lt_or_ge m sz with hm | hm
  ·rw [List.getElem?_range hm,h2 0 a rfl m hm];simp
  ·rw [List.getElem?_eq_none (by simpa using hm),List.getElem?_eq_none (by rw [h1 a (by simp)];exact hm)];rfl
theorem xqt (w:World) (r:Nat) (s:Value) (D:List UInt8) (i j:Nat) (v:V) (p:List UInt8) (hk23:v.kind=23) (hne:0 < v.kids.length) (hfew:v.kids.length<=1000) (hkt:∀ k ∈ v.kids,k.kind=16/\Tidy k) (hF:xbD v.kids 131 p) (h:Buf w r s D i)
  (hH:xbF r s D i j v.kids.length) (hj:j<=D.length) (hL:Lies D j (131 :: p)):RA w r s D (j+(131 :: p:List UInt8).length) v:=by
 have hfx:=hF.fixed (g:=fun k=>be 8 k.num.toNat) (sz:=8) (fun k hk q hq=>by
  have:=xcr hq (by unfold xay;have:=(hkt k hk).1;omega) (by rw [(hkt k hk).1];rfl);rw [(hkt k hk).1] at this
  exact ⟨this,be_length _ _⟩)
 obtain ⟨hpl,hpieces⟩:=hfx;have hpc:=hpieces D (j+1) hL.tail;have hlen:=hL.len hj;simp only [lC] at hlen ⊢;have hk0:∃ k0,v.kids[0]? = some k0:=⟨_,ge hne⟩
 obtain ⟨k0,hk0⟩:=hk0;have hK0:=(hkt k0 (gm hk0)).1
 have hflat:(List.range (v.kids.length*2)).map (xjC D (j+1))=v.kids.flatMap fun k=>(raw k).cells.toList:=by
  refine xlu (fun k hk => ?_) (fun k v hv m hm => ?_)
  ·have:=hkt k hk;simp [raw,this.1,tm,Value.cells]
  ·have hk:=(hkt v (gm hv)).1;have tp:=(hkt v (gm hv)).2.pos;have hL':=hpc k v hv;have h3:=xob hL';have h4:=sg_64 tp.1 tp.2;rw [<- h3] at h4
   rcases (show m=0\/m=1 by omega) with rfl | rfl
   ·show (raw v).cells.toList[0]? = some (xjC D (j+1) (k*2));rw [xpz,h4];simp [raw,hk,tm,Value.cells]
   ·rw [xpy,h4];simp [raw,hk,tm,Value.cells]
 have arr:∀ W W0,At_ W0 W r s D i->∀ h0:Buf W0 r s D i,Blk W W0.heap.size 144 #[.slice none 0 0]->Calls prog 144 #[.pointer (some ⟨W0.heap.size,0,none⟩),.pointer (some ⟨r,0,none⟩)] W (Gives fun e w'=>e = .nilIface/\At_ W0 w' r s D (j+(p.length+1))/\∃ a n c,Blk w' W0.heap.size 144 #[.slice a n c]/\AnyV (xaf W0) w' (.iface 144 (.slice a n c)) v):=by
  intro W W0 hA h0 hb;refine (xik W0 W r s D i i j W0.heap.size 144 v.kids.length h0 hA (Nat.le_refl _) hb hne (by omega) hH.2 hL.head (by omega)).mono ?_;rintro e w' ⟨_,rfl,rfl,hP,x,hx,hc⟩;rw [hflat] at hc;obtain ⟨a,cc,hxe⟩:∃ a cc,x = .slice a v.kids.length cc:=by obtain ⟨_,a,cc,e,_⟩:=hc;exact ⟨a,cc,e⟩
  subst hxe;refine ⟨_,rfl,rfl,by rw [show j+(p.length+1)=j+1+v.kids.length*8 by omega];exact hP,_,_,_,hx,?_⟩;have hT:xdE k0.kind=144:=by rw [hK0];rfl
  rw [<- hT];exact .arr hk23 hk0 (by rw [hK0];unfold xaj;omega) (by rw [show xdD k0.kind=2 from (by rw [hK0];rfl)];exact hc)
 rcases hH.1 with ⟨hc0,hj3⟩ | ⟨hc0,hj9⟩
 ·refine xaE w r s D i v 224 (.inl rfl) _ hk23 h hc0 fun W hW => ?_
  refine (xaX 144 144 131 (by decide) r s D i _ W (fun x w'=>AnyV (xaf W) w' (.iface 144 x) v) hW hc0 (by rw [<- hj3];exact hL.head) (fun W' hA hb=>arr W' W hA hW hb)).mono ?_;rintro e w' ⟨x,y,rfl,rfl,hA,z,rfl,hz⟩;exact ⟨_,_,rfl,rfl,hz,hA⟩
 ·refine xaE w r s D i v 240 (.inr rfl) _ hk23 h hc0 fun W hW => ?_
  refine (xaW 144 144 131 (by decide) r s D i _ W (fun x w'=>AnyV (xaf W) w' (.iface 144 x) v) hW hc0 (by rw [<- hj9];exact hL.head) (fun W' hA hb=>arr W' W hA hW hb)).mono ?_;rintro e w' ⟨x,y,rfl,rfl,hA,z,rfl,hz⟩;exact ⟨_,_,rfl,rfl,hz,hA⟩
theorem xqs (w:World) (r:Nat) (s:Value) (D:List UInt8) (i j:Nat) (v:V) (p:List UInt8) (hk23:v.kind=23) (hne:0 < v.kids.length) (hfew:v.kids.length<=1000) (hkt:∀ k ∈ v.kids,k.kind=17/\Tidy k) (hF:xbD v.kids 152 p) (h:Buf w r s D i)
  (hH:xbF r s D i j v.kids.length) (hj:j<=D.length) (hL:Lies D j (152 :: p)):RA w r s D (j+(152 :: p:List UInt8).length) v:=by
 have hfx:=hF.fixed (g:=fun k=>bytesOf k.text) (sz:=16) (fun k hk q hq=>by
  have:=xoi hq (hkt k hk).1
  exact ⟨this,by rw [bytesOf_length];exact (hkt k hk).2.uuid (hkt k hk).1⟩)
 obtain ⟨hpl,hpieces⟩:=hfx;have hpc:=hpieces D (j+1) hL.tail;have hlen:=hL.len hj;simp only [lC] at hlen ⊢;have hk0:∃ k0,v.kids[0]? = some k0:=⟨_,ge hne⟩
 obtain ⟨k0,hk0⟩:=hk0;have hK0:=(hkt k0 (gm hk0)).1
 have hflat:(List.range (v.kids.length*16)).map (xlD D (j+1))=v.kids.flatMap fun k=>(raw k).cells.toList:=by
  refine xlu (fun k hk => ?_) (fun k v hv m hm => ?_)
  ·have:=hkt k hk;have h4:raw k=uid (bytesOf k.text):=by simp [raw,this.1]
   rw [h4]
   show ((bytesOf k.text |>.map u8).toArray.toList).length=16
   rw [List.toList_toArray,lM,bytesOf_length];exact this.2.uuid this.1
  ·have hk:=(hkt v (gm hv)).1;have tp:=(hkt v (gm hv)).2.pos;have hL':=hpc k v hv;have hu:=(hkt v (gm hv)).2.uuid hk;have hx:(bytesOf v.text)[m]? = some ((bytesOf v.text)[m]'(by rw [bytesOf_length];omega)):=ge _;have h3:=hL' m _ hx;have h4:raw v=uid (bytesOf v.text):=by simp [raw,hk]
   rw [h4]
   show (bytesOf v.text |>.map u8).toArray.toList[m]? = _
   rw [List.toList_toArray,gM,hx];unfold xlD;rw [show j+1+(k*16+m)=j+1+16*k+m by omega,xda h3]
   rfl
 have arr:∀ W W0,At_ W0 W r s D i->∀ h0:Buf W0 r s D i,Blk W W0.heap.size 147 #[.slice none 0 0]->Calls prog 146 #[.pointer (some ⟨W0.heap.size,0,none⟩),.pointer (some ⟨r,0,none⟩)] W (Gives fun e w'=>e = .nilIface/\At_ W0 w' r s D (j+(p.length+1))/\∃ a n c,Blk w' W0.heap.size 147 #[.slice a n c]/\AnyV (xaf W0) w' (.iface 147 (.slice a n c)) v):=by
  intro W W0 hA h0 hb;refine (xpc W0 W r s D i i j W0.heap.size 147 v.kids.length h0 hA (Nat.le_refl _) hb hne (by omega) hH.2 hL.head (by omega)).mono ?_;rintro e w' ⟨_,rfl,rfl,hP,x,hx,hc⟩;rw [hflat] at hc;obtain ⟨a,cc,hxe⟩:∃ a cc,x = .slice a v.kids.length cc:=by obtain ⟨_,a,cc,e,_⟩:=hc;exact ⟨a,cc,e⟩
  subst hxe;refine ⟨_,rfl,rfl,by rw [show j+(p.length+1)=j+1+v.kids.length*16 by omega];exact hP,_,_,_,hx,?_⟩;have hT:xdE k0.kind=147:=by rw [hK0];rfl
  rw [<- hT];exact .arr hk23 hk0 (by rw [hK0];unfold xaj;omega) (by rw [show xdD k0.kind=16 from (by rw [hK0];rfl)];exact hc)
 rcases hH.1 with ⟨hc0,hj3⟩ | ⟨hc0,hj9⟩
 ·refine xaE w r s D i v 224 (.inl rfl) _ hk23 h hc0 fun W hW => ?_
  refine (xaX 146 147 152 (by decide) r s D i _ W (fun x w'=>AnyV (xaf W) w' (.iface 147 x) v) hW hc0 (by rw [<- hj3];exact hL.head) (fun W' hA hb=>arr W' W hA hW hb)).mono ?_;rintro e w' ⟨x,y,rfl,rfl,hA,z,rfl,hz⟩;exact ⟨_,_,rfl,rfl,hz,hA⟩
 ·refine xaE w r s D i v 240 (.inr rfl) _ hk23 h hc0 fun W hW => ?_
  refine (xaW 146 147 152 (by decide) r s D i _ W (fun x w'=>AnyV (xaf W) w' (.iface 147 x) v) hW hc0 (by rw [<- hj9];exact hL.head) (fun W' hA hb=>arr W' W hA hW hb)).mono ?_;rintro e w' ⟨x,y,rfl,rfl,hA,z,rfl,hz⟩;exact ⟨_,_,rfl,rfl,hz,hA⟩
def xfm (l:List V) (k:Nat):List UInt8:=bytesOf ((l[k]?.map V.text).getD ByteArray.empty)
theorem xdT {l:List V} {k:Nat} {v:V} (h:l[k]? = some v):xfm l k=bytesOf v.text:=by unfold xfm;rw [h];rfl
theorem xiV {l:List V} {c:Nat} {p:List UInt8} {D:List UInt8} {b:Nat} (hF:xbD l c p) (hk:∀ v ∈ l,(v.kind=18\/v.kind=19\/v.kind=20)/\c=xiz v.kind/\v.text.size≠0) (hL:Lies D b p) :
  ∃ pos:Nat->Nat,pos 0=b/\pos l.length=b+p.length/\xnO D pos l.length (xfm l)/\l.length*2<=p.length:=by
 obtain ⟨ps,h1,h2,h3⟩:=hF.pieces;subst h2
 have hps:∀ (k:Nat) (q:List UInt8),ps[k]? = some q->∃ v,l[k]? = some v/\q=be 1 v.text.size ++ bytesOf v.text/\v.text.size < 256/\v.text.size≠0:=fun k q hq=>by
  have hlt:=(gi.1 hq).1;have hv:l[k]? = some (l[k]'(by omega)):=ge _;have hh:=hk _ (gm hv);have:=xfY (h3 k _ q hv hq) hh.1 hh.2.1;exact ⟨_,hv,this.1,this.2,hh.2.2⟩
 refine ⟨place b ps,xcI b ps,by rw [<- h1,xdV],fun k hkl => ?_,?_⟩
 ·have hq:ps[k]? = some (ps[k]'(by omega)):=ge _;obtain ⟨v,hv,he,hsz,hz⟩:=hps k _ hq;have hLk:=hL.piece hq;have hx:(UInt8.ofNat (v.text.size % 256)).toNat=v.text.size:=by simp;omega
  rw [he,be1] at hLk
  have hpl:place b ps k<=D.length:=by
   have:=(gi.1 hLk.head).1;omega
  have hlen:=hLk.len hpl;simp only [lC,lA,List.length_nil,bytesOf_length] at hlen;have hs:=xeX b ps k _ hq;rw [he] at hs;simp only [lA,be_length,bytesOf_length] at hs;refine ⟨UInt8.ofNat (v.text.size % 256),hLk.head,by rw [hx];omega,by omega,?_,by rw [hx];omega⟩;rw [hx,xdT hv];have h7:Lies D (place b ps k+1) (bytesOf v.text):=hLk.tail;have:=h7.eq_take (by omega);rw [bytesOf_length] at this;exact this
 ·have:∀ q ∈ ps,2<=q.length:=fun q hq=>by
   obtain ⟨k,hk'⟩:=List.mem_iff_getElem?.1 hq;obtain ⟨v,_,he,_,hz⟩:=hps k q hk';rw [he];simp [bytesOf_length];omega
  rw [<- h1];clear hps h3 hL h1 hF
  induction ps with
  | nil=>simp
  | cons a ps ih =>
   have h5:=this a (by simp);have h6:=ih (fun q hq=>this q (by simp [hq]));simp only [List.flatten_cons,lA,lC];omega
theorem xiU {l:List V} {c:Nat} {p:List UInt8} {D:List UInt8} {b:Nat} (hF:xbD l c p) (hk:∀ v ∈ l,(v.kind=18\/v.kind=19\/v.kind=20)/\c=xaU v.kind/\v.text.size≠0/\v.text.size<=131072) (hL:Lies D b p) :
  ∃ pos:Nat->Nat,pos 0=b/\pos l.length=b+p.length/\xnN D pos l.length (xfm l)/\l.length*2<=p.length:=by
 obtain ⟨ps,h1,h2,h3⟩:=hF.pieces;subst h2
 have hps:∀ (k:Nat) (q:List UInt8),ps[k]? = some q->∃ v,l[k]? = some v/\q=be 4 v.text.size ++ bytesOf v.text/\v.text.size < 4294967296/\v.text.size≠0:=fun k q hq=>by
  have hlt:=(gi.1 hq).1;have hv:l[k]? = some (l[k]'(by omega)):=ge _;have hh:=hk _ (gm hv);have:=xfX (h3 k _ q hv hq) hh.1 hh.2.1;exact ⟨_,hv,this,by have:=hh.2.2.2;omega,hh.2.2.1⟩
 refine ⟨place b ps,xcI b ps,by rw [<- h1,xdV],fun k hkl => ?_,?_⟩
 ·have hq:ps[k]? = some (ps[k]'(by omega)):=ge _;obtain ⟨v,hv,he,hsz,hz⟩:=hps k _ hq;have hLk:=hL.piece hq;have hx:Lib.beNat (be 4 v.text.size)=v.text.size:=by rw [xcT];omega
  rw [he] at hLk;have hl4:Lies D (place b ps k) (be 4 v.text.size):=hLk.left;have h40:D[place b ps k]? = some _:=hl4 0 _ rfl
  have hpl:place b ps k<=D.length:=by
   have:=(gi.1 h40).1;omega
  have hlen:=hLk.len hpl;simp only [lA,be_length,bytesOf_length] at hlen;have hs:=xeX b ps k _ hq;rw [he] at hs;simp only [lA,be_length,bytesOf_length] at hs;refine ⟨_,_,_,_,v.text.size,h40,hl4 1 _ rfl,hl4 2 _ rfl,hl4 3 _ rfl,hx,by omega,by omega,?_,by omega⟩;rw [xdT hv];have h7:Lies D (place b ps k+(be 4 v.text.size).length) (bytesOf v.text):=hLk.right;rw [be_length] at h7;have:=h7.eq_take (by omega);rw [bytesOf_length] at this;exact this
 ·have:∀ q ∈ ps,2<=q.length:=fun q hq=>by
   obtain ⟨k,hk'⟩:=List.mem_iff_getElem?.1 hq;obtain ⟨v,_,he,_,hz⟩:=hps k q hk';rw [he];simp [bytesOf_length];omega
  rw [<- h1];clear hps h3 hL h1 hF
  induction ps with
  | nil=>simp
  | cons a ps ih =>
   have h5:=this a (by simp);have h6:=ih (fun q hq=>this q (by simp [hq]));simp only [List.flatten_cons,lA,lC];omega
end Go.Proofs.YtmdpodeegdjkeaaGreatDoor
