/- Part 25 of the proof of the readers and the guards. No conditions. -/
import Derived.Test.YtmdpodeegdjkeaaGreatDoorU0
import Derived.Test.YtmdpodeegdjkeaaGreatDoorU24
set_option maxRecDepth 100000
set_option maxHeartbeats 3200000
namespace Go.Proofs.YtmdpodeegdjkeaaGreatDoor
open Go Go.RowKit Go.Lib Tryz
theorem xqq (w:World) (r:Nat) (s:Value) (D:List UInt8) (i j:Nat) (v:V) (p:List UInt8) (hk23:v.kind=23) (hne:0 < v.kids.length) (hfew:v.kids.length<=1000) (hkt:∀ k ∈ v.kids,k.kind=19/\Tidy k/\k.text.size≠0) (hF:xbD v.kids 161 p) (h:Buf w r s D i)
  (hH:xbF r s D i j v.kids.length) (hj:j<=D.length) (hL:Lies D j (161 :: p)):RA w r s D (j+(161 :: p:List UInt8).length) v:=by
 obtain ⟨pos,hp0,hpe,hP,h2⟩:=xiV hF (fun k hk=>⟨by have:=(hkt k hk).1;omega,by rw [(hkt k hk).1];rfl,(hkt k hk).2.2⟩) hL.tail;have hlen:=hL.len hj;simp only [lC] at hlen ⊢;have hk0:∃ k0,v.kids[0]? = some k0:=⟨_,ge hne⟩
 obtain ⟨k0,hk0⟩:=hk0;have hK0:=(hkt k0 (gm hk0)).1
 have arr:∀ W W0,At_ W0 W r s D i->∀ h0:Buf W0 r s D i,Blk W W0.heap.size 153 #[.slice none 0 0]->Calls prog 141 #[.pointer (some ⟨W0.heap.size,0,none⟩),.pointer (some ⟨r,0,none⟩)] W (Gives fun e w'=>e = .nilIface/\At_ W0 w' r s D (j+(p.length+1))/\∃ a n c,Blk w' W0.heap.size 153 #[.slice a n c]/\AnyV (xaf W0) w' (.iface 153 (.slice a n c)) v):=by
  intro W W0 hA h0 hb;refine (xlV W0 W r s D i i j W0.heap.size 153 v.kids.length pos (xfm v.kids) h0 hA (Nat.le_refl _) hb hne (by omega) hH.2 hL.head hp0 (by omega) hP).mono ?_;rintro e w' ⟨_,rfl,rfl,hA',x,xs,hx,hc,hel⟩;rw [hpe] at hA';obtain ⟨a,cc,hxe⟩:∃ a cc,x = .slice a v.kids.length cc:=by obtain ⟨_,a,cc,e,_⟩:=hc;exact ⟨a,cc,e⟩
  subst hxe;refine ⟨_,rfl,rfl,by rw [show j+(p.length+1)=j+1+p.length by omega];exact hA',_,_,_,hx,?_⟩
  have hxs:xs=v.kids.flatMap fun k=>(raw k).cells.toList:=by
   rw [<- xcf (f:=fun k => .string ⟨(xfm v.kids k).toArray⟩) (fun k hk=>by have:=(hkt k hk).1;simp [raw,this,Value.cells]) (fun k u hu=>by
    have:=(hkt u (gm hu)).1
    rw [xdT hu,xfe,xeW this])]
   apply List.ext_getElem?;intro k;rw [gM];have hcl:=hc.1
   rcases Nat.lt_or_ge k v.kids.length with hk | hk
   ·obtain ⟨y,hy,hR⟩:=hel k hk;rw [List.getElem?_range hk,hy,hR];rfl
   ·rw [List.getElem?_eq_none (by omega),List.getElem?_eq_none (by simpa using hk)];rfl
  rw [hxs] at hc;have hT:xdE k0.kind=153:=by rw [hK0];rfl
  rw [<- hT];exact .arr hk23 hk0 (by rw [hK0];unfold xaj;omega) (by rw [show xdD k0.kind=1 from (by rw [hK0];rfl)];exact hc)
 rcases hH.1 with ⟨hc0,hj3⟩ | ⟨hc0,hj9⟩
 ·refine xaE w r s D i v 224 (.inl rfl) _ hk23 h hc0 fun W hW => ?_
  refine (xaX 141 153 161 (by decide) r s D i _ W (fun x w'=>AnyV (xaf W) w' (.iface 153 x) v) hW hc0 (by rw [<- hj3];exact hL.head) (fun W' hA hb=>arr W' W hA hW hb)).mono ?_;rintro e w' ⟨x,y,rfl,rfl,hA,z,rfl,hz⟩;exact ⟨_,_,rfl,rfl,hz,hA⟩
 ·refine xaE w r s D i v 240 (.inr rfl) _ hk23 h hc0 fun W hW => ?_
  refine (xaW 141 153 161 (by decide) r s D i _ W (fun x w'=>AnyV (xaf W) w' (.iface 153 x) v) hW hc0 (by rw [<- hj9];exact hL.head) (fun W' hA hb=>arr W' W hA hW hb)).mono ?_;rintro e w' ⟨x,y,rfl,rfl,hA,z,rfl,hz⟩;exact ⟨_,_,rfl,rfl,hz,hA⟩
theorem xqo (w:World) (r:Nat) (s:Value) (D:List UInt8) (i j:Nat) (v:V) (p:List UInt8) (hk23:v.kind=23) (hne:0 < v.kids.length) (hfew:v.kids.length<=1000) (hkt:∀ k ∈ v.kids,k.kind=19/\Tidy k/\k.text.size≠0) (hF:xbD v.kids 177 p) (h:Buf w r s D i)
  (hH:xbF r s D i j v.kids.length) (hj:j<=D.length) (hL:Lies D j (177 :: p)):RA w r s D (j+(177 :: p:List UInt8).length) v:=by
 obtain ⟨pos,hp0,hpe,hP,h2⟩:=xiU hF (fun k hk=>⟨by have:=(hkt k hk).1;omega,by rw [(hkt k hk).1];rfl,(hkt k hk).2.2,(hkt k hk).2.1.size⟩) hL.tail;have hlen:=hL.len hj;simp only [lC] at hlen ⊢;have hk0:∃ k0,v.kids[0]? = some k0:=⟨_,ge hne⟩
 obtain ⟨k0,hk0⟩:=hk0;have hK0:=(hkt k0 (gm hk0)).1
 have arr:∀ W W0,At_ W0 W r s D i->∀ h0:Buf W0 r s D i,Blk W W0.heap.size 153 #[.slice none 0 0]->Calls prog 141 #[.pointer (some ⟨W0.heap.size,0,none⟩),.pointer (some ⟨r,0,none⟩)] W (Gives fun e w'=>e = .nilIface/\At_ W0 w' r s D (j+(p.length+1))/\∃ a n c,Blk w' W0.heap.size 153 #[.slice a n c]/\AnyV (xaf W0) w' (.iface 153 (.slice a n c)) v):=by
  intro W W0 hA h0 hb;refine (xlU W0 W r s D i i j W0.heap.size 153 v.kids.length pos (xfm v.kids) h0 hA (Nat.le_refl _) hb hne (by omega) hH.2 hL.head hp0 (by omega) hP).mono ?_;rintro e w' ⟨_,rfl,rfl,hA',x,xs,hx,hc,hel⟩;rw [hpe] at hA';obtain ⟨a,cc,hxe⟩:∃ a cc,x = .slice a v.kids.length cc:=by obtain ⟨_,a,cc,e,_⟩:=hc;exact ⟨a,cc,e⟩
  subst hxe;refine ⟨_,rfl,rfl,by rw [show j+(p.length+1)=j+1+p.length by omega];exact hA',_,_,_,hx,?_⟩
  have hxs:xs=v.kids.flatMap fun k=>(raw k).cells.toList:=by
   rw [<- xcf (f:=fun k => .string ⟨(xfm v.kids k).toArray⟩) (fun k hk=>by have:=(hkt k hk).1;simp [raw,this,Value.cells]) (fun k u hu=>by
    have:=(hkt u (gm hu)).1
    rw [xdT hu,xfe,xeW this])]
   apply List.ext_getElem?;intro k;rw [gM];have hcl:=hc.1
   rcases Nat.lt_or_ge k v.kids.length with hk | hk
   ·obtain ⟨y,hy,hR⟩:=hel k hk;rw [List.getElem?_range hk,hy,hR];rfl
   ·rw [List.getElem?_eq_none (by omega),List.getElem?_eq_none (by simpa using hk)];rfl
  rw [hxs] at hc;have hT:xdE k0.kind=153:=by rw [hK0];rfl
  rw [<- hT];exact .arr hk23 hk0 (by rw [hK0];unfold xaj;omega) (by rw [show xdD k0.kind=1 from (by rw [hK0];rfl)];exact hc)
 rcases hH.1 with ⟨hc0,hj3⟩ | ⟨hc0,hj9⟩
 ·refine xaE w r s D i v 224 (.inl rfl) _ hk23 h hc0 fun W hW => ?_
  refine (xaX 141 153 177 (by decide) r s D i _ W (fun x w'=>AnyV (xaf W) w' (.iface 153 x) v) hW hc0 (by rw [<- hj3];exact hL.head) (fun W' hA hb=>arr W' W hA hW hb)).mono ?_;rintro e w' ⟨x,y,rfl,rfl,hA,z,rfl,hz⟩;exact ⟨_,_,rfl,rfl,hz,hA⟩
 ·refine xaE w r s D i v 240 (.inr rfl) _ hk23 h hc0 fun W hW => ?_
  refine (xaW 141 153 177 (by decide) r s D i _ W (fun x w'=>AnyV (xaf W) w' (.iface 153 x) v) hW hc0 (by rw [<- hj9];exact hL.head) (fun W' hA hb=>arr W' W hA hW hb)).mono ?_;rintro e w' ⟨x,y,rfl,rfl,hA,z,rfl,hz⟩;exact ⟨_,_,rfl,rfl,hz,hA⟩
theorem xqr (w:World) (r:Nat) (s:Value) (D:List UInt8) (i j:Nat) (v:V) (p:List UInt8) (hk23:v.kind=23) (hne:0 < v.kids.length) (hfew:v.kids.length<=1000) (hkt:∀ k ∈ v.kids,k.kind=18/\Tidy k/\k.text.size≠0) (hF:xbD v.kids 160 p) (h:Buf w r s D i)
  (hH:xbF r s D i j v.kids.length) (hj:j<=D.length) (hL:Lies D j (160 :: p)):RA w r s D (j+(160 :: p:List UInt8).length) v:=by
 obtain ⟨pos,hp0,hpe,hP,h2⟩:=xiV hF (fun k hk=>⟨by have:=(hkt k hk).1;omega,by rw [(hkt k hk).1];rfl,(hkt k hk).2.2⟩) hL.tail;have hlen:=hL.len hj;simp only [lC] at hlen ⊢;have hk0:∃ k0,v.kids[0]? = some k0:=⟨_,ge hne⟩
 obtain ⟨k0,hk0⟩:=hk0;have hK0:=(hkt k0 (gm hk0)).1
 have arr:∀ W W0,At_ W0 W r s D i->∀ h0:Buf W0 r s D i,Blk W W0.heap.size 150 #[.slice none 0 0]->Calls prog 143 #[.pointer (some ⟨W0.heap.size,0,none⟩),.pointer (some ⟨r,0,none⟩)] W (Gives fun e w'=>e = .nilIface/\At_ W0 w' r s D (j+(p.length+1))/\∃ a n c,Blk w' W0.heap.size 150 #[.slice a n c]/\AnyV (xaf W0) w' (.iface 150 (.slice a n c)) v):=by
  intro W W0 hA h0 hb;refine (xma W0 W r s D i i j W0.heap.size 150 v.kids.length pos (xfm v.kids) h0 hA (Nat.le_refl _) hb hne (by omega) hH.2 hL.head hp0 (by omega) hP).mono ?_;rintro e w' ⟨_,rfl,rfl,hA',x,xs,hx,hc,hel⟩;rw [hpe] at hA';obtain ⟨a,cc,hxe⟩:∃ a cc,x = .slice a v.kids.length cc:=by obtain ⟨_,a,cc,e,_⟩:=hc;exact ⟨a,cc,e⟩
  subst hxe;refine ⟨_,rfl,rfl,by rw [show j+(p.length+1)=j+1+p.length by omega];exact hA',_,_,_,hx,?_⟩;refine .arrB hk23 hk0 hK0 hc fun m y u hy hu => ?_
  obtain ⟨y',hy',hB⟩:=hel m (gi.1 hu).1;rw [hy] at hy';cases hy';rw [xdT hu] at hB;exact hB
 rcases hH.1 with ⟨hc0,hj3⟩ | ⟨hc0,hj9⟩
 ·refine xaE w r s D i v 224 (.inl rfl) _ hk23 h hc0 fun W hW => ?_
  refine (xaX 143 150 160 (by decide) r s D i _ W (fun x w'=>AnyV (xaf W) w' (.iface 150 x) v) hW hc0 (by rw [<- hj3];exact hL.head) (fun W' hA hb=>arr W' W hA hW hb)).mono ?_;rintro e w' ⟨x,y,rfl,rfl,hA,z,rfl,hz⟩;exact ⟨_,_,rfl,rfl,hz,hA⟩
 ·refine xaE w r s D i v 240 (.inr rfl) _ hk23 h hc0 fun W hW => ?_
  refine (xaW 143 150 160 (by decide) r s D i _ W (fun x w'=>AnyV (xaf W) w' (.iface 150 x) v) hW hc0 (by rw [<- hj9];exact hL.head) (fun W' hA hb=>arr W' W hA hW hb)).mono ?_;rintro e w' ⟨x,y,rfl,rfl,hA,z,rfl,hz⟩;exact ⟨_,_,rfl,rfl,hz,hA⟩
theorem xqp (w:World) (r:Nat) (s:Value) (D:List UInt8) (i j:Nat) (v:V) (p:List UInt8) (hk23:v.kind=23) (hne:0 < v.kids.length) (hfew:v.kids.length<=1000) (hkt:∀ k ∈ v.kids,k.kind=18/\Tidy k/\k.text.size≠0) (hF:xbD v.kids 176 p) (h:Buf w r s D i)
  (hH:xbF r s D i j v.kids.length) (hj:j<=D.length) (hL:Lies D j (176 :: p)):RA w r s D (j+(176 :: p:List UInt8).length) v:=by
 obtain ⟨pos,hp0,hpe,hP,h2⟩:=xiU hF (fun k hk=>⟨by have:=(hkt k hk).1;omega,by rw [(hkt k hk).1];rfl,(hkt k hk).2.2,(hkt k hk).2.1.size⟩) hL.tail;have hlen:=hL.len hj;simp only [lC] at hlen ⊢;have hk0:∃ k0,v.kids[0]? = some k0:=⟨_,ge hne⟩
 obtain ⟨k0,hk0⟩:=hk0;have hK0:=(hkt k0 (gm hk0)).1
 have arr:∀ W W0,At_ W0 W r s D i->∀ h0:Buf W0 r s D i,Blk W W0.heap.size 150 #[.slice none 0 0]->Calls prog 143 #[.pointer (some ⟨W0.heap.size,0,none⟩),.pointer (some ⟨r,0,none⟩)] W (Gives fun e w'=>e = .nilIface/\At_ W0 w' r s D (j+(p.length+1))/\∃ a n c,Blk w' W0.heap.size 150 #[.slice a n c]/\AnyV (xaf W0) w' (.iface 150 (.slice a n c)) v):=by
  intro W W0 hA h0 hb;refine (xlZ W0 W r s D i i j W0.heap.size 150 v.kids.length pos (xfm v.kids) h0 hA (Nat.le_refl _) hb hne (by omega) hH.2 hL.head hp0 (by omega) hP).mono ?_;rintro e w' ⟨_,rfl,rfl,hA',x,xs,hx,hc,hel⟩;rw [hpe] at hA';obtain ⟨a,cc,hxe⟩:∃ a cc,x = .slice a v.kids.length cc:=by obtain ⟨_,a,cc,e,_⟩:=hc;exact ⟨a,cc,e⟩
  subst hxe;refine ⟨_,rfl,rfl,by rw [show j+(p.length+1)=j+1+p.length by omega];exact hA',_,_,_,hx,?_⟩;refine .arrB hk23 hk0 hK0 hc fun m y u hy hu => ?_
  obtain ⟨y',hy',hB⟩:=hel m (gi.1 hu).1;rw [hy] at hy';cases hy';rw [xdT hu] at hB;exact hB
 rcases hH.1 with ⟨hc0,hj3⟩ | ⟨hc0,hj9⟩
 ·refine xaE w r s D i v 224 (.inl rfl) _ hk23 h hc0 fun W hW => ?_
  refine (xaX 143 150 176 (by decide) r s D i _ W (fun x w'=>AnyV (xaf W) w' (.iface 150 x) v) hW hc0 (by rw [<- hj3];exact hL.head) (fun W' hA hb=>arr W' W hA hW hb)).mono ?_;rintro e w' ⟨x,y,rfl,rfl,hA,z,rfl,hz⟩;exact ⟨_,_,rfl,rfl,hz,hA⟩
 ·refine xaE w r s D i v 240 (.inr rfl) _ hk23 h hc0 fun W hW => ?_
  refine (xaW 143 150 176 (by decide) r s D i _ W (fun x w'=>AnyV (xaf W) w' (.iface 150 x) v) hW hc0 (by rw [<- hj9];exact hL.head) (fun W' hA hb=>arr W' W hA hW hb)).mono ?_;rintro e w' ⟨x,y,rfl,rfl,hA,z,rfl,hz⟩;exact ⟨_,_,rfl,rfl,hz,hA⟩
theorem RA.cast {w:World} {r:Nat} {s:Value} {D:List UInt8} {j j':Nat} {v:V} (h:RA w r s D j v) (e:j=j'):RA w r s D j' v:=e ▸ h
theorem RA_full (w:World) (r:Nat) (s:Value) (D:List UInt8) (i:Nat) (v:V) (t:Tidy v) (hk:xay v.kind) (h:Buf w r s D i) (hl:Lies D i (UInt8.ofNat (xaU v.kind) :: be (fsz v.kind) v.num.toNat)):RA w r s D (i+1+fsz v.kind) v:=by
 have hkk:=t.kind;have e:v.kind=2\/v.kind=3\/v.kind=4\/v.kind=5\/v.kind=6\/v.kind=7\/v.kind=8\/v.kind=9\/v.kind=10\/v.kind=11\/v.kind=16:=by unfold xay at hk;omega
 rcases e with h0 | h0 | h0 | h0 | h0 | h0 | h0 | h0 | h0 | h0 | h0 <;> rw [h0] at hl ⊢
 ·exact RA_50 w r s D i v h0 t h hl
 ·exact RA_60 w r s D i v h0 t h hl
 ·exact RA_70 w r s D i v h0 t h hl
 ·exact RA_80 w r s D i v h0 t h hl
 ·exact RA_51 w r s D i v h0 t h hl
 ·exact RA_61 w r s D i v h0 t h hl
 ·exact RA_71 w r s D i v h0 t h hl
 ·exact RA_81 w r s D i v h0 t h hl
 ·exact RA_72 w r s D i v h0 t h hl
 ·exact RA_82 w r s D i v h0 t h hl
 ·exact RA_83 w r s D i v h0 t h hl
theorem xou (w:World) (r:Nat) (s:Value) (D:List UInt8) (i j:Nat) (v:V) (d:List UInt8) (hg:Good v) (hk:v.kind=23) (hE:xhE v d) (h:Buf w r s D i) (hH:xbF r s D i j v.kids.length) (hj:j<=D.length) (hL:Lies D j d):RA w r s D (j+d.length) v:=by
 have t:=hg.tidy
 obtain ⟨k0,hk0,hak,hn20,hall,htx⟩:∃ k0,v.kids[0]? = some k0/\xaK k0.kind/\k0.kind≠20/\(∀ k ∈ v.kids,k.kind=k0.kind)/\(18<=k0.kind->∀ k ∈ v.kids,k.text.size≠0):=by
  cases hg with
  | mk _ _ _ _ ha =>
   obtain ⟨k0,h1,h2,h3,h4,h5,_⟩:=ha hk;exact ⟨k0,h1,h2,h3,h4,h5⟩
 have hne:0 < v.kids.length:=(gi.1 hk0).1;have hm0:=gm hk0
 cases hE with
 | @desc _ k d' c e p h1 h2 h3 h4 =>
  rw [hk0] at h1;cases h1;rw [(hg.kid hm0).desc] at h2;cases h2
 | @plain _ c p _ _ hel hF =>
 have hec:=hel k0 hm0;unfold xaK at hak;have e:k0.kind=1\/k0.kind=2\/k0.kind=3\/k0.kind=4\/k0.kind=5\/k0.kind=6\/k0.kind=7\/k0.kind=8\/k0.kind=9\/k0.kind=10\/k0.kind=11\/k0.kind=16\/k0.kind=17\/k0.kind=18\/k0.kind=19:=by omega
 unfold elemCode at hec
 rcases hec with hce | hce | hce | hce | hce | hce | hce | hce
 ·rcases e with h0 | h0 | h0 | h0 | h0 | h0 | h0 | h0 | h0 | h0 | h0 | h0 | h0 | h0 | h0
  ·obtain rfl:c=86:=by rw [hce,h0];rfl
   exact xqC w r s D i j v _ hk hne t.few (fun k hk=>⟨(hall k hk).trans h0,(hg.kid hk).tidy⟩) hF h hH hj hL
  ·obtain rfl:c=80:=by rw [hce,h0];rfl
   exact xqI w r s D i j v _ hk hne t.few (fun k hk=>⟨(hall k hk).trans h0,(hg.kid hk).tidy⟩) hF h hH hj hL
  ·obtain rfl:c=96:=by rw [hce,h0];rfl
   exact xqB w r s D i j v _ hk hne t.few (fun k hk=>⟨(hall k hk).trans h0,(hg.kid hk).tidy⟩) hF h hH hj hL
  ·obtain rfl:c=112:=by rw [hce,h0];rfl
   exact xqz w r s D i j v _ hk hne t.few (fun k hk=>⟨(hall k hk).trans h0,(hg.kid hk).tidy⟩) hF h hH hj hL
  ·obtain rfl:c=128:=by rw [hce,h0];rfl
   exact xqw w r s D i j v _ hk hne t.few (fun k hk=>⟨(hall k hk).trans h0,(hg.kid hk).tidy⟩) hF h hH hj hL
  ·obtain rfl:c=81:=by rw [hce,h0];rfl
   exact xqH w r s D i j v _ hk hne t.few (fun k hk=>⟨(hall k hk).trans h0,(hg.kid hk).tidy⟩) hF h hH hj hL
  ·obtain rfl:c=97:=by rw [hce,h0];rfl
   exact xqA w r s D i j v _ hk hne t.few (fun k hk=>⟨(hall k hk).trans h0,(hg.kid hk).tidy⟩) hF h hH hj hL
  ·obtain rfl:c=113:=by rw [hce,h0];rfl
   exact xqy w r s D i j v _ hk hne t.few (fun k hk=>⟨(hall k hk).trans h0,(hg.kid hk).tidy⟩) hF h hH hj hL
  ·obtain rfl:c=129:=by rw [hce,h0];rfl
   exact xqv w r s D i j v _ hk hne t.few (fun k hk=>⟨(hall k hk).trans h0,(hg.kid hk).tidy⟩) hF h hH hj hL
  ·obtain rfl:c=114:=by rw [hce,h0];rfl
   exact xqx w r s D i j v _ hk hne t.few (fun k hk=>⟨(hall k hk).trans h0,(hg.kid hk).tidy⟩) hF h hH hj hL
  ·obtain rfl:c=130:=by rw [hce,h0];rfl
   exact xqu w r s D i j v _ hk hne t.few (fun k hk=>⟨(hall k hk).trans h0,(hg.kid hk).tidy⟩) hF h hH hj hL
  ·obtain rfl:c=131:=by rw [hce,h0];rfl
   exact xqt w r s D i j v _ hk hne t.few (fun k hk=>⟨(hall k hk).trans h0,(hg.kid hk).tidy⟩) hF h hH hj hL
  ·obtain rfl:c=152:=by rw [hce,h0];rfl
   exact xqs w r s D i j v _ hk hne t.few (fun k hk=>⟨(hall k hk).trans h0,(hg.kid hk).tidy⟩) hF h hH hj hL
  ·obtain rfl:c=176:=by rw [hce,h0];rfl
   exact xqp w r s D i j v _ hk hne t.few (fun k hk=>⟨(hall k hk).trans h0,(hg.kid hk).tidy,htx (by omega) k hk⟩) hF h hH hj hL
  ·obtain rfl:c=177:=by rw [hce,h0];rfl
   exact xqo w r s D i j v _ hk hne t.few (fun k hk=>⟨(hall k hk).trans h0,(hg.kid hk).tidy,htx (by omega) k hk⟩) hF h hH hj hL
 ·obtain ⟨h0,rfl⟩:=hce;exact xqG w r s D i j v _ hk hne t.few (fun k hk=>⟨(hall k hk).trans h0,(hg.kid hk).tidy⟩) hF h hH hj hL
 ·obtain ⟨h0,rfl⟩:=hce;exact xqF w r s D i j v _ hk hne t.few (fun k hk=>⟨(hall k hk).trans h0,(hg.kid hk).tidy⟩) hF h hH hj hL
 ·obtain ⟨h0,rfl⟩:=hce;exact xqE w r s D i j v _ hk hne t.few (fun k hk=>⟨(hall k hk).trans h0,(hg.kid hk).tidy⟩) hF h hH hj hL
 ·obtain ⟨h0,rfl⟩:=hce;exact xqD w r s D i j v _ hk hne t.few (fun k hk=>⟨(hall k hk).trans h0,(hg.kid hk).tidy⟩) hF h hH hj hL
 ·obtain ⟨h0,rfl⟩:=hce;exact xqr w r s D i j v _ hk hne t.few (fun k hk=>⟨(hall k hk).trans h0,(hg.kid hk).tidy,htx (by omega) k hk⟩) hF h hH hj hL
 ·obtain ⟨h0,rfl⟩:=hce;exact xqq w r s D i j v _ hk hne t.few (fun k hk=>⟨(hall k hk).trans h0,(hg.kid hk).tidy,htx (by omega) k hk⟩) hF h hH hj hL
 ·exact absurd hce.1 hn20
theorem elem_pos {k:V} {c:Nat} {q:List UInt8} (h:Form k c q) (hk:xaK k.kind) (hc:elemCode k.kind c) (t:Tidy k):0 < q.length:=by
 unfold xaK at hk;unfold elemCode at hc
 rcases hc with hc | hc | hc | hc | hc | hc | hc | hc
 ·by_cases hn:xay k.kind
  ·rw [xcr h hn hc,be_length];unfold xay at hn;unfold fsz
   repeat' split
   all_goals omega
  ·unfold xay at hn
   rcases (show k.kind=1\/k.kind=17\/k.kind=18\/k.kind=19\/k.kind=20 by omega) with h0 | h0 | h0 | h0 | h0
   ·rw [xoj h h0 (by rw [hc,h0];rfl)];simp
   ·rw [xoi h h0,bytesOf_length,t.uuid h0];omega
   ·rw [xfX h (by omega) hc];simp;omega
   ·rw [xfX h (by omega) hc];simp;omega
   ·rw [xfX h (by omega) hc];simp;omega
 ·rw [(xbU h (by omega)).1];simp
 ·rw [(xbU h (by omega)).1];simp
 ·rw [(xbU h (by omega)).1];simp
 ·rw [(xbU h (by omega)).1];simp
 ·rw [(xfY h (by omega) (by rw [hc.1,hc.2];rfl)).1];simp;omega
 ·rw [(xfY h (by omega) (by rw [hc.1,hc.2];rfl)).1];simp;omega
 ·rw [(xfY h (by omega) (by rw [hc.1,hc.2];rfl)).1];simp;omega
theorem xhE.count_le {v:V} {d:List UInt8} (h:xhE v d) (hg:Good v) (hk:v.kind=23):v.kids.length<=d.length:=by
 obtain ⟨k0,hk0,hak,hall⟩:∃ k0,v.kids[0]? = some k0/\xaK k0.kind/\(∀ k ∈ v.kids,k.kind=k0.kind):=by
  cases hg with
  | mk _ _ _ _ ha =>
   obtain ⟨k0,h1,h2,h3,h4,h5,_⟩:=ha hk;exact ⟨k0,h1,h2,h4⟩
 have hm0:=gm hk0
 cases h with
 | @desc _ k d' c e p h1 h2 h3 h4 =>
  rw [hk0] at h1;cases h1;rw [(hg.kid hm0).desc] at h2;cases h2
 | @plain _ c p _ _ hel hF =>
  obtain ⟨ps,h1,h2,h3⟩:=hF.pieces
  have h4:ps.length<=ps.flatten.length:=xhZ fun q hq=>by
   obtain ⟨m,hm⟩:=List.mem_iff_getElem?.1 hq;have hlt:=(gi.1 hm).1;have hv:v.kids[m]? = some (v.kids[m]'(by omega)):=ge _;have hmem:=gm hv;exact elem_pos (h3 m _ q hv hm) (by rw [hall _ hmem];exact hak) (hel _ hmem) (hg.kid hmem).tidy
  rw [h2];simp only [lC];omega
theorem RA_form (w:World) (r:Nat) (s:Value) (D:List UInt8) (i:Nat) (v:V) (hD:D.length < 4294967296) (hg:Good v) (hI:∀ k ∈ v.kids,IH r s D k) {c:Nat} {p:List UInt8} (hF:Form v c p) (h:Buf w r s D i) (hl:Lies D i (UInt8.ofNat c :: p)):RA w r s D (i+(p.length+1)) v:=by
 have t:=hg.tidy;have hlen:=hl.len h.le;simp only [lC] at hlen
 cases hF with
 | null h0 =>
  refine (xmg r s D i w h hl.head).mono ?_;rintro e w' ⟨rfl,hA⟩;exact ⟨_,_,rfl,rfl,.null (by rw [xaw];simp [h0]),hA⟩
 | flag h1 =>
  have hf:=t.flag h1;have hp:=t.pos
  rcases (show v.num=0\/v.num=1 by omega) with e | e
  ·rw [e] at hl;exact RA_42 w r s D i v h1 t e h hl
  ·rw [e] at hl;exact RA_41 w r s D i v h1 t e h hl
 | bool h1 =>
  refine RA_56 w r s D i v h1 t h ?_;have e:be 1 v.num.toNat=[UInt8.ofNat v.num.toNat]:=by rw [be1];congr 1;apply UInt8.toNat.inj;simp
  rw [e];exact hl
 | full hk=>exact (RA_full w r s D i v t hk h hl).cast (by simp;omega)
 | uint0 hk hx=>exact RA_43 w r s D i v hk t hx h hl
 | ulong0 hk hx=>exact RA_44 w r s D i v hk t hx h hl
 | uint1 hk hx=>exact RA_52 w r s D i v hk t hx h hl
 | ulong1 hk hx=>exact RA_53 w r s D i v hk t hx h hl
 | int1 hk hx=>exact RA_54 w r s D i v hk t hx h hl
 | long1 hk hx=>exact RA_55 w r s D i v hk t hx h hl
 | wide hk hx =>
  have h17:v.kind=17:=by have:=t.kind;omega
  rw [h17] at hl;exact (RA_98 w r s D i v h17 t h hl).cast (by rw [bytesOf_length];omega)
 | text1 hk hx =>
  rcases hk with h0 | h0 | h0 <;> rw [h0] at hl
  ·exact (RA_bin w r s D i v 160 (by decide) _ h0 h hl.head fun W hW=>bin1_ok W r s D i v.text hx hW hl).cast (by simp [bytesOf_length];omega)
  ·exact (RA_str w r s D i v 161 (by decide) _ (.inl h0) h hl.head fun W hW=>xjF W r s D i 161 (by decide) v.text hx hW hl).cast (by simp [bytesOf_length];omega)
  ·exact (RA_str w r s D i v 163 (by decide) _ (.inr h0) h hl.head fun W hW=>xjF W r s D i 163 (by decide) v.text hx hW hl).cast (by simp [bytesOf_length];omega)
 | text4 hk =>
  have hx:v.text.size < 4294967296:=by have:=t.size;omega
  rcases hk with h0 | h0 | h0 <;> rw [h0] at hl
  ·exact (RA_bin w r s D i v 176 (by decide) _ h0 h hl.head fun W hW=>bin4_ok W r s D i v.text hx hW hl).cast (by simp [bytesOf_length];omega)
  ·exact (RA_str w r s D i v 177 (by decide) _ (.inl h0) h hl.head fun W hW=>str4_ok W r s D i 177 (by decide) v.text hx hW hl).cast (by simp [bytesOf_length];omega)
  ·exact (RA_str w r s D i v 179 (by decide) _ (.inr h0) h hl.head fun W hW=>str4_ok W r s D i 179 (by decide) v.text hx hW hl).cast (by simp [bytesOf_length];omega)
 | list0 hk hx =>
  refine (xks w r s D i v 69 (by decide) (i+1) hk h hl.head fun W hW => ?_);rw [hx];exact xfp W r s D i (i+1) _ hW fun W' p hA hp hb=>xfA W W' r s D i i p _ (i+1) hW hA hp hb fun W2 h2=>xdU r s D i W2 h2 hl.head
 | @kids1 _ d hk hE hn hd =>
  have hcnt:=hE.count_le;have hfew:=t.few
  rcases hk with h0 | h0 <;> rw [h0] at hl
  ·refine (xks w r s D i v 192 (by decide) (i+3+d.length) h0 h hl.head fun W hW => ?_).cast (by simp;omega);exact readAnyList_G W r s D i (i+3) v.kids d hW (by omega) hE (by have:=hl.tail.right;simpa using this) hI (by simp at hlen;omega) fun W2 h2=>xln W2 r s D i _ d hcnt hd h2 hl
  ·have h22:v.kids.length % 2=0:=by cases hg with | mk _ _ _ hm _=>exact (hm h0).1
   refine (xqn w r s D i v 193 (by decide) (i+3+d.length) h0 h hl.head fun W hW => ?_).cast (by simp;omega);exact xgW W r s D i (i+3) v.kids d hW (by omega) h22 hE (by have:=hl.tail.right;simpa using this) hI (hg.keysOk h0) fun W2 h2=>mapHead1 W2 r s D i _ d hcnt hd h2 hl
 | @kids4 _ d hk hE =>
  have hcnt:=hE.count_le;have hfew:=t.few;have hl9:Lies D (i+9) d:=by have:=hl.tail.right;simpa using this
  simp only [lA,be_length] at hlen
  rcases hk with h0 | h0 <;> rw [h0] at hl
  ·refine (xks w r s D i v 208 (by decide) (i+9+d.length) h0 h hl.head fun W hW => ?_).cast (by simp;omega);exact readAnyList_G W r s D i (i+9) v.kids d hW (by omega) hE hl9 hI (by omega) fun W2 h2=>xlm W2 r s D i _ d hcnt (by omega) (by omega) h2 hl
  ·have h22:v.kids.length % 2=0:=by cases hg with | mk _ _ _ hm _=>exact (hm h0).1
   refine (xqn w r s D i v 209 (by decide) (i+9+d.length) h0 h hl.head fun W hW => ?_).cast (by simp;omega);exact xgW W r s D i (i+9) v.kids d hW (by omega) h22 hE hl9 hI (hg.keysOk h0) fun W2 h2=>mapHead4 W2 r s D i _ d hcnt (by omega) (by omega) h2 hl
 | @array1 _ d hk hE hn hd =>
  have hcnt:=hE.count_le hg hk;have hl3:Lies D (i+3) d:=by have:=hl.tail.right;simpa using this
  exact (xou w r s D i (i+3) v d hg hk hE h ⟨.inl ⟨hl.head,rfl⟩,fun W hW=>arrHead1 W r s D i _ d hcnt hd hW hl⟩ (by simp at hlen;omega) hl3).cast (by simp;omega)
 | @array4 _ d hk hE =>
  have hcnt:=hE.count_le hg hk;have hfew:=t.few;have hl9:Lies D (i+9) d:=by have:=hl.tail.right;simpa using this
  simp only [lA,be_length] at hlen;exact (xou w r s D i (i+9) v d hg hk hE h ⟨.inr ⟨hl.head,rfl⟩,fun W hW=>arrHead4 W r s D i _ d hcnt (by omega) (by omega) hW hl⟩ (by omega) hl9).cast (by simp;omega)
theorem xfO (r:Nat) (s:Value) (D:List UInt8) (hD:D.length < 4294967296):∀ (n:Nat) (v:V),SizeOf.sizeOf v<=n->Good v->IH r s D v:=by
 intro n
 induction n using Nat.strongRecOn with
 | _ n ih =>
  intro v hv hg bs hE W i hW hL
  have hI:∀ k ∈ v.kids,IH r s D k:=fun k hk=>by
   have:=V.sizeOf_kid hk;exact ih (SizeOf.sizeOf k) (by omega) k (Nat.le_refl _) (hg.kid hk)
  cases hE with
  | @desc _ d c e p h1 _ _=>rw [hg.desc] at h1;cases h1
  | @plain _ c p _ hF=>exact RA_form W r s D i v hD hg hI hF hW hL
end Go.Proofs.YtmdpodeegdjkeaaGreatDoor
