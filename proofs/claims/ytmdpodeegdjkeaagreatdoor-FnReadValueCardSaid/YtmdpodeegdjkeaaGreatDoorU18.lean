/- Part 18 of the proof of the readers and the guards. No conditions. -/
import Derived.Deep.RegionWith
import Derived.Test.YtmdpodeegdjkeaaGreatDoorU0
import Derived.Test.YtmdpodeegdjkeaaGreatDoorU17
set_option maxRecDepth 100000
set_option maxHeartbeats 3200000
namespace Go.Proofs.YtmdpodeegdjkeaaGreatDoor
open Go Go.RowKit Go.Lib Tryz
theorem xhV (w0 w:World) (r:Nat) (s:Value) (D:List UInt8) (i0 i p:Nat) (t:TypeId) (l:List V) (m:Nat) (pos:Nat->Nat) (h0:Buf w0 r s D i0) (hA:At_ w0 w r s D i) (hp:w0.heap.size<=p) (hc:Blk w p t #[.map none])
  (hH:∀ W,Buf W r s D i->Calls prog 100 #[.pointer (some ⟨r,0,none⟩)] W fun e W'=>e = .returned (.tuple #[.int .u32 (2*(m:Int)),.nilIface])/\At_ W W' r s D (pos 0))
  (hn:l.length=2*m) (hle:m<=32768) (hR:Reads r s D l pos) (hK:xgs l) :
  Calls prog 47 #[.pointer (some ⟨p,0,none⟩),.pointer (some ⟨r,0,none⟩)] w (Gives fun e w'=>e = .nilIface/\xeO w0 r s D (pos (2*m)) p t l m w'):=by
 have HB:=hid h0;have HA:=hid (aI hA (aI hc hp));have HH:=hid hH;have hpr:¬ Only r p:=fun e=>by have e':p=r:=e;have:=h0.lt;omega
 have HP:=hid hpr;have HX:=hid (aI hn (aI hle (aI hR hK)));clear h0 hA hp hc hH hpr hn hR hK;go_enter func47,ntmps47;go_wp2_with (first | (go_at_call 100;go_must (refine (HH.out _ HA.out.1.buf).mono ?_;rintro e w1 ⟨rfl,hA1⟩;have H1:=hid (aI (HA.out.1.trans hA1) (HA.out.2.1.kept hA1.kept HP.out));clear hA1)) | (go_at_call 106;go_must (refine (xmY w0 _ r s D _ p t l m pos HB.out H1.out.1 HA.out.2.2 H1.out.2 HX.out.1 HX.out.2.1 HX.out.2.2.1 HX.out.2.2.2).mono ?_;rintro e w2 ⟨x,rfl,rfl,hM⟩;have H2:=hid hM;clear hM)));go_ret;exact ⟨_,rfl,rfl,H2.out⟩
theorem Ne_.irr {t:ByteArray} (h:Ne_ (.iface 9 (.string t)) (.iface 9 (.string t))) (w:World):False:=by
 have e:(Op.equal 20 (.iface 9 (.string t)) (.iface 9 (.string t))).run prog w = .ok (t == t) w:=by kernel_rfl
 rw [h w,(MapKept.bytes_beq t t).2 rfl] at e;cases e
theorem rtype_string {k:Int} (h:xbn k) (e:rtype k=9):k=19:=by
 have e1:k=1\/k=2\/k=3\/k=4\/k=5\/k=6\/k=7\/k=8\/k=9\/k=16\/k=17\/k=19:=by unfold xbn at h;omega
 rcases e1 with rfl | rfl | rfl | rfl | rfl | rfl | rfl | rfl | rfl | rfl | rfl | rfl <;> first | rfl | exact absurd e (by decide)
theorem xeW {v:V} (h:v.kind=19):raw v = .string v.text:=by simp [raw,h]
theorem xeO.keys {w0 w:World} {r:Nat} {s:Value} {D:List UInt8} {j p:Nat} {t:TypeId} {l:List V} {m:Nat} (h:xeO w0 r s D j p t l m w) (hn:l.length=2*m) (hK:xgs l) :
  ∃ b es,Blk w p t #[.map (some b)]/\w0.heap.size<=b/\MapAt w b es/\es.length=m/\(∀ (i:Nat) (e:Value × Value) (u:V),es[i]? = some e->l[2*i]? = some u->AnyV (xaf w0) w e.1 u)/\(∀ (i:Nat) (e:Value × Value) (u:V),es[i]? = some e->l[2*i+1]? = some u->AnyV (xaf w0) w e.2 u)/\xgS es /\
   ∀ (i:Nat) (e:Value × Value) (u:V),es[i]? = some e->l[2*i]? = some u->e.1 = .iface (rtype u.kind) (raw u):=by
 obtain ⟨_,b,es,h1,h2,h3,h4,h5,h6⟩:=h;have hk:∀ (i:Nat) (e:Value × Value) (u:V),es[i]? = some e->l[2*i]? = some u->e.1 = .iface (rtype u.kind) (raw u):=fun i e u he hu=>(h5 i e u he hu).key (hK.ok i u hu).1
 have hl:∀ i (e:Value × Value),es[i]? = some e->∃ u,l[2*i]? = some u:=fun i e he=>by
  have:=(gi.1 he).1;exact ⟨_,ge (by omega)⟩
 refine ⟨b,es,h1,h2,h3,h4,h5,h6,⟨fun e he => ?_,fun i k e e' t he he' ht ht' => ?_⟩,hk⟩
 ·obtain ⟨i,hi⟩:=List.mem_iff_getElem?.1 he;obtain ⟨u,hu⟩:=hl i e hi;refine ⟨_,_,hk i e u hi hu,xkJ (hK.ok i u hu).1,fun hT=>⟨u.text,xeW (rtype_string (hK.ok i u hu).1 hT)⟩⟩
 ·obtain ⟨u,hu⟩:=hl i e he;obtain ⟨u',hu'⟩:=hl k e' he';rw [hk i e u he hu] at ht;rw [hk k e' u' he' hu'] at ht'
  rcases Nat.lt_trichotomy i k with hlt | heq | hgt
  ·have:=hK.ne i k u u' hlt hu hu';rw [ht,ht'] at this;exact (this.irr w).elim
  ·exact heq
  ·have:=hK.ne k i u' u hgt hu' hu;rw [ht,ht'] at this;exact (this.irr w).elim
theorem xoH {w0 w w':World} {b:Nat} {es:List (Value × Value)} {l:List V} {m:Nat} (hn:l.length=2*m) (h2:w0.heap.size<=b) (h3:MapAt w b es) (h4:es.length=m) (h5:∀ (i:Nat) (e:Value × Value) (u:V),es[i]? = some e->l[2*i]? = some u->AnyV (xaf w0) w e.1 u)
  (h6:∀ (i:Nat) (e:Value × Value) (u:V),es[i]? = some e->l[2*i+1]? = some u->AnyV (xaf w0) w e.2 u) (hk:Kept Nope w w') {v:V} (hv:v.kind=22) (hl:v.kids=l):AnyV (xaf w0) w' (.iface 70 (.map (some b))) v:=by
 subst hl;exact .map (fun i=>i) (fun i=>i) hv h2 (h3.keep hk fun h=>h) (by omega) (fun i hi=>hi) (fun p hp=>⟨hp,rfl⟩) (fun i e u he hu=>(h5 i e u he hu).keep hk fun _ _ _ h=>h) (fun i e u he hu=>(h6 i e u he hu).keep hk fun _ _ _ h=>h)
theorem xoG {w0 w w':World} {b2:Nat} {es es2:List (Value × Value)} {vis:List Nat} {l:List V} {m:Nat} (hn:l.length=2*m) (h2:w0.heap.size<=b2) (h3:MapAt w' b2 es2) (h4:es.length=m) (hc:Copies es es2 vis) (hd:vis.Nodup) (hb:∀ i ∈ vis,i < es.length) (ha:∀ i,i < es.length->i ∈ vis)
  (h5:∀ (i:Nat) (e:Value × Value) (u:V),es[i]? = some e->l[2*i]? = some u->e.1 = .iface (rtype u.kind) (raw u)) (hK:xgs l)
  (h6:∀ (i:Nat) (e:Value × Value) (u:V),es[i]? = some e->l[2*i+1]? = some u->AnyV (xaf w0) w e.2 u) (hk:Kept Nope w w') {v:V} (hv:v.kind=22) (hl:v.kids=l):AnyV (xaf w0) w' (.iface 84 (.map (some b2))) v:=by
 subst hl
 have hlen:vis.length=es.length:=by
  have h1:=List.Nodup.length_le_of_subset hd (l₂:=List.range es.length) (fun i hi=>by simpa using hb i hi);have h2:=List.Nodup.length_le_of_subset (List.nodup_range (n:=es.length)) (l₂:=vis) (fun i hi=>ha i (by simpa using hi));simp at h1 h2;omega
 refine .mapS (fun i=>vis.getD i 0) (fun p=>vis.idxOf p) hv h2 h3 (by rw [hc.1];omega) (fun i hi => ?_) (fun p hp=>⟨?_,?_⟩) (fun i e' u he hu => ?_) (fun i e' u he hu => ?_)
 ·rw [hc.1] at hi ⊢;rw [hlen,List.getD_eq_getElem?_getD,ge hi,Option.getD_some];exact hb _ (List.getElem_mem hi)
 ·rw [hc.1] at hp ⊢;exact List.idxOf_lt_length_of_mem (ha p (by omega))
 ·have hp':vis.idxOf p < vis.length:=List.idxOf_lt_length_of_mem (ha p (by rw [hc.1] at hp;omega))
  show vis.getD _ 0=p
  rw [List.getD_eq_getElem?_getD,ge hp',Option.getD_some];exact List.getElem_idxOf hp'
 ·obtain ⟨j,e,t,hj,hje,ht,rfl⟩:=hc.2 i e' he;have hg:vis.getD i 0=j:=by rw [List.getD_eq_getElem?_getD,hj];rfl
  rw [hg] at hu;have:=h5 j e u hje hu;rw [ht] at this;have hk19:=rtype_string (hK.ok j u hu).1 (by injection this with h1 h2;exact h1.symm);refine ⟨hk19,?_⟩;rw [xeW hk19] at this;injection this with h1 h2
 ·obtain ⟨j,e,t,hj,hje,ht,rfl⟩:=hc.2 i e' he;have hg:vis.getD i 0=j:=by rw [List.getD_eq_getElem?_getD,hj];rfl
  rw [hg] at hu;exact (h6 j e u hje hu).keep hk fun _ _ _ h=>h
theorem xhm (w:World) (b:Nat) (es:List (Value × Value)) (hm:MapAt w b es) (hK:xgS es) (hsm:es.length<=65536):Calls prog 182 #[.map (some b)] w (xac fun x e w'=>e = .nilIface/\xir w b es x w'):=by
 by_cases hz:0 < es.length
 ·exact xgC w b es hm hz hK hsm
 ·have:es=[]:=List.eq_nil_of_length_eq_zero (by omega);subst this;exact xgD w b hm
theorem xjL (w:World) (r:Nat) (s:Value) (D:List UInt8) (i:Nat) (l:List V) (m:Nat) (pos:Nat->Nat) (h:Buf w r s D i)
  (hH:∀ W,Buf W r s D i->Calls prog 100 #[.pointer (some ⟨r,0,none⟩)] W fun e W'=>e = .returned (.tuple #[.int .u32 (2*(m:Int)),.nilIface])/\At_ W W' r s D (pos 0))
  (hn:l.length=2*m) (hle:m<=32768) (hR:Reads r s D l pos) (hK:xgs l) :
  Calls prog 128 #[.pointer (some ⟨r,0,none⟩)] w (xac fun x e w'=>e = .nilIface/\(∀ v:V,v.kind=22->v.kids=l->AnyV (xaf w) w' x v)/\At_ w w' r s D (pos (2*m))):=by
 have H0:=hid (xhV w (w.alloc (.cells #[.map none] 70)) r s D i i w.heap.size 70 l m pos h ((At_.refl h).nope ((kR _ _).alloc _)) (Nat.le_refl _) (Blk.new _ _ _) hH hn hle hR hK);have HX:=hid (aI hn (aI hK hle));clear h hH hn hR hK;go_enter func128,ntmps128;go_wp2_with (first | (go_at_call 47;go_must (refine (H0.out).mono ?_;rintro e w1 ⟨_,rfl,rfl,hP⟩;obtain ⟨b,es,h1,h2,h3,h4,h5,h6,h7,h8⟩:=hP.keys HX.out.1 HX.out.2.1;have c1:=h1.cell 0;have H1:=hid (aI hP.1 (aI h2 (aI h3 (aI h4 (aI h5 (aI h6 (aI h7 h8)))))));clear hP h1 h2 h3 h4 h5 h6 h7 h8)) | (go_at_call 182;go_must (refine (xhm w1 b es H1.out.2.2.1 H1.out.2.2.2.2.2.2.1 (by have h1:=H1.out.2.2.2.1;have h2:=HX.out.2.2;omega)).mono ?_;rintro e w2 ⟨x,y,rfl,rfl,hI⟩;have H2:=hid hI;clear hI)));go_ret2;obtain ⟨h1,h2,h3,h4,h5,h6,h7,h8⟩:=H1.out;refine ⟨_,_,rfl,rfl,?_,h1.nope H2.out.1⟩;intro v hv hl;obtain ⟨hk,rfl | ⟨b2,es2,vis,rfl,g1,g2,g3,g4,g5,g6⟩⟩:=H2.out
 ·exact xoH HX.out.1 h2 h3 h4 h5 h6 hk hv hl
 ·exact xoG HX.out.1 (Nat.le_trans h1.kept.size g1) g2 h4 g3 g4 g5 g6 h8 HX.out.2.1 h6 hk hv hl
section
structure AInv (w0:World) (r:Nat) (s:Value) (D:List UInt8) (j p:Nat) (t:TypeId) (g:Nat) (e:TypeId) (gb off N b:Nat) (cv:Nat->Value) (total k:Nat) (w:World):Prop where
 at_:At_ w0 w r s D j
 cell:Blk w p t #[.slice none 0 0]
 big:w0.heap.size<=g
 bigp:w0.heap.size<=p
 ne:p < g
 src_lt:gb < g
 src:∀ m x,m < N->D[b+m]? = some x->w.cell? ⟨gb,off+m,none⟩=some (.int .u8 x.toNat)
 row:∃ cs,Blk w g e cs/\cs.size=total/\∀ i,i < k->cs[i]? = some (cv i)
namespace AInv
variable {w0 w w':World} {r:Nat} {s:Value} {D:List UInt8} {i0 j p:Nat} {t:TypeId} {g:Nat} {e:TypeId} {gb off N b:Nat} {cv:Nat->Value} {total k:Nat}
theorem start {z:Value} (hA:At_ w0 w r s D j) (hc:Blk w p t #[.slice none 0 0]) (hp:w0.heap.size<=p) (hN:0 < N) (hb:b+N<=D.length)
  (hs:∀ m x,m < N->D[b+m]? = some x->w.cell? ⟨gb,off+m,none⟩=some (.int .u8 x.toNat)):AInv w0 r s D j p t w.heap.size e gb off N b cv total 0 (w.alloc (.cells (madeCells #[z] total) e)):=by
 have hlt:gb < w.heap.size:=by
  have hx:D[b+0]? = some (D[b]'(by omega)):=ge (by omega);exact World.block_lt_of_cell? w _ (hs 0 _ hN hx)
 have hk:Kept Nope w (w.alloc (.cells (madeCells #[z] total) e)):=(kR _ _).alloc _;exact ⟨hA.nope hk,hc.alloc _,hA.kept.size,hp,hc.lt,hlt,fun m x hm hx=>hk.cell (hs m x hm hx) (fun h=>h),_,Blk.new _ _ _,by simp [madeCells],fun i hi=>by omega⟩
theorem nope (h:AInv w0 r s D j p t g e gb off N b cv total k w) (hk:Kept Nope w w'):AInv w0 r s D j p t g e gb off N b cv total k w':=by
 obtain ⟨cs,h1,h2⟩:=h.row;exact ⟨h.at_.nope hk,h.cell.kept hk (fun h=>h),h.big,h.bigp,h.ne,h.src_lt,fun m x hm hx=>hk.cell (h.src m x hm hx) (fun h=>h),cs,h1.kept hk (fun h=>h),h2⟩
theorem cell_ (h:AInv w0 r s D j p t g e gb off N b cv total k w) {i:Nat} (hi:i < total):(∃ u,w.cell? ⟨g,i,none⟩=some u)/\w.frozen? ⟨g,i,none⟩=false:=by
 obtain ⟨cs,h1,h2,_⟩:=h.row;exact ⟨⟨cs[i]'(by omega),by rw [h1.cell i];exact Array.getElem?_eq_getElem (by omega)⟩,h1.frozen i⟩
theorem set_ (h:AInv w0 r s D j p t g e gb off N b cv total k w) (h0:Buf w0 r s D i0) (hk:k < total):AInv w0 r s D j p t g e gb off N b cv total (k+1) (w.setCell ⟨g,k,none⟩ (cv k)):=by
 obtain ⟨cs,h1,h2,h3⟩:=h.row;have hks:Kept (Only g) w (w.setCell ⟨g,k,none⟩ (cv k)):=(kR _ _).set1 k _;refine ⟨h.at_.setNew h0 h.big _,h.cell.kept hks (fun e=>by have e':p=g:=e;have:=h.ne;omega),h.big,h.bigp,h.ne,h.src_lt,fun m x hm hx=>hks.cell (h.src m x hm hx) (fun e=>by have e':gb=g:=e;have:=h.src_lt;omega),_,h1.set_ k (cv k),by simpa using h2,fun i hi => ?_⟩;rw [Array.getElem?_setIfInBounds]
 split
 ·rename_i he;subst he;rw [if_pos (by omega)]
 ·exact h3 i (by omega)
end AInv
def xbZ (w0:World) (r:Nat) (s:Value) (D:List UInt8) (j p:Nat) (t:TypeId) (size n:Nat) (xs:List Value) (w:World):Prop :=
 At_ w0 w r s D j/\∃ v,Blk w p t #[v]/\CSl (xaf w0) w size v n xs
theorem AInv.done {w0 w:World} {r:Nat} {s:Value} {D:List UInt8} {i0 j p:Nat} {t:TypeId} {g:Nat} {e:TypeId} {gb off N b:Nat} {cv:Nat->Value} {size n:Nat} (h:AInv w0 r s D j p t g e gb off N b cv (n*size) (n*size) w) (h0:Buf w0 r s D i0) (hn:n<=maxLen) :
  xbZ w0 r s D j p t size n ((List.range (n*size)).map cv) (w.setCell ⟨p,0,none⟩ (.slice (some ⟨g,0,none⟩) n n)):=by
 obtain ⟨cs,h1,h2,h3⟩:=h.row;have hks:Kept (Only p) w (w.setCell ⟨p,0,none⟩ (.slice (some ⟨g,0,none⟩) n n)):=(kR _ _).set1 0 _;have hbg:=h1.kept hks (fun e=>by have e':g=p:=e;have:=h.ne;omega);refine ⟨h.at_.setNew h0 h.bigp _,_,by simpa using h.cell.set_ 0 (.slice (some ⟨g,0,none⟩) n n),by simp,some ⟨g,0,none⟩,n,rfl,Nat.le_refl _,hn,.inr ⟨g,0,rfl,h.big,fun i u hu => ?_⟩⟩;rw [Nat.zero_add,hbg.cell i];rw [gM] at hu
 cases hr:(List.range (n*size))[i]? with
 | none=>rw [hr] at hu;cases hu
 | some m =>
  rw [hr] at hu;have hi:i < n*size:=by have:=(gi.1 hr).1;simpa using this
  have hm:m=i:=by rw [List.getElem?_range hi] at hr;cases hr;rfl
  subst hm;rw [<- hu];exact h3 m hi
def at0 (D:List UInt8) (i:Nat):UInt8:=D.getD i 0
theorem xag {D:List UInt8} {i:Nat} (h:i < D.length):D[i]? = some (at0 D i):=by
 unfold at0;rw [List.getD_eq_getElem?_getD,ge h];rfl
def v16 (D:List UInt8) (b k:Nat):Nat:=Lib.beNat [at0 D (b+2*k),at0 D (b+2*k+1)]
def v32 (D:List UInt8) (b k:Nat):Nat:=Lib.beNat [at0 D (b+4*k),at0 D (b+4*k+1),at0 D (b+4*k+2),at0 D (b+4*k+3)]
def v64 (D:List UInt8) (b k:Nat):Nat:=Lib.beNat [at0 D (b+8*k),at0 D (b+8*k+1),at0 D (b+8*k+2),at0 D (b+8*k+3),at0 D (b+8*k+4),at0 D (b+8*k+5),at0 D (b+8*k+6),at0 D (b+8*k+7)]
theorem info_u16:(prog.info? 100).map (fun i=>(i.zero,i.size,i.bytes))=some (some (.int .u16 0),1,2):=by kernel_rfl
theorem xlS (w0 w:World) (r:Nat) (s:Value) (D:List UInt8) (i0 i j p:Nat) (t:TypeId) (n:Nat) (h0:Buf w0 r s D i0) (hA:At_ w0 w r s D i) (hp:w0.heap.size<=p) (hc:Blk w p t #[.slice none 0 0])
    (hz:0 < n) (hn:n<=65536) (hH:∀ W,Buf W r s D i->Calls prog 183 #[.pointer (some ⟨r,0,none⟩)] W fun e W'=>e = .returned (.tuple #[.int .i64 n,.nilIface])/\At_ W W' r s D j) (hcode:D[j]? = some 96) (hle:j+1+n*2<=D.length) :
    Calls prog 132 #[.pointer (some ⟨p,0,none⟩),.pointer (some ⟨r,0,none⟩)] w (Gives fun e w'=>e = .nilIface/\xbZ w0 r s D (j+1+n*2) p t 1 n ((List.range n).map fun k => .int .u16 (v16 D (j+1) k)) w'):=by
  obtain ⟨i1,hi,hz0,hz1,hz2⟩:=info_parts info_u16;have HB:=hid h0;have HA:=hid (aI hA (aI hc hp));have HH:=hid hH;have hpr:¬ Only r p:=fun e=>by have e':p=r:=e;have:=h0.lt;omega
  have HX:=hid (aI hpr (aI hcode hle));have hz':(0:Int) < (n:Int):=by omega
  have e1:IntKind.i64.wrap ((n:Int)*2)=((n*2:Nat):Int):=by rw [IntWalk.i64_in _ (by omega)];simp
  clear h0 hA hp hc hH hpr hcode hle;go_enter func132,ntmps132;go_wp2_with (first | (go_at_call 183;go_must (refine (HH.out _ HA.out.1.buf).mono ?_;rintro e w1 ⟨rfl,hA1⟩;have H1:=hid (aI (HA.out.1.trans hA1) (HA.out.2.1.kept hA1.kept HX.out.1));clear hA1)) | (go_at_call 160;go_must (refine (xaa r s D j _ _ H1.out.1.buf HX.out.2.1).mono ?_;rintro e w2 ⟨rfl,hA2⟩;have H2:=hid (aI (H1.out.1.trans hA2) (H1.out.2.kept hA2.kept HX.out.1));clear hA2)) | (go_at_call 161;go_must (refine (xbd r s D (j+1) _ (n*2) H2.out.1.buf (by have:=HX.out.2.2;omega) (by omega)).mono ?_;rintro e w3 ⟨v,b,rfl,rfl,⟨g,off,c4,rfl,hg,hgc,hcm,hcell⟩,hA3⟩;have H3:=hid (aI (H2.out.1.trans hA3) (aI (H2.out.2.kept hA3.kept HX.out.1) hcell));have c3:=H3.out.2.1.cell 0;clear hA3 hcell)) | (at_make;go_must (refine wpList_make_row _ rfl (.tmp 50) (.tmp 50) 118 rfl 100 i1 (.int .u16 0) underlying118 hi hz0 hz1 rfl .i64 .i64 n rfl rfl (by rw [hz2];omega) (by omega) ?_)));have HI:=hid (AInv.start (e:=100) (cv:=fun k => .int .u16 (v16 D (j+1) k)) (total:=n*1) (z:=.int .u16 0) H3.out.1 H3.out.2.1 HA.out.2.2 (show 0 < n*2 by omega) HX.out.2.2 H3.out.2.2);rw [Nat.mul_one] at HI;generalize hW:w3.alloc (.cells (madeCells #[.int .u16 0] n) 100)=W at HI ⊢;obtain ⟨G,hG⟩:∃ G,w3.heap.size=G:=⟨_,rfl⟩
  rw [hG] at HI ⊢;clear hW hG H1 H2 H3 c3 e1
  go_loopw [57,11] (fun c q w'=>∃ k:Nat,k<=n/\c = .int .i64 k/\q = .int .i64 (2*(k:Int))/\Hid (AInv w0 r s D (j+1+n*2) p t G 100 g off (n*2) (j+1) (fun k => .int .u16 (v16 D (j+1) k)) n k w')) (fun c _ _=>n - (RowKit.intOf c).toNat)
  case atStart=>exact ⟨0,by omega,rfl,rfl,HI⟩
  case round =>
    obtain ⟨k,hk,rfl,rfl,HI⟩:=hrel
    by_cases hkn:k < n
    . have hkn':(k:Int) < (n:Int):=by omega
      have hk0:(0:Int)<=(k:Int):=by omega
      have hl0:(0:Int)<=2*(k:Int):=by omega
      have hl1:2*(k:Int)<=((n*2:Nat):Int):=by omega
      have hl2:2*(k:Int)<=(n:Int)*2:=by omega
      have ht:(2*(k:Int)).toNat=2*k:=by omega
      have hci:¬ c4=2*k:=by omega
      have e2:IntKind.i64.wrap (2*(k:Int)+2)=2*(k:Int)+2:=IntWalk.i64_in _ (by omega);have e3:IntKind.i64.wrap ((k:Int)+1)=(k:Int)+1:=IntWalk.i64_in _ (by omega);go_wp2_with (fail)
      go_region_with (go_at_call 184;go_must (refine (Tryz.binary_BE_Uint16 g (off+2*k) (n*2 - 2*k) (c4 - 2*k) (at0 D (j+1+2*k)) (at0 D (j+1+2*k+1)) _ (by omega) (by exact HI.out.src (2*k) _ (by omega) (xag (by have:=HX.out.2.2;omega))) (by exact HI.out.src (2*k+1) _ (by omega) (xag (by have:=HX.out.2.2;omega)))).mono ?_;rintro e w5 ⟨rfl,hb5⟩;have hI5:=HI.out.nope (((kR Nope wr).drew).trans' (Kept.below hb5 rfl));have HI5:=hid hI5;obtain ⟨⟨u,c5⟩,f5⟩:=hI5.cell_ (i:=k) (by omega);clear hb5 hI5))
      all_goals
       have HI6:=hid (HI5.out.set_ HB.out hkn);go_wp2_with (fail);go_roundw
       case rel=>exact ⟨k+1,by omega,by go_num,by go_num,HI6⟩
       case measure=>simp [RowKit.intOf];omega
    . obtain rfl:k=n:=by omega
      have c4':=HI.out.cell.cell 0;have f4':=HI.out.cell.frozen 0;have hlt:¬ (k:Int) < (k:Int):=by omega
      have hd:=AInv.done (size:=1) (n:=k) (by rw [Nat.mul_one];exact HI.out) HB.out (by unfold maxLen;omega);rw [Nat.mul_one] at hd;have HD:=hid hd;clear hd;go_wp2_with (fail);go_ret;exact ⟨_,rfl,rfl,HD.out⟩
end
end Go.Proofs.YtmdpodeegdjkeaaGreatDoor
