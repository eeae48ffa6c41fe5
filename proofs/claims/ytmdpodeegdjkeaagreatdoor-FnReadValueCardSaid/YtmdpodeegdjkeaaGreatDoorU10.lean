/- Part 10 of the proof of the readers and the guards. No conditions. -/
import Derived.Maps.RangeWalk
import Derived.Test.YtmdpodeegdjkeaaGreatDoorU0
import Derived.Test.YtmdpodeegdjkeaaGreatDoorU6
import Derived.Test.YtmdpodeegdjkeaaGreatDoorU8
import Derived.Test.YtmdpodeegdjkeaaGreatDoorU9
set_option maxRecDepth 100000
set_option maxHeartbeats 3200000
namespace Go.Proofs.YtmdpodeegdjkeaaGreatDoor
open Go Go.RowKit Go.Lib Tryz
def xeO (w0:World) (r:Nat) (s:Value) (D:List UInt8) (j p:Nat) (t:TypeId) (l:List V) (m:Nat) (w:World):Prop :=
 At_ w0 w r s D j/\∃ b es,Blk w p t #[.map (some b)]/\w0.heap.size<=b/\MapAt w b es/\es.length=m/\(∀ (i:Nat) (e:Value × Value) (u:V),es[i]? = some e->l[2*i]? = some u->AnyV (xaf w0) w e.1 u)/\(∀ (i:Nat) (e:Value × Value) (u:V),es[i]? = some e->l[2*i+1]? = some u->AnyV (xaf w0) w e.2 u)
theorem MInv.done {w0 w:World} {r:Nat} {s:Value} {D:List UInt8} {i0 p:Nat} {t:TypeId} {b:Nat} {l:List V} {pos:Nat->Nat} {m:Nat}
  (h:MInv w0 r s D p t b l pos m w) (h0:Buf w0 r s D i0):xeO w0 r s D (pos (2*m)) p t l m (w.setCell ⟨p,0,none⟩ (.map (some b))):=by
 obtain ⟨es,hm,hl,h1,h2⟩:=h.row;have hks:∀ u,Kept (Only p) w (w.setCell ⟨p,0,none⟩ u):=fun u=>(kR _ _).set1 0 u
 have hS:∀ c:Nat,b < c->¬ Only p c:=fun c hc e=>by have e':c=p:=e;have:=h.ne;omega
 have hab:∀ c:Nat,b < c->xaf w0 c:=fun c hc=>by have:=h.big;show w0.heap.size<=c;omega
 exact ⟨h.at_.setNew h0 h.bigp _,b,es,by simpa using h.cell.set_ 0 (.map (some b)),h.big,hm.keep (hks _) (fun e=>by have e':b=p:=e;have:=h.ne;omega),hl,
  fun i e u he hu=>((h1 i e u he hu).keep (hks _) fun c _ hc=>hS c hc).mono hab,fun i e u he hu=>((h2 i e u he hu).keep (hks _) fun c _ hc=>hS c hc).mono hab⟩
theorem xdq {t kt et:TypeId} (ht:prog.underlying t=some (.map kt et)) (q:IntKind) (n:Int) (W:World):(Instr.makeMap t (some (.int q n))).run prog W = .ok (.map (some W.heap.size)) (W.alloc (.map #[] 0)):=by
 simp only [Instr.makeMap,Sem.run_bind,run_underlying ht,Result.andThen_ok,asInt,Sem.run_pure]
 rfl
theorem u32_in {a:Int} (h:0<=a/\a < 4294967296):IntKind.u32.wrap a=a:=by simp [IntKind.wrap,IntKind.bits,IntKind.signed];omega
theorem xmY (w0 w:World) (r:Nat) (s:Value) (D:List UInt8) (i0 p:Nat) (t:TypeId) (l:List V) (m:Nat) (pos:Nat->Nat) (h0:Buf w0 r s D i0) (hA:At_ w0 w r s D (pos 0)) (hp:w0.heap.size<=p) (hc:Blk w p t #[.map none])
  (hn:l.length=2*m) (hle:m<=32768) (hR:Reads r s D l pos) (hK:xgs l) :
  Calls prog 106 #[.pointer (some ⟨p,0,none⟩),.pointer (some ⟨r,0,none⟩),.int .u32 (2*(m:Int))] w (Gives fun e w'=>e = .nilIface/\xeO w0 r s D (pos (2*m)) p t l m w'):=by
 have HL:=hid hn;have HB:=hid h0;have HA:=hid (aI hA (aI hc hp));have HR:=hid hR;have HK:=hid hK;have hq:(2*(m:Int)).tdiv 2=m:=by rw [Int.tdiv_eq_ediv_of_nonneg (by omega)];omega
 have hqq:IntKind.u32.wrap (m:Int)=m:=u32_in (by omega);clear h0 hA hp hc hR hK hn;have hmk:=fun W=>xdq underlying79 .u32 (m:Int) W
 go_enter func106,ntmps106;go_wp2_with (fail);have HI:=hid (MInv.start (l:=l) (pos:=pos) HA.out.1 HA.out.2.1 HA.out.2.2);clear hq hqq hmk;generalize hW:w.alloc (.map #[] 0)=W at HI ⊢;obtain ⟨b,hb⟩:∃ b,w.heap.size=b:=⟨_,rfl⟩
 rw [hb] at HI ⊢;clear hW hb
 go_loopw [8] (fun c w'=>∃ k:Nat,k<=m/\c = .int .u32 (2*(k:Int))/\Hid (MInv w0 r s D p t b l pos k w')) (fun c _=>2*m - (RowKit.intOf c).toNat)
 case atStart=>exact ⟨0,by omega,rfl,HI⟩
 case round =>
  obtain ⟨k,hk,rfl,HI⟩:=hrel
  by_cases hkn:k < m
  ·have hkn':2*(k:Int) < 2*(m:Int):=by omega
   have e1:IntKind.u32.wrap (2*(k:Int)+2)=2*(k:Int)+2:=u32_in (by omega);have hl1:2*k < l.length:=by rw [HL.out];omega
   have hl2:2*k+1 < l.length:=by rw [HL.out];omega
   obtain ⟨u,hu⟩:∃ v,l[2*k]? = some v:=⟨_,ge hl1⟩
   obtain ⟨v,hv⟩:∃ v,l[2*k+1]? = some v:=⟨_,ge hl2⟩
   have hkl:∀ i,i < k->∃ z,l[2*i]? = some z:=fun i hi=>⟨_,ge (by omega)⟩
   have HV:=hid (aI hu (aI hv hkl));have hko:=HK.out.ok k u hu;have HKO:=hid hko;clear hu hv hkl hl1 hl2 hko;go_wp2_with (first | (go_at_call 53;refine (HR.out _ u HV.out.1 _ HI.out.at_.buf).mono ?_;rintro e w3 ⟨x,y,rfl,rfl,hx,hA3⟩;have H3:=hid (aI hA3 hx);have hx0:=hx.key HKO.out.1;subst hx0;clear hx hA3) | (go_at_call 53;go_must (refine (HR.out _ v HV.out.2.1 _ H3.out.1.buf).mono ?_;rintro e w4 ⟨z,y,rfl,rfl,hz,hA4⟩;have H4:=hid (HI.out.mid HB.out H3.out.1 H3.out.2 hA4 hz);clear hz hA4)) | (go_at_call 163;go_must (refine (xpU _ _ _ (xkJ HKO.out.1)).mono ?_;rintro e w5 ⟨rfl,rfl⟩;obtain ⟨es,hes,hno⟩:=H4.out.fresh HV.out.1 HK.out HV.out.2.2;have H5:=hid (aI hes hno);clear hes hno)) | (at_mapUpdate;go_must (refine xbw rfl (.tmp 40) (.tmp 41) (.tmp 42) 79 rfl rfl rfl rfl H5.out.1 underlying79 (fun W=>xlr HKO.out W) H5.out.2 ?_;intro w6 hm6 hk6;have H6:=hid (H4.out.step HB.out HV.out.1 HV.out.2.1 H5.out.1 hm6 hk6);clear hm6 hk6)));go_roundw
   case rel=>exact ⟨k+1,by omega,by go_num,H6⟩
   case measure=>simp [RowKit.intOf];omega
  ·obtain rfl:k=m:=by omega
   have c4:=HI.out.cell.cell 0;have f4:=HI.out.cell.frozen 0;have hlt:¬ 2*(k:Int) < 2*(k:Int):=by omega
   have HD:=hid (HI.out.done HB.out);go_wp2_with (fail);go_ret;exact ⟨_,rfl,rfl,HD.out⟩
section
open Go.ChangeMaps (setBlock)
def xby (w:World) (r b:Nat) (es:List (Value × Value)) (vis:List Nat):Prop :=
 ∃ arr clock seen,w.heap[b]? = some (.map arr clock)/\arr.toList.map (fun e=>(e.key,e.val))=es/\(∀ x ∈ arr.toList,x.born < clock)/\(arr.toList.map (·.born)).Nodup /\
  w.heap[r]? = some (.mapIter (some b) clock seen clock)/\(∀ i x,arr[i]? = some x->(seen.contains x.born=true ↔ i ∈ vis))/\vis.Nodup/\(∀ i ∈ vis,i < es.length)/\(∀ i x,vis.getLast? = some i->arr[i]? = some x->∃ s':Array Nat,seen=s'.push x.born)/\seen.size=vis.length
def xdd (w:World) (r:Nat):Nat:=match w.heap[r]? with | some (.mapIter _ _ seen _)=>seen.size | _=>0
namespace xby
variable {w w':World} {r b:Nat} {es:List (Value × Value)} {vis:List Nat} {M:Nat->Prop}
theorem map_ (h:xby w r b es vis):MapAt w b es:=by
 obtain ⟨arr,clock,seen,h1,h2,h3,h4,_⟩:=h;exact ⟨arr,clock,h1,h2,h3,h4⟩
theorem lt (h:xby w r b es vis):r < w.heap.size:=by obtain ⟨_,_,_,_,_,_,_,h,_⟩:=h;exact block_lt h
theorem keep (h:xby w r b es vis) (hk:Kept M w w') (hb:¬ M b) (hr:¬ M r):xby w' r b es vis:=by
 obtain ⟨arr,clock,seen,h1,h2,h3,h4,h5,h6⟩:=h;exact ⟨arr,clock,seen,hk.obj h1 hb,h2,h3,h4,hk.obj h5 hr,h6⟩
theorem start (w:World) (h:MapAt w b es):∃ clock,xby (w.alloc (.mapIter (some b) clock #[] clock)) w.heap.size b es []/\∀ t kt et,prog.underlying t=some (.map kt et) ->
  (Instr.range t (.map (some b))).run prog w = .ok (.pointer (some ⟨w.heap.size,0,none⟩)) (w.alloc (.mapIter (some b) clock #[] clock)):=by
 obtain ⟨arr,clock,h1,h2,h3,h4⟩:=h;refine ⟨clock,⟨arr,clock,#[],(Below.heap_alloc w _ b (block_lt h1)).trans h1,h2,h3,h4,heap_alloc_new w _,by simp,by simp,by simp,by simp,rfl⟩,fun t kt et ht => ?_⟩;simp only [Instr.range,Sem.run_bind,run_underlying ht,Result.andThen_ok,MapKept.run_getObj_map h1,Sem.run_pure]
 rfl
theorem next_ (h:xby w r b es vis) (ty:TypeId) :
  ((∀ i,i < es.length->i ∈ vis)/\(Instr.next (.pointer (some ⟨r,0,none⟩)) false ty).run prog w = .ok (.tuple #[.bool false]) w) \/
  ∃ i e w',i ∉ vis/\es[i]? = some e/\(Instr.next (.pointer (some ⟨r,0,none⟩)) false ty).run prog w = .ok (.tuple #[.bool true,e.1,e.2]) w'/\xby w' r b es (vis ++ [i])/\Kept (Only r) w w':=by
 obtain ⟨arr,clock,seen,h1,h2,h3,h4,h5,h6,h7,h8,h9,h10⟩:=h;have hrb:r≠b:=fun e=>by rw [e] at h5;rw [h1] at h5;cases h5
 have hlen:es.length=arr.size:=by rw [<- h2];simp
 have hat:∀ i:Nat,es[i]? = (arr[i]?).map fun e=>(e.key,e.val):=fun i=>by rw [<- h2];simp
 rcases run_next_at (P:=prog) w ty r b clock clock seen arr clock h5 h1 h3 (Nat.le_refl _) with ⟨h0,hrun⟩ | ⟨e,he,w1,hw1,hrun⟩
 ·left
  refine ⟨fun i hi => ?_,hrun⟩;have hx:arr[i]? = some arr[i]:=Array.getElem?_eq_getElem (by omega);refine (h6 i _ hx).1 ?_;cases hc:seen.contains arr[i].born
  ·exfalso
   have hm:arr[i] ∈ leftOf arr seen:=by
    unfold leftOf;rw [Array.mem_filter];exact ⟨Array.getElem_mem _,by rw [hc];rfl⟩
   have:=Array.size_pos_of_mem hm;omega
  ·rfl
 ·right
  have hm:e ∈ arr/\(!seen.contains e.born)=true:=by
   have:e ∈ leftOf arr seen:=by simpa using he
   unfold leftOf at this;rwa [Array.mem_filter] at this
  obtain ⟨i,hi⟩:=Array.mem_iff_getElem?.1 hm.1
  have hns:i ∉ vis:=fun hv=>by
   have:=(h6 i e hi).2 hv;rw [this] at hm;simp at hm
  have hil:i < arr.size:=(Array.getElem?_eq_some_iff.1 hi).1
  have hk1:Kept (Only r) w w1:=by
   rcases hw1 with rfl | rfl
   ·exact kR _ _
   ·exact (kR _ _).drew
  have h5':w1.heap[r]? = some (.mapIter (some b) clock seen clock):=by rcases hw1 with rfl | rfl <;> exact h5
  have hsb:∀ o:Obj,(setBlock w1 r o).heap[r]? = some o:=fun o=>by
   have hlt:r < w1.heap.size:=block_lt h5';simp [setBlock,hlt]
  have hso:∀ (o:Obj) (k:Nat),k≠r->(setBlock w1 r o).heap[k]? = w1.heap[k]? := fun o k hk=>by
   simp only [setBlock];rw [Array.getElem?_setIfInBounds,if_neg (by omega)]
  have hks:∀ o:Obj,Kept (Only r) w1 (setBlock w1 r o):=fun o=>⟨rfl,rfl,rfl,by simp [setBlock],fun k _ hk=>hso o k hk⟩
  refine ⟨i,(e.key,e.val),_,hns,by rw [hat,hi];rfl,hrun,⟨arr,clock,seen.push e.born,?_,h2,h3,h4,hsb _,?_,?_,?_,?_,by simp [h10]⟩,hk1.trans' (hks _)⟩
  ·rw [hso _ _ hrb.symm];exact hk1.obj h1 (fun e=>hrb e.symm)
  ·intro j x hx;rw [Array.contains_push];constructor
   ·intro hc
    rcases Bool.or_eq_true_iff.1 hc with hc | hc
    ·exact List.mem_append.2 (.inl ((h6 j x hx).1 hc))
    ·have hb:x.born=e.born:=by simpa using hc
     have hij:j=i:=by
      have hj:(arr.toList.map (·.born))[j]? = some x.born:=by simp [hx]
      have hi':(arr.toList.map (·.born))[i]? = some e.born:=by simp [hi]
      rw [hb] at hj;have hjl:j < (arr.toList.map (·.born)).length:=(gi.1 hj).1;exact (List.getElem?_inj hjl h4).1 (hj.trans hi'.symm)
     simp [hij]
   ·intro hv
    rcases List.mem_append.1 hv with hv | hv
    ·rw [(h6 j x hx).2 hv];rfl
    ·have hji:j=i:=by simpa using hv
     subst hji;rw [hi] at hx;cases hx;simp
  ·rw [List.nodup_append];exact ⟨h7,by simp,fun a ha c hc=>by simp at hc;subst hc;exact fun e=>hns (e ▸ ha)⟩
  ·intro j hj
   rcases List.mem_append.1 hj with hj | hj
   ·exact h8 j hj
   ·have:j=i:=by simpa using hj
    omega
  ·intro j x hj hx;have:j=i:=by simpa using hj.symm
   subst this;rw [hi] at hx;cases hx;exact ⟨seen,rfl⟩
theorem entry_ {i:Nat} {e:Value × Value} (h:xby w r b es (vis ++ [i])) (he:es[i]? = some e):(Instr.entry (.pointer (some ⟨r,0,none⟩))).run prog w = .ok (.tuple #[e.1,e.2]) w:=by
 obtain ⟨arr,clock,seen,h1,h2,h3,h4,h5,h6,h7,h8,h9,h10⟩:=h;have hat:es[i]? = (arr[i]?).map fun e=>(e.key,e.val):=by rw [<- h2];simp
 rw [hat] at he;obtain ⟨x,hx,rfl⟩:=Option.map_eq_some_iff.1 he;obtain ⟨seen',rfl⟩:=h9 i x (by simp) hx;exact run_entry_at (P:=prog) w r b clock seen' arr clock x h5 h1 (by have:=Array.mem_of_getElem? hx;simpa using this) h4
theorem size_ (h:xby w r b es vis):xdd w r=vis.length:=by
 obtain ⟨arr,clock,seen,h1,h2,h3,h4,h5,h6,h7,h8,h9,h10⟩:=h;unfold xdd;rw [h5];exact h10
theorem nodup (h:xby w r b es vis):vis.Nodup:=by obtain ⟨arr,clock,seen,h1,h2,h3,h4,h5,h6,h7,h8,h9,h10⟩:=h;exact h7
theorem below (h:xby w r b es vis):∀ i ∈ vis,i < es.length:=by obtain ⟨arr,clock,seen,h1,h2,h3,h4,h5,h6,h7,h8,h9,h10⟩:=h;exact h8
theorem few (h:xby w r b es vis):vis.length<=es.length:=by
 have:=List.Nodup.length_le_of_subset h.nodup (l₂:=List.range es.length) (fun i hi=>by simpa using h.below i hi)
 simpa using this
end xby
theorem xbT {ops:Array Oper} {rest:List Oper} {o:Oper} {a:Act} {Q:Exit->Act->World->Prop} {w:World} (hg:o.guard=none) (m:Operand) (t:TypeId) (hop:o.op=Op.range t m)
  {b:Nat} {es:List (Value × Value)} {kt et:TypeId} (hm:a.eval m = .map (some b)) (h:MapAt w b es) (ht:prog.underlying t=some (.map kt et))
  (hK:∀ w',xby w' w.heap.size b es []->Kept Nope w w'->wpList prog ops Q rest (a.put o.dst (.pointer (some ⟨w.heap.size,0,none⟩))) w'):wpList prog ops Q (o :: rest) a w:=by
 refine wpList_plain hg fun K hK' => ?_
 obtain ⟨clock,h1,hrun⟩:=xby.start w h;have hr:=hrun t kt et ht;unfold Oper.wp;simp [execOp,hop,hm,hr,Result.andThen];exact hK' _ _ (hK _ h1 ((kR _ _).alloc _))
theorem xcb {ops:Array Oper} {rest:List Oper} {o:Oper} {a:Act} {Q:Exit->Act->World->Prop} {w:World} (hg:o.guard=none) (it:Operand) (hop:o.op=Op.next it false)
  {r b:Nat} {es:List (Value × Value)} {vis:List Nat} (hit:a.eval it = .pointer (some ⟨r,0,none⟩)) (h:xby w r b es vis)
  (hend:(∀ i,i < es.length->i ∈ vis)->wpList prog ops Q rest (a.put o.dst (.tuple #[.bool false])) w)
  (hK:∀ i e w',i ∉ vis->es[i]? = some e->xby w' r b es (vis ++ [i])->Kept (Only r) w w'->wpList prog ops Q rest (a.put o.dst (.tuple #[.bool true,e.1,e.2])) w'):wpList prog ops Q (o :: rest) a w:=by
 refine wpList_plain hg fun K hK' => ?_
 rcases h.next_ o.type with ⟨h1,hrun⟩ | ⟨i,e,w',h1,h2,hrun,h3,h4⟩
 ·unfold Oper.wp;simp [execOp,hop,hit,hrun,Result.andThen];exact hK' _ _ (hend h1)
 ·unfold Oper.wp;simp [execOp,hop,hit,hrun,Result.andThen];exact hK' _ _ (hK i e w' h1 h2 h3 h4)
theorem MapAt.len {w:World} {b:Nat} {es:List (Value × Value)} {t kt et:TypeId} (h:MapAt w b es) (ht:prog.underlying t=some (.map kt et)) (ty:TypeId):(Builtin.len_ #[t] ty #[.map (some b)]).run prog w = .ok (.int .i64 es.length) w:=by
 obtain ⟨arr,clock,h1,h2,_⟩:=h;have hl:es.length=arr.size:=by rw [<- h2];simp
 rw [hl];simp [Builtin.len_,run_underlying ht,MapKept.run_getObj_map h1,Sem.run_bind,goInt]
theorem xdN {ops:Array Oper} {rest:List Oper} {o:Oper} {a:Act} {Q:Exit->Act->World->Prop} {w:World} (hg:o.guard=none) (m:Operand) (t:TypeId) (hop:o.op=Op.call { callee:=Callee.builtin Builtin.len,args:=#[m],argTypes:=#[t] })
  {b:Nat} {es:List (Value × Value)} {kt et:TypeId} (hm:a.eval m = .map (some b)) (h:MapAt w b es) (ht:prog.underlying t=some (.map kt et))
  (hK:wpList prog ops Q rest (a.put o.dst (.int .i64 es.length)) w):wpList prog ops Q (o :: rest) a w:=by
 refine wpList_plain hg fun K hK' => ?_
 have hr:=h.len ht o.type;unfold Oper.wp;simp [execOp,hop,resolve,invoke,builtin,hm,hr,Result.andThen];exact hK' _ _ hK
theorem xbG {ops:Array Oper} {rest:List Oper} {o:Oper} {a:Act} {Q:Exit->Act->World->Prop} {w:World} (hg:o.guard=none) (it:Operand) (hop:o.op=Op.entry it)
  {r b i:Nat} {es:List (Value × Value)} {vis:List Nat} {k v:Value} (hit:a.eval it = .pointer (some ⟨r,0,none⟩)) (h:xby w r b es (vis ++ [i])) (he:es[i]? = some (k,v))
  (hK:wpList prog ops Q rest (a.put o.dst (.tuple #[k,v])) w):wpList prog ops Q (o :: rest) a w:=by
 refine wpList_plain hg fun K hK' => ?_
 have hr:=h.entry_ he;unfold Oper.wp;simp [execOp,hop,hit,hr,Result.andThen];exact hK' _ _ hK
end
section
def PSet (w:World) (x:Value) (r P:Nat):Nat->Prop:=fun k=>w.heap.size<=k/\x.ownBlock≠some k/\k≠P/\k≠r
structure PInv (v:V) (w w':World) (b r P:Nat) (es:List (Value × Value)) (j:Nat->Nat) (vis:List Nat) (ps:List Pr) (x:Value):Prop where
 rng:xby w' r b es vis
 kept:Kept Nope w w'
 cell:Blk w' P 168 #[x]
 row:w'.ownsRow w.heap.size 172 13 x ps.length (ps.flatMap Pr.cells)
 ok:∀ p ∈ ps,p.key.Ok (PSet w x r P) w'/\p.val.Ok (PSet w x r P) w'
 len:ps.length=vis.length
 val:∀ (i q:Nat) (p:Pr),vis[i]? = some q->ps[i]? = some p->∀ k u,v.kids[2*j q]? = some k->v.kids[2*j q+1]? = some u->xao k p.k/\xao u p.x
 bigP:w.heap.size<=P
 bigr:w.heap.size<=r
 lt:b < w.heap.size
namespace PInv
variable {v:V} {w w':World} {b r P:Nat} {es:List (Value × Value)} {j:Nat->Nat} {vis:List Nat} {ps:List Pr} {x:Value}
theorem own_neP (h:PInv v w w' b r P es j vis ps x):x.ownBlock≠some P:=by
  intro e
  rcases h.row.2 with ⟨rfl,_⟩ | ⟨g,cap,cur,rfl,_,hg,_⟩
  . cases e
  . injection e with e
    subst e;have h1:=h.cell;unfold Blk at h1;rw [h1] at hg;injection hg with hg
    injection hg with _ h2
    exact absurd h2 (by decide)
theorem iter (h:PInv v w w' b r P es j vis ps x):∃ m c s e,w'.heap[r]? = some (.mapIter m c s e):=by
 obtain ⟨_,_,_,_,_,_,_,h,_⟩:=h.rng;exact ⟨_,_,_,_,h⟩
theorem own_ner (h:PInv v w w' b r P es j vis ps x):x.ownBlock≠some r:=by
  intro e;obtain ⟨m,c,s,d,hr⟩:=h.iter
  rcases h.row.2 with ⟨rfl,_⟩ | ⟨g,cap,cur,rfl,_,hg,_⟩
  . cases e
  . injection e with e
    subst e;rw [hr] at hg;injection hg with hg
    cases hg
theorem neP (h:PInv v w w' b r P es j vis ps x):P≠r:=by
 intro e;obtain ⟨m,c,s,d,hr⟩:=h.iter;have h1:=h.cell;unfold Blk at h1;rw [e,hr] at h1;injection h1 with h1
 cases h1
theorem own_lt (h:PInv v w w' b r P es j vis ps x):∀ k,x.ownBlock=some k->w.heap.size<=k/\k < w'.heap.size:=h.row.lt
theorem step (h:PInv v w w' b r P es j vis ps x) {i:Nat} {w2 w6 w7:World} {p:Pr} {x':Value} (hR:xby w2 r b es (vis ++ [i])) (hk2:Kept (Only r) w' w2) (h26:Kept Nope w2 w6)
  (hp:p.key.Ok (fun k=>w2.heap.size<=k) w6/\p.val.Ok (fun k=>w2.heap.size<=k) w6) (hv:∀ k u,v.kids[2*j i]? = some k->v.kids[2*j i+1]? = some u->xao k p.k/\xao u p.x)
  (hown:w7.ownsRow w.heap.size 172 13 x' (ps.length+1) (ps.flatMap Pr.cells ++ p.cells)) (hg:w6.grownBy w7 x.ownBlock) (h4:x'.ownBlock=x.ownBlock\/x'.ownBlock=some w6.heap.size) :
  PInv v w (w7.setCell ⟨P,0,none⟩ x') b r P es j (vis ++ [i]) (ps ++ [p]) x':=by
 have hkg:Kept (OwnB x) w6 w7:=xcj hg;have hks:Kept (Only P) w7 (w7.setCell ⟨P,0,none⟩ x'):=(kR _ _).set1 0 x';have hnP:=h.own_neP;have hnr:=h.own_ner;have hPr:=h.neP;have hlt:=h.lt;have hbP:=h.bigP;have hbr:=h.bigr;have hPlt:P < w'.heap.size:=h.cell.lt;have s2:=hk2.size;have s6:=h26.size;have s7:=hkg.size
 have hx'P:x'.ownBlock≠some P:=by
  rcases h4 with e | e
  ·rw [e];exact hnP
  ·rw [e];intro e';injection e' with e';omega
 have hold:∀ a:Lay,a.Ok (PSet w x r P) w'->a.Ok (PSet w x' r P) (w7.setCell ⟨P,0,none⟩ x'):=fun a ha=>by
  have h1:=(ha.keep hk2 (fun k _ hk e=>hk.2.2.2 e)).keep h26 (fun _ _ _ h=>h);have h2:=h1.mono (S':=fun k=>PSet w x r P k/\k < w6.heap.size) fun k hk hS=>⟨hS,hk⟩
  have h3:=h2.keep hkg (fun k _ hk e=>hk.1.2.1 e);refine (h3.keep hks (fun k _ hk e=>hk.1.2.2.1 e)).mono fun k _ hk=>⟨hk.1.1,?_,hk.1.2.2⟩
  rcases h4 with e | e
  ·rw [e];exact hk.1.2.1
  ·rw [e];intro e';injection e' with e';have:=hk.2;omega
 have hnew:∀ a:Lay,a.Ok (fun k=>w2.heap.size<=k) w6->a.Ok (PSet w x' r P) (w7.setCell ⟨P,0,none⟩ x'):=fun a ha=>by
  have h2:=ha.mono (S':=fun k=>w2.heap.size<=k/\k < w6.heap.size) fun k hk hS=>⟨hS,hk⟩
  have hrl:r < w2.heap.size:=hR.lt;have h3:=h2.keep hkg (fun k _ hk e=>by have:=(h.own_lt k e).2;have:=hk.1;omega);refine (h3.keep hks (fun k _ hk e=>by have e':k=P:=e;have:=hk.1;omega)).mono fun k _ hk=>⟨by have:=hk.1;omega,?_,by have:=hk.1;omega,by have:=hk.1;omega⟩
  rcases h4 with e | e
  ·rw [e];intro e';have:=(h.own_lt k e').2;have:=hk.1;omega
  ·rw [e];intro e';injection e' with e';have:=hk.2;omega
 have hownb:∀ k,OwnB x k->w.heap.size<=k:=fun k hk=>(h.own_lt k hk).1
 refine ⟨((hR.keep h26 (fun h=>h) (fun h=>h)).keep hkg (fun e=>by have:=hownb b e;omega) (fun e=>hnr e)).keep hks (fun e=>by have e':b=P:=e;omega) (fun e=>hPr (show r=P from e).symm),?_,?_,?_,?_,by simp [h.len],?_,h.bigP,h.bigr,h.lt⟩
 ·have h1:=(h.kept.trans hk2 fun k hk e=>by have e':k=r:=e;omega).trans' h26;exact (h1.trans hkg fun k hk e=>by have:=hownb k e;omega).trans hks fun k hk e=>by have e':k=P:=e;omega
 ·have h1:=(((h.cell.kept hk2 hPr).kept h26 (fun h=>h)).kept hkg hnP).set_ 0 x'
  simpa using h1
 ·refine xaB ?_ hks (fun k hk e=>hx'P (by have e':k=P:=e;rw [<- e'];exact hk));rw [lA,List.length_singleton,List.flatMap_append,List.flatMap_singleton];exact hown
 ·intro q hq
  rcases List.mem_append.1 hq with hq | hq
  ·exact ⟨hold _ (h.ok q hq).1,hold _ (h.ok q hq).2⟩
  ·rw [List.mem_singleton.1 hq];exact ⟨hnew _ hp.1,hnew _ hp.2⟩
 ·intro t q p0 hq hp0 k u hk hu;rw [List.getElem?_append] at hq hp0;rw [h.len] at hp0
  split at hq
  ·next hlt2 =>
   rw [if_pos hlt2] at hp0;exact h.val t q p0 hq hp0 k u hk hu
  ·next hge =>
   rw [if_neg hge] at hp0
   have ht:t - vis.length=0:=by
    have:=(gi.1 hq).1;simp at this;omega
   rw [ht] at hq hp0;simp at hq hp0;subst hq hp0;exact hv k u hk hu
end PInv
theorem CSl.one_13 {W:World} (p:Pr) {g:Nat} (hg:W.heap.size=g):CSl Any_ (W.alloc (.cells p.cells.toArray 172)) 13 (.slice (some ⟨g,0,none⟩) 1 1) 1 p.cells:=by
 subst hg;refine ⟨rfl,_,1,rfl,Nat.le_refl _,by decide,.inr ⟨W.heap.size,0,rfl,trivial,fun j u hu => ?_⟩⟩;rw [(Blk.new W 172 p.cells.toArray).cell,Nat.zero_add]
 simpa using hu
theorem CSl.two_six {W:World} (a b:Lay) {g:Nat} (hg:W.heap.size=g):CSl Any_ (W.alloc (.cells (a.cells ++ b.cells).toArray 25)) 6 (.slice (some ⟨g,0,none⟩) 2 2) 2 (a.cells ++ b.cells):=by
 subst hg;refine ⟨rfl,_,2,rfl,Nat.le_refl _,by decide,.inr ⟨W.heap.size,0,rfl,trivial,fun j u hu => ?_⟩⟩;rw [(Blk.new W 25 (a.cells ++ b.cells).toArray).cell,Nat.zero_add];rw [gt];exact hu
theorem CSl.ofOwn {w:World} {base:Nat} {e:TypeId} {size n:Nat} {x:Value} {xs:List Value} (h:w.ownsRow base e size x n xs):CSl Any_ w size x n xs:=by
 refine ⟨h.1,?_⟩
 rcases h.2 with ⟨rfl,h0⟩ | ⟨g,cap,cur,rfl,hb,hg,hn,hm,_,_⟩
 ·subst h0;exact ⟨none,0,rfl,Nat.le_refl _,by unfold maxLen;omega,.inl rfl⟩
 ·refine ⟨_,cap,rfl,hn,hm,.inr ⟨g,0,rfl,trivial,fun j u hu => ?_⟩⟩;have:=h.cells (g:=g) rfl j u hu;rw [Addr.add_lit] at this;exact this
theorem info_pair:(prog.info? 172).map (fun i=>(i.zero,i.size,i.bytes))=some (some (.agg #[.string ⟨#[]⟩,.int .i64 0,.int .u64 0,.string ⟨#[]⟩,.slice none 0 0,.int .i64 0,.slice none 0 0,.int .i64 0,.int .u64 0,.string ⟨#[]⟩,.slice none 0 0,.int .i64 0,.slice none 0 0]),13,192):=by kernel_rfl
theorem Row6.push2 {w0 w w':World} {M:Nat->Prop} {x x':Value} {l:List Lay} {a c:Lay} (h:Row6 w0 M w x l) (ha:a.Ok (fun b=>x.ownBlock≠some b/\¬ M b) w) (hc:c.Ok (fun b=>x.ownBlock≠some b/\¬ M b) w) (h2:w'.ownsRow w0.heap.size 25 6 x' (l.length+2) (l.flatMap Lay.cells ++ (a.cells ++ c.cells))) (hg:w.grownBy w' x.ownBlock)
  (h4:x'.ownBlock=x.ownBlock\/x'.ownBlock=some w.heap.size):Row6 w0 M w' x' (l ++ [a,c]):=by
 refine ⟨by simpa using h2,fun q hq => ?_⟩;have hk:Kept (fun b=>x.ownBlock=some b) w w':=xcj hg
 have hok:q.Ok (fun b=>x.ownBlock≠some b/\¬ M b) w:=by
  rcases List.mem_append.1 hq with h1 | h1
  ·exact h.ok q h1
  ·simp only [List.mem_cons,List.mem_nil_iff,or_false] at h1
   rcases h1 with rfl | rfl
   ·exact ha
   ·exact hc
 refine (hok.mono (S':=fun b=>(x.ownBlock≠some b/\¬ M b)/\b < w.heap.size) fun b hb hS=>⟨hS,hb⟩).keep hk (fun b _ hb hm=>hb.1.1 hm) |>.mono fun b _ hb=>⟨?_,hb.1.2⟩
 rcases h4 with e | e
 ·rw [e];exact hb.1.1
 ·rw [e];intro e';have:w.heap.size=b:=by injection e'
  omega
theorem xeh {v:V} {out:List V} {m:Nat} (hk:v.kind=22) (hd:v.desc=[]) (hl:v.kids.length=2*m) (ho:out.length=2*m)
  (H:∀ i,i < m->∀ (u u':V),v.kids[2*i]? = some u->v.kids[2*i+1]? = some u'->∃ r k x,out[2*r]? = some k/\out[2*r+1]? = some x/\Same u k/\xao u' x):xao v (.mk 22 0 ByteArray.empty out 0 []):=by
 have hE:∀ i,∃ q:Nat × V × V,i < m->∀ u u',v.kids[2*i]? = some u->v.kids[2*i+1]? = some u'->out[2*q.1]? = some q.2.1/\out[2*q.1+1]? = some q.2.2/\Same u q.2.1/\xao u' q.2.2:=by
  intro i
  by_cases h:i < m
  ·have h1:v.kids[2*i]? = some (v.kids[2*i]'(by omega)):=ge _;have h2:v.kids[2*i+1]? = some (v.kids[2*i+1]'(by omega)):=ge _;obtain ⟨r,k,x,a,b,c,d⟩:=H i h _ _ h1 h2;exact ⟨(r,k,x),fun _ u u' e1 e2=>by rw [h1] at e1;rw [h2] at e2;cases e1;cases e2;exact ⟨a,b,c,d⟩⟩
  ·exact ⟨(0,v,v),fun h'=>absurd h' h⟩
 obtain ⟨F,hF⟩:=Classical.axiomOfChoice hE;refine .map (fun i=>(F i).1) (fun i=>(F i).2.1) (fun i=>(F i).2.2) hk rfl (by rw [hl];exact ho.symm) hd rfl (fun i u hu hlt => ?_) (fun i u hu => ?_)
 ·have:=hF i (by omega) u _ hu (ge hlt);exact ⟨this.1,this.2.1,this.2.2.1⟩
 ·have hlt:=(gi.1 hu).1;have h1:v.kids[2*i]? = some (v.kids[2*i]'(by omega)):=ge _;exact (hF i (by omega) _ u h1 hu).2.2.2
end
section
theorem xfE (key:ByteArray) (y:Value):∀ (arr:List MapEntry) (i:Nat),(∀ e ∈ arr,∃ t,e.key = .string t)->(∀ e ∈ arr,e.key = .string key->e.val=y)->(∃ e ∈ arr,e.key = .string key)->∃ n,Instr.findNow .string (.string key) arr i=some (some (n,y))
 | [],i,_,_,h=>by obtain ⟨e,he,_⟩:=h;cases he
 | e :: arr,i,h1,h2,h3=>by
  obtain ⟨t,ht⟩:=h1 e (by simp)
  by_cases hk:t=key
  ·subst hk;have hv:=h2 e (by simp) ht;refine ⟨i,?_⟩;simp only [Instr.findNow,ht,Instr.sameNow,(MapKept.bytes_beq t t).2 rfl];rw [hv]
  ·obtain ⟨n,hn⟩:=xfE key y arr (i+1) (fun x hx=>h1 x (by simp [hx])) (fun x hx=>h2 x (by simp [hx])) (by
    obtain ⟨x,hx,hxk⟩:=h3
    rcases List.mem_cons.1 hx with rfl | hx
    ·rw [ht] at hxk;injection hxk with hxk
     exact absurd hxk hk
    ·exact ⟨x,hx,hxk⟩)
   refine ⟨n,?_⟩;simp only [Instr.findNow,ht,Instr.sameNow,xkd (Ne.symm hk)];exact hn
theorem xoU (c:Bool) (t:ByteArray) (W:World):(Instr.checkKey c 10000 9 (.string t)).run prog W = .ok () W:=by cases c <;> kernel_rfl
theorem xnb {w:World} {b i:Nat} {es:List (Value × Value)} (h:MapAt w b es) {t:ByteArray} {y:Value} (hi:es[i]? = some (.string t,y)) (hs:∀ e ∈ es,∃ t,e.1 = .string t) (hu:∀ e ∈ es,e.1 = .string t->e.2=y) :
  (Instr.lookup 84 (.map (some b)) (.string t) false).run prog w = .ok y w:=by
 obtain ⟨arr,clock,hb,he,_⟩:=h;have hm:∀ e ∈ arr.toList,(e.key,e.val) ∈ es:=fun e h=>by rw [<- he];exact List.mem_map.2 ⟨e,h,rfl⟩
 obtain ⟨n,hn⟩:=xfE t y arr.toList 0 (fun e h=>hs _ (hm e h)) (fun e h=>hu _ (hm e h)) (by
  have:=gm hi;rw [<- he] at this;obtain ⟨e,h1,h2⟩:=List.mem_map.1 this;injection h2 with h2 h3
  exact ⟨e,h1,h2⟩)
 have hfk:(Instr.findKey 9 (.string t) arr.toList).run prog w = .ok (some (n,y)) w:=by
  unfold Instr.findKey;simp only [Sem.run_bind,run_underlying underlying9,Result.andThen_ok,hn,Sem.run_pure]
 unfold Instr.lookup;simp only [Sem.run_bind,run_underlying underlying84,Result.andThen_ok,MapKept.run_getObj_map hb,Sem.run_pure,xoU,hfk];simp
theorem CSl.one_str {W:World} (t:ByteArray) {g:Nat} (hg:W.heap.size=g):CSl Any_ (W.alloc (.cells #[.string t] 9)) 1 (.slice (some ⟨g,0,none⟩) 1 1) 1 [.string t]:=by
 subst hg;refine ⟨rfl,_,1,rfl,Nat.le_refl _,by decide,.inr ⟨W.heap.size,0,rfl,trivial,fun j u hu => ?_⟩⟩;rw [(Blk.new W 9 #[.string t]).cell,Nat.zero_add]
 simpa using hu
theorem xls:(prog.info? 9).map (fun i=>(i.zero,i.size,i.bytes))=some (some (.string ⟨#[]⟩),1,16):=by kernel_rfl
def encT (l:List UInt8):Value:=.string ⟨l.toArray⟩
theorem xoe (w:World) (base:Nat) (x:Value) (ts:List (List UInt8)) (hrow:w.ownsRow base 9 1 x ts.length (ts.map encT)) (hn:ts.length<=1000) :
  Calls prog 108 #[x] w fun e w'=>e = .returned (.tuple #[])/\∃ ts':List (List UInt8),ts'.Perm ts/\w'.ownsRow base 9 1 x ts.length (ts'.map encT)/\Kept (fun k=>x.ownBlock=some k) w w':=by
 have hrow0:=hrow
 rcases hrow.2 with ⟨rfl,e0⟩ | ⟨g,cap,cur,rfl,hb,hg,hnc,hm,hsz,hcur⟩
 ·refine (Any.sort_Strings_none Tryz.laysStrings none 0 w).mono ?_;rintro e w' ⟨rfl,rfl⟩;exact ⟨rfl,ts,List.Perm.refl _,hrow0,kR _ _⟩
 ·have hlt:g < w.heap.size:=block_lt hg;rw [Nat.mul_one] at hcur
  have hcl:ts.length<=cur.size:=by
   have h1:=congrArg List.length hcur;rw [List.length_take,lM] at h1;simp at h1;omega
  have hH:Sort.Holds encStr w g 0 ts.toArray:=by
   intro j hj;rw [List.size_toArray] at hj;rw [Nat.zero_add];constructor
   ·rw [cell_of_row w g j cur _ (0,0) hg,getElem!_pos _ j (by rw [List.size_toArray];exact hj)];have h1:(cur.toList.take ts.length)[j]? = (ts.map encT)[j]? := by rw [hcur]
    rw [List.getElem?_take,if_pos hj,gM,ge hj] at h1
    simpa [encT] using h1
   ·simp [World.frozen?,hg]
  refine (Any.sort_Strings Tryz.laysStrings g 0 cap ts w hH hlt (by omega)).mono ?_;rintro e w' ⟨rfl,n,os,rfl⟩;have hp:(ts.mergeSort fun x y=>decide (x<=y)).Perm ts:=List.mergeSort_perm _ _;generalize ts.mergeSort (fun x y=>decide (x<=y))=ts' at hp;have hl:=hp.length_eq;refine ⟨rfl,ts',hp,⟨by rw [lM,hl,Nat.mul_one],.inr ⟨g,cap,Sort.putCells encStr 0 ts'.toArray cur,rfl,hb,?_,hnc,hm,by simpa [Sort.putCells] using hsz,?_⟩⟩,rfl,rfl,rfl,by simp [Sort.grow,Sort.putRow,Sort.mapBlock],fun k hk hne => ?_⟩
  ·rw [Sort.heap_grow_old _ _ (by simpa [Sort.putRow,Sort.mapBlock] using hlt)];simp [Sort.putRow,Sort.mapBlock,Array.getElem?_modify,hg,Sort.onCells]
  ·apply List.ext_getElem?;intro j;rw [Nat.mul_one,List.getElem?_take]
   by_cases hj:j < ts.length
   ·rw [if_pos hj,Array.getElem?_toList,Sort.putCells,Array.getElem?_mapIdx,Array.getElem?_eq_getElem (by omega)];simp only [Option.map_some];rw [if_pos ⟨Nat.zero_le _,by rw [List.size_toArray];omega⟩,Nat.sub_zero,getElem!_pos _ j (by rw [List.size_toArray];omega),gM,ge (by omega)];simp [encT]
   ·rw [if_neg hj,List.getElem?_eq_none (by rw [lM];omega)]
  ·have hne':g≠k:=fun e=>hne (by rw [<- e];rfl)
   rw [Sort.heap_grow_old _ _ (by simpa [Sort.putRow,Sort.mapBlock] using hk)];simp [Sort.putRow,Sort.mapBlock,Array.getElem?_modify,hne']
structure xnG (w w':World) (b r:Nat) (es:List (Value × Value)) (vis:List Nat) (ts:List (List UInt8)) (x:Value):Prop where
 rng:xby w' r b es vis
 kept:Kept Nope w w'
 row:w'.ownsRow w.heap.size 9 1 x ts.length (ts.map encT)
 len:ts.length=vis.length
 val:∀ (i q:Nat) (t:List UInt8),vis[i]? = some q->ts[i]? = some t->∃ y,es[q]? = some (encT t,y)
 bigr:w.heap.size<=r
 lt:b < w.heap.size
namespace xnG
variable {w w':World} {b r:Nat} {es:List (Value × Value)} {vis:List Nat} {ts:List (List UInt8)} {x:Value}
theorem own_ner (h:xnG w w' b r es vis ts x):x.ownBlock≠some r:=by
  intro e;obtain ⟨_,_,_,_,_,_,_,hr,_⟩:=h.rng
  rcases h.row.2 with ⟨rfl,_⟩ | ⟨g,cap,cur,rfl,_,hg,_⟩
  . cases e
  . injection e with e
    subst e;rw [hr] at hg;injection hg with hg
    cases hg
theorem step (h:xnG w w' b r es vis ts x) {i:Nat} {w2 w6 w7:World} {t:List UInt8} {y x':Value} (hR:xby w2 r b es (vis ++ [i])) (he:es[i]? = some (encT t,y)) (hk2:Kept (Only r) w' w2) (h26:Kept Nope w2 w6)
  (hown:w7.ownsRow w.heap.size 9 1 x' (ts.length+1) (ts.map encT ++ [encT t])) (hg:w6.grownBy w7 x.ownBlock):xnG w w7 b r es (vis ++ [i]) (ts ++ [t]) x':=by
 have hkg:Kept (OwnB x) w6 w7:=xcj hg;have hnr:=h.own_ner;have hlt:=h.lt;have hbr:=h.bigr;have hownb:∀ k,OwnB x k->w.heap.size<=k:=fun k hk=>(h.row.lt k hk).1
 refine ⟨(hR.keep h26 (fun h=>h) (fun h=>h)).keep hkg (fun e=>by have:=hownb b e;omega) (fun e=>hnr e),?_,?_,by simp [h.len],?_,h.bigr,h.lt⟩
 ·have h1:=(h.kept.trans hk2 fun k hk e=>by have e':k=r:=e;omega).trans' h26;exact h1.trans hkg fun k hk e=>by have:=hownb k e;omega
 ·rw [lA,List.length_singleton,List.map_append,List.map_singleton];exact hown
 ·intro q z t0 hq ht0;rw [List.getElem?_append] at hq ht0;rw [h.len] at ht0
  split at hq
  ·next hlt2 =>
   rw [if_pos hlt2] at ht0;exact h.val q z t0 hq ht0
  ·next hge =>
   rw [if_neg hge] at ht0
   have h0:q - vis.length=0:=by
    have:=(gi.1 hq).1;simp at this;omega
   rw [h0] at hq ht0;simp at hq ht0;subst hq ht0;exact ⟨y,he⟩
end xnG
end
end Go.Proofs.YtmdpodeegdjkeaaGreatDoor
