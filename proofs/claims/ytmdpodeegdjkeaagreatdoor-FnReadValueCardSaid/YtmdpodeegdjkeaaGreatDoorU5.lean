/- Part 5 of the proof of the readers and the guards. No conditions. -/
import Derived.Lib.ValidLaws
import Derived.LoopTactic
import Derived.IntWalk
import Derived.Outline
import Derived.Shelf.SlSortFuncK.WholeK
import Derived.Shelf.GgSortFunc.Tiny
import Derived.Sort.Walk0
import Derived.Ground.GgsProg
import Derived.Test.YtmdpodeegdjkeaaGreatDoorProg
import Derived.Test.YtmdpodeegdjkeaaGreatDoorU0
import Derived.Test.YtmdpodeegdjkeaaGreatDoorU1
import Derived.Test.YtmdpodeegdjkeaaGreatDoorU3
import Derived.Test.YtmdpodeegdjkeaaGreatDoorU4
set_option maxRecDepth 100000
set_option maxHeartbeats 3200000
namespace Go.Proofs.YtmdpodeegdjkeaaGreatDoor
open Go Go.RowKit Go.Lib Tryz
theorem xbl {P:Program} {ops:Array Oper} {rest:List Oper} {o:Oper} {a:Act} {w:World} {Q:Exit->Act->World->Prop} (hgd:o.guard=none) (ty:TypeId) (x y:Operand) (ho:o.op = .store ty x y)
  (g:Nat) (cells:Array Value) (hx:a.eval x = .pointer (some ⟨g,0,none⟩)) (hy:a.eval y = .agg cells)
  (t:TypeId) (old:Array Value) (hg:Blk w g t old) (hi:(P.info? ty).map (·.size)=some cells.size)
  (hold:old.size=cells.size) (h1:cells.all (·.oneCell')=true)
  (h:∀ W,Blk W g t cells->Kept (Only g) w W->wpList P ops Q rest (a.put o.dst undef) W):wpList P ops Q (o :: rest) a w :=
 wpList_store_row hgd ty x y ho g cells hx hy t old hg hi hold h1 (h _ (Blk.setRow_ hg cells) ⟨rfl,rfl,rfl,by simp [World.setRow],fun k _ hk=>setRow_other w g k cells hk⟩)
theorem xmH (bs:List UInt8) (w:World) (hl:bs.length=16):Calls prog 33 #[.iface 112 (uid bs)] w (Vd w (xow 17 ⟨bs.toArray⟩)):=by
 unfold uid;have f_bool:=fun W=>xad (T:=112) (.agg (bs.map u8).toArray) W (by decide)
 have f_u8:=fun W=>xas (T:=112) (.agg (bs.map u8).toArray) W (by decide)
 have f_u16:=fun W=>xam (T:=112) (.agg (bs.map u8).toArray) W (by decide)
 have f_u32:=fun W=>xal (T:=112) (.agg (bs.map u8).toArray) W (by decide)
 have f_u64:=fun W=>xak (T:=112) (.agg (bs.map u8).toArray) W (by decide)
 have f_i8:=fun W=>xaF (T:=112) (.agg (bs.map u8).toArray) W (by decide)
 have f_i16:=fun W=>xav (T:=112) (.agg (bs.map u8).toArray) W (by decide)
 have f_i32:=fun W=>xaC (T:=112) (.agg (bs.map u8).toArray) W (by decide)
 have f_i64:=fun W=>xaH (T:=112) (.agg (bs.map u8).toArray) W (by decide)
 have f_f32:=fun W=>xaO (T:=112) (.agg (bs.map u8).toArray) W (by decide)
 have f_f64:=fun W=>xaQ (T:=112) (.agg (bs.map u8).toArray) W (by decide)
 have f_Time:=fun W=>xaJ (T:=112) (.agg (bs.map u8).toArray) W (by decide)
 have fy:=fun W=>xnv (.agg (bs.map u8).toArray) W
 have hz:(w.alloc (.cells zVal 25)).heap.size=w.heap.size+1:=by simp
 have HZ:=hid hz;have HL:=hid hl;have hu2:(prog.info? 112).map (fun i=>i.size)=some 16:=by kernel_rfl
 have HU:=hid hu2;have hb0:Blk ((w.alloc (.cells zVal 25)).alloc (.cells z16 112)) (w.heap.size+1) 112 z16:=hz ▸ Blk.new (w.alloc (.cells zVal 25)) 112 z16;have HB0:=hid (aI hb0 ((Blk.new w 25 zVal).alloc (.cells z16 112)));clear hz hl hu2 hb0;go_enter func33,ntmps33;go_wp2_with (refine xbl rfl 112 (.tmp 17) (.tmp 129) rfl (w.heap.size+1) (bs.map u8).toArray rfl rfl 112 z16 (by exact HB0.out.1) (by rw [HU.out,List.size_toArray,lM,HL.out]) (by show 16=_;rw [List.size_toArray,lM,HL.out]) (by exact xpx _) ?_;intro W hW hK;have hV:=HB0.out.2.kept hK (fun e=>by have e':w.heap.size=w.heap.size+1:=e;omega);have c0:=hV.cell 0;have c1:=hV.cell 1;have c2:=hV.cell 2;have c3:=hV.cell 3;have c4:=hV.cell 4;have c5:=hV.cell 5;have f0:=hV.frozen 0;have f1:=hV.frozen 1;have f2:=hV.frozen 2;have f3:=hV.frozen 3;have f4:=hV.frozen 4;have f5:=hV.frozen 5;simp only [zVal,gt,gz,gs] at c0 c1 c2 c3 c4 c5;have hB:BSl (fun _=>True) W (.slice (some ⟨w.heap.size+1,0,none⟩) 16 16) bs:=⟨_,16,(by rw [HL.out]),(by rw [HL.out];omega),(by decide),.inr ⟨_,0,rfl,trivial,fun j x hx=>(by rw [Nat.zero_add,hW.cell j];simp [hx])⟩⟩;have hcv:=xbe 26 9 5 underlying26 underlying5 underlying9 hB;have H1:=hid (aI hV hK);clear hV hK hB hW)
 (try simp only [Exit.inBlock,Exit.then])
 have hB2:=(((((H1.out.1.set_ 0 (.int .i64 17)).set_ 1 (.int .u64 0)).set_ 2 (.string ⟨bs.toArray⟩)).set_ 3 (.slice none 0 0)).set_ 4 (.int .i64 0)).set_ 5 (.slice none 0 0);have hld:=run_loadVar_row (P:=prog) _ w.heap.size 25 25 _ _ _ hB2 underlying25 rfl (by kernel_rfl);refine bodyPost_ret (v:=.tuple #[xow 17 ⟨bs.toArray⟩,.bool true]) ?_ rfl ⟨rfl,?_⟩
 ·rw [results_cell_tmp rfl];simp only [Array.getD_eq_getD_getElem?,gt,gz,gs,Option.getD_some,asAddr,Sem.run_pure,Result.andThen_ok];rw [hld]
  rfl
 ·have hk0:Kept Nope w W:=((((kR Nope w).alloc (.cells zVal 25)).alloc (.cells z16 112)).trans (M':=Only (w.heap.size+1)) H1.out.2 fun k hk e=>by have e':k=w.heap.size+1:=e;omega);exact (((((hk0.setCell (p:=⟨w.heap.size,0,none⟩) (.inr (Nat.le_refl _)) _).setCell (p:=⟨w.heap.size,1,none⟩) (.inr (Nat.le_refl _)) _).setCell (p:=⟨w.heap.size,2,none⟩) (.inr (Nat.le_refl _)) _).setCell (p:=⟨w.heap.size,3,none⟩) (.inr (Nat.le_refl _)) _).setCell (p:=⟨w.heap.size,4,none⟩) (.inr (Nat.le_refl _)) _).setCell (p:=⟨w.heap.size,5,none⟩) (.inr (Nat.le_refl _)) _
structure Lay where
 v:V
 ks:Value
 ds:Value
def Lay.cells (a:Lay):List Value:=[.int .i64 a.v.kind,.int .u64 a.v.num,.string a.v.text,a.ks,.int .i64 a.v.of_,a.ds]
def Lay.Ok (S:Nat->Prop) (w:World) (a:Lay):Prop:=VNum a.v/\VSl S w a.ks a.v.kids/\VSl S w a.ds a.v.desc
theorem Lay.Ok.keep {S M:Nat->Prop} {w w':World} {a:Lay} (h:a.Ok S w) (hk:Kept M w w') (hS:∀ b,b < w.heap.size->S b->¬ M b):a.Ok S w':=⟨h.1,h.2.1.keep hk hS,h.2.2.keep hk hS⟩
theorem Lay.Ok.mono {S S':Nat->Prop} {w:World} {a:Lay} (h:a.Ok S w) (hS:∀ b,b < w.heap.size->S b->S' b):a.Ok S' w:=⟨h.1,h.2.1.mono hS,h.2.2.mono hS⟩
theorem xdt {l:List Lay} {k:Nat} {a:Lay} (h:l[k]? = some a) (m:Nat) (hm:m < 6):(l.flatMap Lay.cells)[k*6+m]? = a.cells[m]? := by
 induction l generalizing k with
 | nil=>simp at h
 | cons b l ih =>
  cases k with
  | zero =>
   simp at h;subst h;rw [List.flatMap_cons,List.getElem?_append_left (by simp [Lay.cells];omega)];simp
  | succ k =>
   rw [List.flatMap_cons,List.getElem?_append_right (by simp [Lay.cells];omega)];have:(k+1)*6+m - b.cells.length=k*6+m:=by simp [Lay.cells];omega
   rw [this];exact ih (by simpa using h)
theorem VSl.ofOwn {S:Nat->Prop} {w:World} {base:Nat} {e:TypeId} {x:Value} {l:List Lay} (h:w.ownsRow base e 6 x l.length (l.flatMap Lay.cells)) (hS:∀ b,x.ownBlock=some b->S b) (hok:∀ a ∈ l,a.Ok S w):VSl S w x (l.map Lay.v):=by
  rcases h.2 with ⟨rfl,h0⟩ | ⟨g,cap,cur,rfl,hb,hg,hn,hm,hsz,hcur⟩
  . have:l=[]:=List.eq_nil_of_length_eq_zero h0
    subst this;exact .nil _ _ (by simp [maxLen])
  . rcases Nat.eq_zero_or_pos l.length with h0 | h0
    . have:l=[]:=List.eq_nil_of_length_eq_zero h0
      subst this;exact .nil _ _ hm
    . have hcell:∀ j u,(l.flatMap Lay.cells)[j]? = some u->w.cell? ⟨g,j,none⟩=some u:=fun j u hu=>by
        rw [cell_of_row w g j cur e (0,0) hg];rw [<- hcur,List.getElem?_take] at hu
        split at hu
        . simpa using hu
        . cases hu
      have:=VSl.mk (S:=S) (w:=w) g 0 cap (l.map Lay.v) (fun i=>(l[i]?.map Lay.ks).getD undef) (fun i=>(l[i]?.map Lay.ds).getD undef) (hS g rfl) (by simpa using h0) (by simpa using hn) hm (fun i v hv => ?_) (fun i v hv => ?_) (fun i v hv => ?_)
      . simpa using this
      . rw [gM] at hv
        obtain ⟨a,ha,rfl⟩:=Option.map_eq_some_iff.1 hv
        have f:∀ m,m < 6->∀ u,a.cells[m]? = some u->w.cell? ⟨g,0+i*6+m,none⟩=some u:=fun m hm u hu=>by
          rw [Nat.zero_add];exact hcell _ _ (by rw [xdt ha m hm];exact hu)
        refine ⟨(hok a (gm ha)).1,f 0 (by omega) _ rfl,f 1 (by omega) _ rfl,f 2 (by omega) _ rfl,?_,f 4 (by omega) _ rfl,?_⟩
        . rw [ha];exact f 3 (by omega) _ rfl
        . rw [ha];exact f 5 (by omega) _ rfl
      . rw [gM] at hv
        obtain ⟨a,ha,rfl⟩:=Option.map_eq_some_iff.1 hv;rw [ha];exact (hok a (gm ha)).2.1
      . rw [gM] at hv
        obtain ⟨a,ha,rfl⟩:=Option.map_eq_some_iff.1 hv;rw [ha];exact (hok a (gm ha)).2.2
end Go.Proofs.YtmdpodeegdjkeaaGreatDoor
section
namespace Go.Proofs.YtmdpodeegdjkeaaGreatDoor
structure Tidy (v:V):Prop where
 pos:0<=v.num/\v.num < 18446744073709551616
 flag:v.kind=1->v.num<=1
 n1:v.kind=2->v.num < 256
 n2:v.kind=3->v.num < 65536
 n4:v.kind=4\/v.kind=10->v.num < 4294967296
 s1:v.kind=6->v.num < 128\/18446744073709551488<=v.num
 s2:v.kind=7->v.num < 32768\/18446744073709518848<=v.num
 s4:v.kind=8->v.num < 2147483648\/18446744071562067968<=v.num
 zero:v.kind=0\/17<=v.kind->v.num=0
 empty:v.kind < 17\/20 < v.kind->v.text=ByteArray.empty
 uuid:v.kind=17->v.text.size=16
 size:v.text.size<=131072
 few:v.kids.length<=1000
 leaf:v.kind < 21->v.kids=[]
 kind:(0<=v.kind/\v.kind<=11)\/(16<=v.kind/\v.kind<=23)
inductive Good:V->Prop
 | mk {v:V}:Tidy v->v.desc=[]->(∀ k ∈ v.kids,Good k) ->
   (v.kind=22->v.kids.length % 2=0/\(∀ (i:Nat) (k:V),v.kids[2*i]? = some k->xce k.kind)/\∀ (i j:Nat) (k k':V),i < j->v.kids[2*i]? = some k->v.kids[2*j]? = some k'->¬ Same (asRead k) (asRead k')) ->
   (v.kind=23->∃ k0,v.kids[0]? = some k0/\xaK k0.kind/\k0.kind≠20/\(∀ k ∈ v.kids,k.kind=k0.kind)/\(18<=k0.kind->∀ k ∈ v.kids,k.text.size≠0) /\
    (k0.kind=8\/k0.kind=9->(∀ k ∈ v.kids,k.num < 9223372036854775808\/18446744073709551488<=k.num)\/∃ k ∈ v.kids,128<=k.num/\k.num < 9223372036854775808) /\
    (k0.kind=16->∀ k ∈ v.kids,k.num<=9200000000000\/18446744073709551616 - 9200000000000<=k.num))->Good v
namespace Good
variable {v:V}
theorem tidy (h:Good v):Tidy v:=by cases h;assumption
theorem desc (h:Good v):v.desc=[]:=by cases h;assumption
theorem kid (h:Good v) {k:V} (hk:k ∈ v.kids):Good k:=by cases h with | mk _ _ h _ _=>exact h k hk
end Good
theorem Same.of_fields {a b:V} (h0:a.kind=b.kind) (h1:a.num=b.num) (h2:a.text=b.text) (ka:a.kids=[]) (kb:b.kids=[]) (da:a.desc=[]) (db:b.desc=[]):Same a b :=
 .mk h0 h1 h2 (by rw [ka,kb]) (by rw [da,db]) (fun i x y hx=>by rw [ka] at hx;simp at hx) (fun x y hx=>by rw [da] at hx;simp at hx)
end Go.Proofs.YtmdpodeegdjkeaaGreatDoor
end
section
namespace Go.Proofs.YtmdpodeegdjkeaaGreatDoor
structure xeQ (v:V):Prop where
 flag:v.kind=1->v.num<=1
 n1:v.kind=2->v.num < 256
 n2:v.kind=3->v.num < 65536
 n4:v.kind=4\/v.kind=10->v.num < 4294967296
 s1:v.kind=6->v.num < 128\/18446744073709551488<=v.num
 s2:v.kind=7->v.num < 32768\/18446744073709518848<=v.num
 s4:v.kind=8->v.num < 2147483648\/18446744071562067968<=v.num
 wide:v.kind=14\/v.kind=17->v.text.size=16
 utf:v.kind=19->Go.Lib.validD (bytesOf v.text)=true
 ascii:v.kind=20->∀ b ∈ bytesOf v.text,b.toNat < 128
 even:v.kind=22->v.kids.length % 2=0
 arr:v.kind=23->(v.kids=[]->0<=v.of_/\v.of_ < 24)/\∀ k0,v.kids[0]? = some k0->∀ k ∈ v.kids,k.kind=k0.kind/\k.desc.length=k0.desc.length
structure Own (v:V):Prop where
 kind:0<=v.kind/\v.kind < 24
 leaf:v.kind=21\/v.kind=22\/v.kind=23\/v.kids=[]
 text:(17<=v.kind/\v.kind<=20)\/v.kind=14\/v.text.size=0
 num:(1<=v.kind/\v.kind<=16/\v.kind≠14)\/v.num=0
 desc:v.desc.length<=1
 few:v.kids.length<=1000
 size:v.text.size<=131072
 dkind:∀ d ∈ v.desc,(d.kind=5\/d.kind=20)/\d.desc=[]
inductive Fits:V->Prop
 | mk {v:V}:Own v->xeQ v->(∀ k ∈ v.kids,Fits k)->(∀ k ∈ v.desc,Fits k)->Fits v
namespace Fits
variable {v:V}
theorem own (h:Fits v):Own v:=by cases h;assumption
theorem content (h:Fits v):xeQ v:=by cases h;assumption
theorem kid (h:Fits v) {k:V} (hk:k ∈ v.kids):Fits k:=by cases h with | mk _ _ h _=>exact h k hk
theorem descr (h:Fits v) {k:V} (hk:k ∈ v.desc):Fits k:=by cases h with | mk _ _ _ h=>exact h k hk
end Fits
structure Asked (l:List V):Prop where
 text:∀ k ∈ l,18<=k.kind->k.kind<=20->k.text.size≠0
 time:∀ k ∈ l,k.kind=16->k.num<=9200000000000\/18446744073709551616 - 9200000000000<=k.num
 high:(∀ k ∈ l,k.kind=8\/k.kind=9->k.num < 9223372036854775808\/18446744073709551488<=k.num)\/∃ k ∈ l,(k.kind=8\/k.kind=9)/\128<=k.num/\k.num < 9223372036854775808
inductive Say:V->Prop
 | arr {v k0:V}:v.desc=[]->v.kind=23->v.kids[0]? = some k0->xaK k0.kind->k0.desc=[]->Asked v.kids->Say v
 | mk {v:V}:v.desc=[]->(v.kind < 12\/15 < v.kind)->v.kind≠23->(∀ k ∈ v.kids,Say k) ->
   (v.kind=22->∀ (i:Nat) (k:V),v.kids[2*i]? = some k->xce k.kind/\∀ (j:Nat) (k':V),j < i->v.kids[2*j]? = some k'->¬ Same (asRead k') (asRead k))->Say v
inductive xip:V->Prop
 | mk {v:V}:(∀ k0,v.kind=23->v.kids[0]? = some k0->k0.kind≠20)->(∀ k ∈ v.kids,xip k)->xip v
theorem xmL {v:V} (hn:0<=v.num/\v.num<=18446744073709551615) (h:Own v) (c:xeQ v) (hk:v.kind < 12\/15 < v.kind):Tidy v where
 pos:=⟨hn.1,by omega⟩
 flag:=c.flag
 n1:=c.n1
 n2:=c.n2
 n4:=c.n4
 s1:=c.s1
 s2:=c.s2
 s4:=c.s4
 zero hz:=by have:=h.num;omega
 empty he:=by
  have h1:v.text.size=0:=by have:=h.text;omega
  obtain ⟨⟨l⟩⟩:∃ x,v.text=x:=⟨_,rfl⟩
  exact ByteArray.size_eq_zero_iff.1 h1
 uuid h17:=c.wide (.inr h17)
 size:=h.size
 few:=h.few
 leaf hl:=by
  rcases h.leaf with h1 | h1 | h1 | h1
  ·omega
  ·omega
  ·omega
  ·exact h1
 kind:=by have:=h.kind;omega
def VNum0 (v:V):Prop:=0<=v.num/\v.num<=18446744073709551615
inductive Nums:V->Prop
 | mk {v:V}:VNum0 v->(∀ k ∈ v.kids,Nums k)->(∀ k ∈ v.desc,Nums k)->Nums v
theorem xpY {k:V} (hf:Fits k) (hn:0<=k.num/\k.num<=18446744073709551615) (ha:xaK k.kind) (hd:k.desc=[]):Good k:=by
 have ha':=ha;unfold xaK at ha'
 have hl:k.kids=[]:=by
  rcases hf.own.leaf with h1 | h1 | h1 | h1
  ·omega
  ·omega
  ·omega
  ·exact h1
 refine .mk (xmL hn hf.own hf.content (by omega)) hd (fun x hx=>by rw [hl] at hx;cases hx) (fun h=>by omega) (fun h=>by omega)
theorem good_of:∀ (n:Nat) (v:V),SizeOf.sizeOf v<=n->Nums v->Fits v->Say v->xip v->Good v:=by
  intro n
  induction n using Nat.strongRecOn with
  | _ n ih =>
    intro v hv hN hf hs hy;have hn:VNum0 v:=by cases hN;assumption
    have hNk:∀ k ∈ v.kids,Nums k:=by cases hN;assumption
    have hyk:∀ k ∈ v.kids,xip k:=by cases hy;assumption
    cases hs with
    | @arr _ k0 hd h23 h0 hak hd0 hA =>
      have hm0:=List.mem_of_getElem? h0;have hall:=(hf.content.arr h23).2 k0 h0
      have hgk:∀ k ∈ v.kids,Good k:=fun k hk=>by
        have hkn:VNum0 k:=by have:=hNk k hk;cases this;assumption
        refine xpY (hf.kid hk) hkn (by rw [(hall k hk).1];exact hak) ?_;have:=(hall k hk).2;rw [hd0] at this;exact List.eq_nil_of_length_eq_zero this
      refine .mk (xmL hn hf.own hf.content (by omega)) hd hgk (fun h=>by omega) (fun _=>⟨k0,h0,hak,?_,fun k hk=>(hall k hk).1,fun h18 k hk => ?_,fun h89 => ?_,fun h16 k hk => ?_⟩)
      . cases hy with
        | mk h1 _=>exact h1 k0 h23 h0
      . have h1:=(hall k hk).1
        unfold xaK at hak;exact hA.text k hk (by omega) (by omega)
      . rcases hA.high with h1 | ⟨k,hk,_,h1⟩
        . exact .inl fun k hk=>h1 k hk (by have:=(hall k hk).1;omega)
        . exact .inr ⟨k,hk,h1⟩
      . exact hA.time k hk (by have:=(hall k hk).1;omega)
    | mk hd hk h23 hkids hmap =>
      refine .mk (xmL hn hf.own hf.content hk) hd (fun k hk' => ?_) (fun h22=>⟨hf.content.even h22,fun i k hi=>(hmap h22 i k hi).1,fun i j k k' hij hi hj=>(hmap h22 j k' hj).2 i k hij hi⟩) (fun h=>absurd h h23);have:=V.sizeOf_kid hk';exact ih (SizeOf.sizeOf k) (by omega) k (Nat.le_refl _) (hNk k hk') (hf.kid hk') (hkids k hk') (hyk k hk')
inductive Utf:V->Prop
 | mk {v:V}:(v.kind=19->Go.Lib.validD (bytesOf v.text)=true)->(∀ k ∈ v.kids,Utf k)->Utf v
theorem xfu:∀ (l:List UInt8),(∀ b ∈ l,b.toNat < 128)->Go.Lib.validD l=true
 | [],_=>rfl
 | b :: t,h=>by rw [Go.Lib.validD_cons b t (h b (by simp))];exact xfu t fun c hc=>h c (by simp [hc])
theorem utf_of:∀ (n:Nat) (v:V),SizeOf.sizeOf v<=n->Fits v->Utf v/\Utf (asRead v):=by
 intro n
 induction n using Nat.strongRecOn with
 | _ n ih =>
  intro v hv hf;have hk:∀ k ∈ v.kids,Utf k/\Utf (asRead k):=fun k hk=>ih (SizeOf.sizeOf k) (by have:=V.sizeOf_kid hk;omega) k (Nat.le_refl _) (hf.kid hk)
  refine ⟨.mk hf.content.utf fun k h=>(hk k h).1,?_⟩;rw [xbj];refine .mk (fun h => ?_) fun k h => ?_
  ·simp only [V.kind_mk,V.text_mk] at h ⊢
   split at h
   ·next h20=>exact xfu _ (hf.content.ascii h20)
   ·exact hf.content.utf h
  ·simp only [V.kids_mk] at h
   split at h
   ·exact (hk k h).1
   ·obtain ⟨x,hx,rfl⟩:=List.mem_map.1 h;exact (hk x hx).2
end Go.Proofs.YtmdpodeegdjkeaaGreatDoor
end
namespace Go.Proofs.YtmdpodeegdjkeaaGreatDoor
open Go Go.RowKit Go.Lib Tryz
def Any_:Nat->Prop:=fun _=>True
def AskB (P:Prop) (w:World):Ending->World->Prop:=fun e w'=>((e = .returned (.bool true)/\P)\/(e = .returned (.bool false)/\¬ P))/\Kept Nope w w'
def AskT (P:Prop) (w:World):Ending->World->Prop:=fun e w'=>((e = .returned (.bool true)/\P)\/e = .returned (.bool false))/\Kept Nope w w'
def AskF (P:Prop) (w:World):Ending->World->Prop:=fun e w'=>(e = .returned (.bool true)\/(e = .returned (.bool false)/\P))/\Kept Nope w w'
def xps (v:V) (ks ds:Value):Array Value:=#[.int .i64 v.kind,.int .u64 v.num,.string v.text,ks,.int .i64 v.of_,ds]
theorem xeg {k k' n n' o o':Int} {t t':ByteArray} {l l' d d':List V} :
  Same (.mk k n t l o d) (.mk k' n' t' l' o' d') ↔ (k=k'/\n=n'/\t=t'/\l.length=l'.length/\d.length=d'.length/\(∀ (i:Nat) (x y:V),l[i]? = some x->l'[i]? = some y->Same x y)/\(∀ (x y:V),d[0]? = some x->d'[0]? = some y->Same x y)):=by
 constructor
 ·rintro ⟨h0,h1,h2,h3,h4,h5,h6⟩;exact ⟨h0,h1,h2,h3,h4,h5,h6⟩
 ·rintro ⟨h0,h1,h2,h3,h4,h5,h6⟩;exact .mk h0 h1 h2 h3 h4 h5 h6
theorem VSl.six {S : Nat → Prop} {w : World} {s : Value} {l : List V} (h : VSl S w s l) {i : Nat} {v : V} (hv : l[i]? = some v) : ∃ b off cap ks ds, s = .slice (some ⟨b, off, none⟩) l.length cap ∧ l.length ≤ cap ∧ cap ≤ maxLen ∧ VAgg S w (vagg v ks ds) v ∧
      w.cell? ⟨b, off + i * 6, none⟩ = some (.int .i64 v.kind) ∧ w.cell? ⟨b, off + i * 6 + 1, none⟩ = some (.int .u64 v.num) ∧
        w.cell? ⟨b, off + i * 6 + 2, none⟩ = some (.string v.text) ∧ w.cell? ⟨b, off + i * 6 + 3, none⟩ = some ks ∧
        w.cell? ⟨b, off + i * 6 + 4, none⟩ = some (.int .i64 v.of_) ∧ w.cell? ⟨b, off + i * 6 + 5, none⟩ = some ds := by
  obtain ⟨b, off, cap, ks, ds, e, _, h1, h2, h3, c0, c1, c2, c3, c4, c5, k0, k1⟩ := h.at_ hv;exact ⟨b, off, cap, ks, ds, e, h1, h2, ⟨ks, ds, rfl, h3, k0, k1⟩, c0, c1, c2, c3, c4, c5⟩
theorem text_ne {t t':ByteArray} (h:¬ t=t'):¬ t.toList=t'.toList:=by
 intro e;rw [ByteArray.toList_eq,ByteArray.toList_eq] at e;exact h (by obtain ⟨a⟩:=t;obtain ⟨b⟩:=t';exact congrArg ByteArray.mk (Array.toList_inj.1 e))
theorem VAgg.drew {S:Nat->Prop} {w:World} {x:Value} {v:V} (h:VAgg S w x v):VAgg S w.drew x v:=h.keep ((kR Nope w).drew) fun _ _ _ h=>h
theorem Blk.two (w:World) (A B:Array Value) (t:TypeId):Blk ((w.alloc (.cells A t)).alloc (.cells B t)) w.heap.size t A/\Blk ((w.alloc (.cells A t)).alloc (.cells B t)) (w.heap.size+1) t B/\Kept Nope w ((w.alloc (.cells A t)).alloc (.cells B t)):=by
 have h:=Blk.new (w.alloc (.cells A t)) t B;rw [World.size_alloc] at h;exact ⟨(Blk.new w t A).alloc _,h,((kR _ _).alloc _).alloc _⟩
theorem Blk.one (w:World) (A:Array Value) (t:TypeId):Blk (w.alloc (.cells A t)) w.heap.size t A/\Kept Nope w (w.alloc (.cells A t)):=⟨Blk.new w t A,(kR _ _).alloc _⟩
theorem SameValue_step (a b:V) (w:World) (xa xb:Value) (ha:VAgg Any_ w xa a) (hb:VAgg Any_ w xb b)
  (ih:∀ k,k ∈ a.kids\/k ∈ a.desc->∀ (u:V) (W:World) (x y:Value),VAgg Any_ W x k->VAgg Any_ W y u->Calls prog 15 #[x,y] W (AskB (Same k u) W)) :
  Calls prog 15 #[xa,xb] w (AskB (Same a b) w):=by
 obtain ⟨ka,da,rfl,hna,hka,hda⟩:=ha;obtain ⟨kb,db,rfl,hnb,hkb,hdb⟩:=hb;obtain ⟨k,n,t,l,o,d⟩:=a;obtain ⟨k',n',t',l',o',d'⟩:=b;simp only [V.kids_mk,V.desc_mk] at hka hkb hda hdb ih;unfold vagg;simp only [V.kind_mk,V.num_mk,V.text_mk,V.of_mk];have HKA:=hid (aI hka (aI hkb (aI hda hdb)));have HI:=hid ih;obtain ⟨p1,c1,rfl,q1,m1⟩:=hka.form;obtain ⟨p2,c2,rfl,q2,m2⟩:=hkb.form;obtain ⟨p3,c3,rfl,q3,m3⟩:=hda.form;obtain ⟨p4,c4,rfl,q4,m4⟩:=hdb.form;have hlm:l.length<=maxLen:=by omega
 have hdm:d.length<=maxLen:=by omega
 clear hna hnb hka hkb hda hdb ih q1 q2 q3 q4 m1 m2 m3 m4
 by_cases e0:k=k'
 ·subst e0
  by_cases e1:n=n'
  ·subst e1
   by_cases e2:t=t'
   ·subst e2
    by_cases e3:l.length=l'.length
    ·rw [<- e3]
     by_cases e4:d.length=d'.length
     ·rw [<- e4];have HE:=hid (aI e3 e4);clear e3 e4;unfold maxLen at hlm hdm;obtain ⟨nl,hnl⟩:∃ m,l.length=m:=⟨_,rfl⟩
      obtain ⟨nd,hnd⟩:∃ m,d.length=m:=⟨_,rfl⟩
      rw [hnl] at hlm ⊢;rw [hnd] at hdm ⊢;have HL:=hid (aI hnl hnd);clear hnl hnd;go_enter func15,ntmps15;go_wp2;have HT:=Blk.two w #[Value.int .i64 k,.int .u64 n,.string t,.slice p1 nl c1,.int .i64 o,.slice p3 nd c3] #[Value.int .i64 k,.int .u64 n,.string t,.slice p2 nl c2,.int .i64 o',.slice p4 nd c4] 25;generalize (w.alloc (.cells #[Value.int .i64 k,.int .u64 n,.string t,.slice p1 nl c1,.int .i64 o,.slice p3 nd c3] 25)).alloc (.cells #[Value.int .i64 k,.int .u64 n,.string t,.slice p2 nl c2,.int .i64 o',.slice p4 nd c4] 25)=W2 at HT ⊢;generalize w.heap.size+1=B at HT ⊢;generalize w.heap.size=A at HT ⊢;have HW:=hid HT;clear HT
      go_loopw [46] (fun c w'=>∃ kk:Nat,kk<=nl/\c = .int .i64 kk/\Hid (Kept Nope W2 w'/\∀ (i:Nat) (x y:V),i < kk->l[i]? = some x->l'[i]? = some y->Same x y)) (fun c _=>nl - (RowKit.intOf c).toNat)
      case atStart=>exact ⟨0,by omega,rfl,hid ⟨kR _ _,fun i x y hi=>by omega⟩⟩
      case round =>
       obtain ⟨kk,hk,rfl,HR⟩:=hrel;have bA3:=(HW.out.1.kept HR.out.1 (fun h=>h)).cell 3;have bB3:=(HW.out.2.1.kept HR.out.1 (fun h=>h)).cell 3;have bA5:=(HW.out.1.kept HR.out.1 (fun h=>h)).cell 5;have bB5:=(HW.out.2.1.kept HR.out.1 (fun h=>h)).cell 5;simp only [gt,gz,gs] at bA3 bB3 bA5 bB5;have hkw:Kept Nope w wr:=HW.out.2.2.trans' HR.out.1;have HKW:=hid hkw;clear hkw
       by_cases hkn:kk < nl
       ·have hkn':(kk:Int) < (nl:Int):=by omega
        have hk0:(0:Int)<=(kk:Int):=by omega
        have e1:IntKind.i64.wrap ((kk:Int)+1)=(kk:Int)+1:=IntWalk.i64_in _ (by omega);obtain ⟨x,hx⟩:∃ v,l[kk]? = some v:=⟨l[kk]'(by rw [HL.out.1];exact hkn),ge _⟩
        obtain ⟨y,hy⟩:∃ v,l'[kk]? = some v:=⟨l'[kk]'(by rw [<- HE.out.1,HL.out.1];exact hkn),ge _⟩
        obtain ⟨b1,off1,cap1,ks1,ds1,q1,hc1,_,hvx,x0,x1,x2,x3,x4,x5⟩:=(HKA.out.1.keep HKW.out (fun _ _ _ h=>h)).six hx;obtain ⟨b2,off2,cap2,ks2,ds2,q2,hc2,_,hvy,y0,y1,y2,y3,y4,y5⟩:=(HKA.out.2.1.keep HKW.out (fun _ _ _ h=>h)).six hy;injection q1 with q1 _ q1'
        injection q2 with q2 _ q2'
        subst q1 q1' q2 q2';have HX:=hid (aI hx (aI hy (aI hvx hvy)));clear hx hy hvx hvy hc1 hc2;go_wp2;refine wp_region_tail 10 (by kernel_rfl) (by kernel_rfl) (fun K hK => ?_);simp only [List.take_succ_cons,List.take_zero,List.drop_succ_cons,List.drop_zero] at hK ⊢
        repeat still_step
        refine wpStill_nil (hK _ ?_);clear hK K;go_wp2_with (go_at_call 15;go_must (refine (HI.out x (.inl (gm HX.out.1)) y _ _ _ HX.out.2.2.1.drew HX.out.2.2.2.drew).mono ?_;rintro e w1 ⟨⟨rfl,hb⟩ | ⟨rfl,hb⟩,hk1⟩;all_goals have H1:=hid (aI hb (((kR Nope wr).drew).trans' hk1));clear hb hk1))
        ·go_roundw
         case rel =>
          refine ⟨kk+1,by omega,by go_num,hid ⟨HR.out.1.trans' H1.out.2,fun i x' y' hi hx' hy' => ?_⟩⟩
          rcases Nat.lt_or_ge i kk with hlt | hge
          ·exact HR.out.2 i x' y' hlt hx' hy'
          ·obtain rfl:i=kk:=by omega
           have h1:=HX.out.1;have h2:=HX.out.2.1;rw [hx'] at h1;rw [hy'] at h2;cases h1;cases h2;exact H1.out.1
         case measure=>simp [RowKit.intOf];omega
        ·go_ret;exact ⟨.inr ⟨rfl,fun h=>H1.out.1 ((xeg.1 h).2.2.2.2.2.1 kk x y HX.out.1 HX.out.2.1)⟩,HKW.out.trans' H1.out.2⟩
       ·obtain rfl:kk=nl:=by omega
        have hlt:¬ (kk:Int) < (kk:Int):=by omega
        have hall:∀ (i:Nat) (x y:V),l[i]? = some x->l'[i]? = some y->Same x y:=fun i x y hx hy=>HR.out.2 i x y (by have:=(gi.1 hx).1;have:=HL.out.1;omega) hx hy
        have HALL:=hid hall;clear hall
        rcases Nat.eq_zero_or_pos nd with hz | hz
        ·subst hz;go_wp2;go_quiet (fail);go_wp2;go_ret;exact ⟨.inl ⟨rfl,xeg.2 ⟨rfl,rfl,rfl,HE.out.1,HE.out.2,HALL.out,fun x y hx=>by have:=(gi.1 hx).1;have:=HL.out.2;omega⟩⟩,(HKW.out).drewN _⟩
        ·have hz1:((nd:Int) == 0)=false:=by simp;omega
         have hz2:¬ (nd:Int)=0:=by omega
         have hz3:(0:Int) < (nd:Int):=by omega
         obtain ⟨x,hx⟩:∃ v,d[0]? = some v:=⟨d[0]'(by rw [HL.out.2];exact hz),ge _⟩
         obtain ⟨y,hy⟩:∃ v,d'[0]? = some v:=⟨d'[0]'(by rw [<- HE.out.2,HL.out.2];exact hz),ge _⟩
         obtain ⟨b1,off1,cap1,ks1,ds1,q1,hc1,_,hvx,x0,x1,x2,x3,x4,x5⟩:=(HKA.out.2.2.1.keep HKW.out (fun _ _ _ h=>h)).six hx;obtain ⟨b2,off2,cap2,ks2,ds2,q2,hc2,_,hvy,y0,y1,y2,y3,y4,y5⟩:=(HKA.out.2.2.2.keep HKW.out (fun _ _ _ h=>h)).six hy;simp only [Nat.zero_mul,Nat.add_zero] at x0 x1 x2 x3 x4 x5 y0 y1 y2 y3 y4 y5;injection q1 with q1 _ q1'
         injection q2 with q2 _ q2'
         subst q1 q1' q2 q2';have HX:=hid (aI hx (aI hy (aI hvx hvy)));clear hx hy hvx hvy hc1 hc2;go_wp2;refine wp_region_tail 13 (by kernel_rfl) (by kernel_rfl) (fun K hK => ?_);simp only [List.take_succ_cons,List.take_zero,List.drop_succ_cons,List.drop_zero] at hK ⊢
         repeat still_step
         refine wpStill_nil (hK _ ?_);clear hK K;go_wp2_with (go_at_call 15;go_must (refine (HI.out x (.inr (gm HX.out.1)) y _ _ _ HX.out.2.2.1.drew HX.out.2.2.2.drew).mono ?_;rintro e w1 ⟨⟨rfl,hb⟩ | ⟨rfl,hb⟩,hk1⟩;all_goals have H1:=hid (aI hb (((kR Nope wr).drew).trans' hk1));clear hb hk1))
         ·go_ret;refine ⟨.inl ⟨rfl,xeg.2 ⟨rfl,rfl,rfl,HE.out.1,HE.out.2,HALL.out,fun x' y' hx' hy' => ?_⟩⟩,HKW.out.trans' H1.out.2⟩;have h1:=HX.out.1;have h2:=HX.out.2.1;rw [hx'] at h1;rw [hy'] at h2;cases h1;cases h2;exact H1.out.1
         ·go_ret;exact ⟨.inr ⟨rfl,fun h=>H1.out.1 ((xeg.1 h).2.2.2.2.2.2 x y HX.out.1 HX.out.2.1)⟩,HKW.out.trans' H1.out.2⟩
     ·have e4':¬ (d.length:Int)=(d'.length:Int):=by omega
      go_enter func15,ntmps15;go_wp2;go_ret;exact ⟨.inr ⟨rfl,fun h=>e4 (xeg.1 h).2.2.2.2.1⟩,((kR _ _).alloc _).alloc _⟩
    ·have e3':¬ (l.length:Int)=(l'.length:Int):=by omega
     go_enter func15,ntmps15;go_wp2;go_ret;exact ⟨.inr ⟨rfl,fun h=>e3 (xeg.1 h).2.2.2.1⟩,((kR _ _).alloc _).alloc _⟩
   ·have e2':=text_ne e2;go_enter func15,ntmps15;go_wp2;go_ret;exact ⟨.inr ⟨rfl,fun h=>e2 (xeg.1 h).2.2.1⟩,((kR _ _).alloc _).alloc _⟩
  ·go_enter func15,ntmps15;go_wp2;go_ret;exact ⟨.inr ⟨rfl,fun h=>e1 (xeg.1 h).2.1⟩,((kR _ _).alloc _).alloc _⟩
 ·go_enter func15,ntmps15;go_wp2;go_ret;exact ⟨.inr ⟨rfl,fun h=>e0 (xeg.1 h).1⟩,((kR _ _).alloc _).alloc _⟩
theorem xkr:∀ (n:Nat) (a:V),SizeOf.sizeOf a<=n->∀ (b:V) (w:World) (xa xb:Value),VAgg Any_ w xa a->VAgg Any_ w xb b->Calls prog 15 #[xa,xb] w (AskB (Same a b) w):=by
 intro n
 induction n using Nat.strongRecOn with
 | _ n ihn =>
  intro a hn b w xa xb ha hb;refine SameValue_step a b w xa xb ha hb fun k hk u W x y hx hy => ?_
  have hs:SizeOf.sizeOf k < SizeOf.sizeOf a:=by
   rcases hk with h | h
   ·exact V.sizeOf_kid h
   ·exact V.sizeOf_desc h
  exact ihn (SizeOf.sizeOf k) (by omega) k (Nat.le_refl _) u W x y hx hy
theorem xcU (a b:V) (w:World) (xa xb:Value) (ha:VAgg Any_ w xa a) (hb:VAgg Any_ w xb b):Calls prog 15 #[xa,xb] w (AskB (Same a b) w):=xkr _ a (Nat.le_refl _) b w xa xb ha hb
section
theorem xaB {M:Nat->Prop} {w w':World} {base:Nat} {e:TypeId} {size n:Nat} {x:Value} {xs:List Value} (h:w.ownsRow base e size x n xs) (hk:Kept M w w') (hM:∀ k,x.ownBlock=some k->¬ M k):w'.ownsRow base e size x n xs:=by
 refine ⟨h.1,?_⟩
 rcases h.2 with hn | ⟨g,cap,cur,rfl,hb,hgg,rest⟩
 ·exact .inl hn
 ·exact .inr ⟨g,cap,cur,rfl,hb,hk.obj hgg (hM g rfl),rest⟩
structure Row6 (w0:World) (M:Nat->Prop) (w:World) (x:Value) (l:List Lay):Prop where
 own:w.ownsRow w0.heap.size 25 6 x l.length (l.flatMap Lay.cells)
 ok:∀ a ∈ l,a.Ok (fun b=>x.ownBlock≠some b/\¬ M b) w
namespace Row6
variable {w0 w w':World} {M:Nat->Prop} {x x':Value} {l:List Lay}
theorem nil (w0:World) (M:Nat->Prop) (w:World):Row6 w0 M w (.slice none 0 0) []:=⟨World.ownsRow_nil _ _ _ _,fun _ h=>by cases h⟩
theorem keep {M':Nat->Prop} (h:Row6 w0 M w x l) (hk:Kept M' w w') (hM:∀ b,M' b->M b) (hx:∀ k,x.ownBlock=some k->¬ M' k):Row6 w0 M w' x l :=
 ⟨xaB h.own hk hx,fun a ha=>(h.ok a ha).keep hk fun b _ hb hm=>hb.2 (hM b hm)⟩
theorem nope (h:Row6 w0 M w x l) (hk:Kept Nope w w'):Row6 w0 M w' x l:=h.keep hk (fun _ h=>h.elim) fun _ _ h=>h
theorem push {a:Lay} (h:Row6 w0 M w x l) (ha:a.Ok (fun b=>x.ownBlock≠some b/\¬ M b) w) (h2:w'.ownsRow w0.heap.size 25 6 x' (l.length+1) (l.flatMap Lay.cells ++ a.cells)) (hg:w.grownBy w' x.ownBlock)
  (h4:x'.ownBlock=x.ownBlock\/x'.ownBlock=some w.heap.size):Row6 w0 M w' x' (l ++ [a]):=by
 refine ⟨by simpa using h2,fun c hc => ?_⟩;have hk:Kept (fun b=>x.ownBlock=some b) w w':=⟨hg.os,hg.tape,hg.output,hg.size,fun k hk hn=>hg.block k hk (fun e=>hn e.symm)⟩
 have hcok:c.Ok (fun b=>x.ownBlock≠some b/\¬ M b) w:=by
  rcases List.mem_append.1 hc with h1 | h1
  ·exact h.ok c h1
  ·rw [List.mem_singleton.1 h1];exact ha
 refine (hcok.mono (S':=fun b=>(x.ownBlock≠some b/\¬ M b)/\b < w.heap.size) fun b hb hS=>⟨hS,hb⟩).keep hk (fun b _ hb hm=>hb.1.1 hm) |>.mono fun b _ hb=>⟨?_,hb.1.2⟩
 rcases h4 with e | e
 ·rw [e];exact hb.1.1
 ·rw [e];intro e';have:w.heap.size=b:=by injection e'
  omega
theorem above (h:Row6 w0 (fun b=>b < w0.heap.size) w x l):VSl (fun b=>w0.heap.size<=b) w x (l.map Lay.v) :=
 VSl.ofOwn h.own (fun b hb=>(h.own.lt b hb).1) fun a ha=>(h.ok a ha).mono fun b _ hb=>by have:=hb.2;omega
theorem form (h:Row6 w0 M w x l):∃ a cap,x = .slice a l.length cap:=by
 rcases h.own.2 with ⟨rfl,e⟩ | ⟨g,cap,cur,rfl,_⟩
 ·exact ⟨none,0,by rw [e]⟩
 ·exact ⟨_,_,rfl⟩
end Row6
theorem xei (a:Lay) (h1:a.ks.oneCell'=true) (h2:a.ds.oneCell'=true):∀ u ∈ a.cells,u.oneCell'=true:=by
 intro u hu;simp only [Lay.cells,List.mem_cons,List.mem_nil_iff,or_false] at hu
 rcases hu with rfl | rfl | rfl | rfl | rfl | rfl <;> first | rfl | assumption
theorem Lay.Ok.one {S:Nat->Prop} {w:World} {a:Lay} (h:a.Ok S w):∀ u ∈ a.cells,u.oneCell'=true:=by
 obtain ⟨_,h1,h2⟩:=h;obtain ⟨p,c,e1,_⟩:=h1.form;obtain ⟨p',c',e2,_⟩:=h2.form;exact xei a (by rw [e1];rfl) (by rw [e2];rfl)
theorem xbc:(prog.info? 25).map (fun i=>(i.zero,i.size,i.bytes))=some (some (.agg #[.int .i64 0,.int .u64 0,.string ⟨#[]⟩,.slice none 0 0,.int .i64 0,.slice none 0 0]),6,88):=by kernel_rfl
end
structure Pr where
 t:ByteArray
 k:V
 ka:Option Addr
 kc:Nat
 kb:Option Addr
 kd:Nat
 x:V
 xa:Option Addr
 xc:Nat
 xb:Option Addr
 xd:Nat
instance:Inhabited Pr:=⟨⟨ByteArray.empty,.mk 0 0 ByteArray.empty [] 0 [],none,0,none,0,.mk 0 0 ByteArray.empty [] 0 [],none,0,none,0⟩⟩
namespace Pr
def key (p:Pr):Lay:=⟨p.k,.slice p.ka p.k.kids.length p.kc,.slice p.kb p.k.desc.length p.kd⟩
def val (p:Pr):Lay:=⟨p.x,.slice p.xa p.x.kids.length p.xc,.slice p.xb p.x.desc.length p.xd⟩
def cells (p:Pr):List Value:=.string p.t :: (p.key.cells ++ p.val.cells)
theorem one (p:Pr):∀ v ∈ p.cells,v.oneCell'=true:=by
 intro v hv;simp only [cells,key,val,Lay.cells,List.mem_cons,List.cons_append,List.nil_append,List.mem_nil_iff,or_false] at hv
 rcases hv with rfl | rfl | rfl | rfl | rfl | rfl | rfl | rfl | rfl | rfl | rfl | rfl | rfl <;> rfl
def lt (a b:Pr):Bool:=Op.bytesLess a.t.toList b.t.toList
theorem lt_eq (a b:Pr):lt a b=Sort.ltStr a.t.toList b.t.toList:=bytesLess_eq _ _
theorem swo:Sort.SWO lt:=⟨fun _=>by rw [lt_eq];exact Sort.swo_ltStr.irrefl _,fun _ _ _=>by simp only [lt_eq];exact Sort.swo_ltStr.trans _ _ _,fun _ _ _=>by simp only [lt_eq];exact Sort.swo_ltStr.ntrans _ _ _⟩
end Pr
theorem xbV (l:List Pr):(l.flatMap Pr.cells).length=l.length*13:=by
 induction l with
 | nil=>rfl
 | cons a l ih=>rw [List.flatMap_cons,lA,ih];simp [Pr.cells,Lay.cells];omega
theorem xjh {l:List Pr} {k:Nat} {a:Pr} (h:l[k]? = some a) (m:Nat) (hm:m < 13):(l.flatMap Pr.cells)[k*13+m]? = a.cells[m]? := by
 induction l generalizing k with
 | nil=>simp at h
 | cons b l ih =>
  cases k with
  | zero =>
   simp at h;subst h;rw [List.flatMap_cons,List.getElem?_append_left (by simp [Pr.cells,Lay.cells];omega)];simp
  | succ k =>
   rw [List.flatMap_cons,List.getElem?_append_right (by simp [Pr.cells,Lay.cells];omega)];have:(k+1)*13+m - b.cells.length=k*13+m:=by simp [Pr.cells,Lay.cells];omega
   rw [this];exact ih (by simpa using h)
theorem xpZ (d:Array Pr):Sort.flatK Pr.cells 13 d=(d.toList.flatMap Pr.cells).toArray:=by
 refine Sort.ext_get! (by have e:=xbV d.toList;rw [Array.length_toList] at e;rw [Sort.size_flatK,List.size_toArray,e]) fun t ht => ?_
 rw [Sort.size_flatK] at ht;rw [Sort.get_flatK _ _ _ t ht];have hi:t / 13 < d.size:=by omega
 have ha:d.toList[t / 13]? = some d[t / 13]:=by rw [Array.getElem?_toList];exact Array.getElem?_eq_getElem hi
 have h:=xjh ha (t % 13) (by omega);have e:t / 13*13+t % 13=t:=by omega
 rw [e] at h;have hl:t % 13 < d[t / 13].cells.length:=by simp [Pr.cells,Lay.cells];omega
 rw [getElem!_pos d (t / 13) hi,getElem!_pos d[t / 13].cells (t % 13) hl];have hlt:t < (d.toList.flatMap Pr.cells).toArray.size:=by rw [List.size_toArray,xbV,Array.length_toList];exact ht
 rw [getElem!_pos _ t hlt];rw [ge hl] at h;have h2:=gi.1 h;obtain ⟨_,h2⟩:=h2;rw [<- h2];simp
theorem holds_13 {w:World} {g:Nat} {cur:Array Value} {e:TypeId} {l:List Pr} (hg:w.heap[g]? = some (.cells cur e (0,0))) (hcur:cur.toList.take (l.length*13)=l.flatMap Pr.cells):Sort.HoldsK Pr.cells 13 w g 0 l.toArray:=by
  unfold Sort.HoldsK;rw [xpZ];intro j hj;rw [List.size_toArray] at hj;rw [Nat.zero_add];constructor
  . rw [cell_of_row w g j cur e (0,0) hg,getElem!_pos _ j (by rw [List.size_toArray];exact hj)]
    have h1:(cur.toList.take (l.length*13))[j]? = (l.flatMap Pr.cells)[j]? := by rw [hcur]
    rw [ge hj,List.getElem?_take] at h1
    split at h1
    . simpa using h1
    . cases h1
  . simp [World.frozen?,hg]
theorem sorted_world {w w':World} {g n:Nat} {cur:Array Value} {e:TypeId} {l:List Pr} {d':Array Pr} {os:Array Obj} (hg:w.heap[g]? = some (.cells cur e (0,0))) (hcur:cur.toList.take (l.length*13)=l.flatMap Pr.cells)
  (hn:d'.size=l.length) (hw:w'=Sort.grow (Sort.putRowK Pr.cells 13 (Sort.ahead w n) g 0 d') os) :
  ∃ cur',w'.heap[g]? = some (.cells cur' e (0,0))/\cur'.size=cur.size/\cur'.toList.take (l.length*13)=d'.toList.flatMap Pr.cells/\Kept (Only g) w w':=by
 subst hw;have hlt:g < w.heap.size:=block_lt hg
 have hsz:l.length*13<=cur.size:=by
  have h1:=congrArg List.length hcur;rw [List.length_take,xbV] at h1;simp at h1;omega
 refine ⟨Sort.putCells id 0 (Sort.flatK Pr.cells 13 d') cur,?_,by simp [Sort.putCells],?_,rfl,rfl,rfl,by simp [Sort.grow,Sort.putRowK,Sort.putRow,Sort.mapBlock],fun k hk hne => ?_⟩
 ·rw [Sort.heap_grow_old _ _ (by simp [Sort.putRowK,Sort.putRow,Sort.mapBlock];exact hlt)];simp [Sort.putRowK,Sort.putRow,Sort.mapBlock,Array.getElem?_modify,hg,Sort.onCells]
 ·rw [xpZ];apply List.ext_getElem?;intro j;rw [List.getElem?_take]
  by_cases hj:j < l.length*13
  ·rw [if_pos hj,Array.getElem?_toList,Sort.putCells,Array.getElem?_mapIdx,Array.getElem?_eq_getElem (by omega)];have h1:j < (d'.toList.flatMap Pr.cells).length:=by rw [xbV,Array.length_toList,hn];exact hj
   simp only [Option.map_some];rw [if_pos ⟨Nat.zero_le _,by rw [List.size_toArray];omega⟩,Nat.sub_zero,getElem!_pos _ j (by rw [List.size_toArray];exact h1),ge h1];simp
  ·rw [if_neg hj,List.getElem?_eq_none (by rw [xbV,Array.length_toList,hn];omega)]
 ·have hne':g≠k:=fun e=>hne e.symm
  rw [Sort.heap_grow_old _ _ (by simpa [Sort.putRowK,Sort.putRow,Sort.mapBlock] using hk)];simp [Sort.putRowK,Sort.putRow,Sort.mapBlock,Array.getElem?_modify,hne']
end Go.Proofs.YtmdpodeegdjkeaaGreatDoor
section
namespace Go.Proofs
open Go.Shelf
def Tryz.laysSlice_ren:Go.Shelf.Ren:=⟨fun | 6=>102 | 10=>155 | 11=>156 | 12=>157 | 13=>158 | 14=>159 | 24=>232 | 25=>233 | 26=>234 | 27=>235 | 28=>236 | 29=>237 | 30=>238 | 31=>239 | 32=>240 | 33=>241 | 34=>260 | 35=>261 | 36=>262 | 37=>263 | 38=>264 | 39=>281 | n=>n,fun | 20=>20 | 26=>174 | 35=>299 | 0=>0 | 37=>301 | 3=>3 | 41=>164 | 44=>306 | 49=>101 | 51=>22 | 4=>4 | 54=>372 | 53=>371 | 58=>376 | 5=>5 | 9=>9 | 60=>402 | 64=>160 | 66=>424 | 67=>425 | 17=>17 | 32=>296 | 33=>297 | 82=>449 | 12=>12 | 75=>443 | 76=>444 | 77=>445 | 78=>227 | 79=>446 | 80=>447 | n=>n,fun | n=>n⟩
theorem Tryz.laysSlice:Go.Proofs.LaysGg.n6 Tryz.prog Tryz.laysSlice_ren:={
 mixed:=by kernel_rfl
 f6:=Tryz.func102.trans (congrArg some (by kernel_rfl))
 f10:=Tryz.func155.trans (congrArg some (by kernel_rfl))
 f11:=Tryz.func156.trans (congrArg some (by kernel_rfl))
 f12:=Tryz.func157.trans (congrArg some (by kernel_rfl))
 f13:=Tryz.func158.trans (congrArg some (by kernel_rfl))
 f14:=Tryz.func159.trans (congrArg some (by kernel_rfl))
 f24:=Tryz.func232.trans (congrArg some (by kernel_rfl))
 f25:=Tryz.func233.trans (congrArg some (by kernel_rfl))
 f26:=Tryz.func234.trans (congrArg some (by kernel_rfl))
 f27:=Tryz.func235.trans (congrArg some (by kernel_rfl))
 f28:=Tryz.func236.trans (congrArg some (by kernel_rfl))
 f29:=Tryz.func237.trans (congrArg some (by kernel_rfl))
 f30:=Tryz.func238.trans (congrArg some (by kernel_rfl))
 f31:=Tryz.func239.trans (congrArg some (by kernel_rfl))
 f32:=Tryz.func240.trans (congrArg some (by kernel_rfl))
 f33:=Tryz.func241.trans (congrArg some (by kernel_rfl))
 f34:=Tryz.func260.trans (congrArg some (by kernel_rfl))
 f35:=Tryz.func261.trans (congrArg some (by kernel_rfl))
 f36:=Tryz.func262.trans (congrArg some (by kernel_rfl))
 f37:=Tryz.func263.trans (congrArg some (by kernel_rfl))
 f38:=Tryz.func264.trans (congrArg some (by kernel_rfl))
 f39:=Tryz.func281.trans (congrArg some (by kernel_rfl))
 t0:=Tryz.underlying0
 a0:=Tryz.isAgg0
 z0:=Tryz.sizeOf0
 v0:=Tryz.zeroValue0
 i0:=by kernel_rfl
 t3:=Tryz.underlying3
 a3:=Tryz.isAgg3
 z3:=Tryz.sizeOf3
 v3:=Tryz.zeroValue3
 i3:=by kernel_rfl
 t4:=Tryz.underlying4
 a4:=Tryz.isAgg4
 z4:=Tryz.sizeOf4
 v4:=Tryz.zeroValue4
 i4:=by kernel_rfl
 t5:=Tryz.underlying5
 a5:=Tryz.isAgg5
 z5:=Tryz.sizeOf5
 v5:=Tryz.zeroValue5
 i5:=by kernel_rfl
 t9:=Tryz.underlying9
 a9:=Tryz.isAgg9
 z9:=Tryz.sizeOf9
 v9:=Tryz.zeroValue9
 i9:=by kernel_rfl
 t12:=Tryz.underlying12
 a12:=Tryz.isAgg12
 z12:=Tryz.sizeOf12
 v12:=Tryz.zeroValue12
 i12:=by kernel_rfl
 t17:=Tryz.underlying17
 a17:=Tryz.isAgg17
 z17:=Tryz.sizeOf17
 v17:=Tryz.zeroValue17
 i17:=by kernel_rfl
 t20:=Tryz.underlying20
 a20:=Tryz.isAgg20
 z20:=Tryz.sizeOf20
 v20:=Tryz.zeroValue20
 i20:=by kernel_rfl
 t26:=Tryz.underlying174
 a26:=Tryz.isAgg174
 z26:=Tryz.sizeOf174
 v26:=Tryz.zeroValue174
 i26:=by kernel_rfl
 t32:=Tryz.underlying296
 a32:=Tryz.isAgg296
 z32:=Tryz.sizeOf296
 v32:=Tryz.zeroValue296
 i32:=by kernel_rfl
 t33:=Tryz.underlying297
 a33:=Tryz.isAgg297
 z33:=Tryz.sizeOf297
 v33:=Tryz.zeroValue297
 i33:=by kernel_rfl
 t35:=Tryz.underlying299
 a35:=Tryz.isAgg299
 z35:=Tryz.sizeOf299
 v35:=Tryz.zeroValue299
 i35:=by kernel_rfl
 t37:=Tryz.underlying301
 a37:=Tryz.isAgg301
 z37:=Tryz.sizeOf301
 v37:=Tryz.zeroValue301
 i37:=by kernel_rfl
 t41:=Tryz.underlying164
 a41:=Tryz.isAgg164
 z41:=Tryz.sizeOf164
 v41:=Tryz.zeroValue164
 i41:=by kernel_rfl
 t44:=Tryz.underlying306
 a44:=Tryz.isAgg306
 z44:=Tryz.sizeOf306
 v44:=Tryz.zeroValue306
 i44:=by kernel_rfl
 t49:=Tryz.underlying101
 a49:=Tryz.isAgg101
 z49:=Tryz.sizeOf101
 v49:=Tryz.zeroValue101
 i49:=by kernel_rfl
 t51:=Tryz.underlying22
 a51:=Tryz.isAgg22
 z51:=Tryz.sizeOf22
 v51:=Tryz.zeroValue22
 i51:=by kernel_rfl
 t53:=Tryz.underlying371
 a53:=Tryz.isAgg371
 z53:=Tryz.sizeOf371
 v53:=Tryz.zeroValue371
 i53:=by kernel_rfl
 t54:=Tryz.underlying372
 a54:=Tryz.isAgg372
 z54:=Tryz.sizeOf372
 v54:=Tryz.zeroValue372
 i54:=by kernel_rfl
 t58:=Tryz.underlying376
 a58:=Tryz.isAgg376
 z58:=Tryz.sizeOf376
 v58:=Tryz.zeroValue376
 i58:=by kernel_rfl
 t60:=Tryz.underlying402
 a60:=Tryz.isAgg402
 z60:=Tryz.sizeOf402
 v60:=Tryz.zeroValue402
 i60:=by kernel_rfl
 t64:=Tryz.underlying160
 a64:=Tryz.isAgg160
 z64:=Tryz.sizeOf160
 v64:=Tryz.zeroValue160
 i64:=by kernel_rfl
 t66:=Tryz.underlying424
 a66:=Tryz.isAgg424
 z66:=Tryz.sizeOf424
 v66:=Tryz.zeroValue424
 i66:=by kernel_rfl
 t67:=Tryz.underlying425
 a67:=Tryz.isAgg425
 z67:=Tryz.sizeOf425
 v67:=Tryz.zeroValue425
 i67:=by kernel_rfl
 t75:=Tryz.underlying443
 a75:=Tryz.isAgg443
 z75:=Tryz.sizeOf443
 v75:=Tryz.zeroValue443
 i75:=by kernel_rfl
 t76:=Tryz.underlying444
 a76:=Tryz.isAgg444
 z76:=Tryz.sizeOf444
 v76:=Tryz.zeroValue444
 i76:=by kernel_rfl
 t77:=Tryz.underlying445
 a77:=Tryz.isAgg445
 z77:=Tryz.sizeOf445
 v77:=Tryz.zeroValue445
 i77:=by kernel_rfl
 t78:=Tryz.underlying227
 a78:=Tryz.isAgg227
 z78:=Tryz.sizeOf227
 v78:=Tryz.zeroValue227
 i78:=by kernel_rfl
 t79:=Tryz.underlying446
 a79:=Tryz.isAgg446
 z79:=Tryz.sizeOf446
 v79:=Tryz.zeroValue446
 i79:=by kernel_rfl
 t80:=Tryz.underlying447
 a80:=Tryz.isAgg447
 z80:=Tryz.sizeOf447
 v80:=Tryz.zeroValue447
 i80:=by kernel_rfl
 t82:=Tryz.underlying449
 a82:=Tryz.isAgg449
 z82:=Tryz.sizeOf449
 v82:=Tryz.zeroValue449
 i82:=by kernel_rfl }
end Go.Proofs
end
