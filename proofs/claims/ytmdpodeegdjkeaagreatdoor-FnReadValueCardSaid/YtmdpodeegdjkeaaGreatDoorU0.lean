/- Part 0 of the proof of the readers and the guards. No conditions. -/
import Derived.Ground.NamesProg
import Derived.Shelf.Sort.Plain
import Derived.Shelf.Slices.In.SortNone2
import Derived.Test.YtmdpodeegdjkeaaGreatDoorProg
import Derived.WalkKit
import Derived.Deep.Draws
import Derived.Maps.AppendAt
import Derived.Deep.AppendLies
import Derived.RegionTactic
import Derived.OwnWalk
import Derived.Ground.MnProg
import Derived.Shelf.Bin.BEUint16
import Derived.Shelf.Bin.BEUint32
import Derived.Shelf.Bin.BEPutUint32
import Derived.Shelf.Bin.BEUint64
set_option maxRecDepth 100000
set_option maxHeartbeats 3200000
namespace Go.Proofs.YtmdpodeegdjkeaaGreatDoor
open Go
theorem gz {α:Type _} {a:α} {l:List α}:(a::l)[0]? =some a:=rfl
theorem gs {α:Type _} {a:α} {i:Nat} {l:List α}:(a::l)[i+1]? =l[i]?:=rfl
theorem gt {α:Type _} {l:List α} {i:Nat}:l.toArray[i]? =l[i]?:=List.getElem?_toArray
theorem gm {α:Type _} {l:List α} {i:Nat} {a:α} (h:l[i]? =some a):a∈l:=List.mem_of_getElem? h
theorem ge {α:Type _} {l:List α} {i:Nat} (h:i<l.length):l[i]? =some l[i]:=List.getElem?_eq_getElem h
theorem gi {α:Type _} {l:List α} {i:Nat} {a:α}:l[i]? =some a<->∃ h:i<l.length,l[i]=a:=List.getElem?_eq_some_iff
theorem lA {α:Type _} {l r:List α}:(l++r).length=l.length+r.length:=List.length_append
theorem lC {α:Type _} {a:α} {l:List α}:(a::l).length=l.length+1:=rfl
theorem lM {α:Type _} {β:Type _} {l:List α} (f:α->β):(l.map f).length=l.length:=List.length_map f
theorem gM {α:Type _} {β:Type _} {f:α->β} {l:List α} {i:Nat}:(l.map f)[i]? =(l[i]?).map f:=List.getElem?_map
end Go.Proofs.YtmdpodeegdjkeaaGreatDoor
section
namespace Go.Proofs.YtmdpodeegdjkeaaGreatDoor
open Go
theorem aI {p q:Prop} (a:p) (b:q):p /\ q:=And.intro a b
end Go.Proofs.YtmdpodeegdjkeaaGreatDoor
end
section
namespace Go.Proofs
open Go.Shelf
def Tryz.laysStrings_ren:Go.Shelf.Ren:=⟨fun | 192=>108 | 190=>164 | 125=>158 | 258=>242 | 128=>232 | 129=>233 | 302=>265 | 303=>266 | 304=>267 | 305=>268 | 306=>269 | 307=>270 | 308=>271 | 309=>272 | 310=>273 | 333=>282 | 329=>283 | 330=>284 | 334=>285 | 335=>286 | 336=>287 | 344=>293 | n=>n,fun | 31=>153 | 0=>0 | 9=>9 | 3=>3 | 46=>164 | 51=>101 | 53=>22 | 4=>4 | 183=>409 | 182=>408 | 131=>376 | 5=>5 | 218=>427 | 222=>160 | 228=>433 | 229=>425 | n=>n,fun | n=>n⟩
theorem Tryz.laysStrings:Go.Proofs.Lays.n192 Tryz.prog Tryz.laysStrings_ren:={
 mixed:=by kernel_rfl
 f125:=Tryz.func158.trans (congrArg some (by kernel_rfl))
 f128:=Tryz.func232.trans (congrArg some (by kernel_rfl))
 f129:=Tryz.func233.trans (congrArg some (by kernel_rfl))
 f190:=Tryz.func164.trans (congrArg some (by kernel_rfl))
 f192:=Tryz.func108.trans (congrArg some (by kernel_rfl))
 f258:=Tryz.func242.trans (congrArg some (by kernel_rfl))
 f302:=Tryz.func265.trans (congrArg some (by kernel_rfl))
 f303:=Tryz.func266.trans (congrArg some (by kernel_rfl))
 f304:=Tryz.func267.trans (congrArg some (by kernel_rfl))
 f305:=Tryz.func268.trans (congrArg some (by kernel_rfl))
 f306:=Tryz.func269.trans (congrArg some (by kernel_rfl))
 f307:=Tryz.func270.trans (congrArg some (by kernel_rfl))
 f308:=Tryz.func271.trans (congrArg some (by kernel_rfl))
 f309:=Tryz.func272.trans (congrArg some (by kernel_rfl))
 f310:=Tryz.func273.trans (congrArg some (by kernel_rfl))
 f329:=Tryz.func283.trans (congrArg some (by kernel_rfl))
 f330:=Tryz.func284.trans (congrArg some (by kernel_rfl))
 f333:=Tryz.func282.trans (congrArg some (by kernel_rfl))
 f334:=Tryz.func285.trans (congrArg some (by kernel_rfl))
 f335:=Tryz.func286.trans (congrArg some (by kernel_rfl))
 f336:=Tryz.func287.trans (congrArg some (by kernel_rfl))
 f344:=Tryz.func293.trans (congrArg some (by kernel_rfl))
 t0:=Tryz.underlying0
 a0:=Tryz.isAgg0
 z0:=Tryz.sizeOf0
 v0:=Tryz.zeroValue0
 t3:=Tryz.underlying3
 a3:=Tryz.isAgg3
 z3:=Tryz.sizeOf3
 v3:=Tryz.zeroValue3
 t4:=Tryz.underlying4
 a4:=Tryz.isAgg4
 z4:=Tryz.sizeOf4
 v4:=Tryz.zeroValue4
 t5:=Tryz.underlying5
 a5:=Tryz.isAgg5
 z5:=Tryz.sizeOf5
 v5:=Tryz.zeroValue5
 t9:=Tryz.underlying9
 a9:=Tryz.isAgg9
 z9:=Tryz.sizeOf9
 v9:=Tryz.zeroValue9
 t31:=Tryz.underlying153
 a31:=Tryz.isAgg153
 z31:=Tryz.sizeOf153
 v31:=Tryz.zeroValue153
 t46:=Tryz.underlying164
 a46:=Tryz.isAgg164
 z46:=Tryz.sizeOf164
 v46:=Tryz.zeroValue164
 t51:=Tryz.underlying101
 a51:=Tryz.isAgg101
 z51:=Tryz.sizeOf101
 v51:=Tryz.zeroValue101
 t53:=Tryz.underlying22
 a53:=Tryz.isAgg22
 z53:=Tryz.sizeOf22
 v53:=Tryz.zeroValue22
 t131:=Tryz.underlying376
 a131:=Tryz.isAgg376
 z131:=Tryz.sizeOf376
 v131:=Tryz.zeroValue376
 t182:=Tryz.underlying408
 a182:=Tryz.isAgg408
 z182:=Tryz.sizeOf408
 v182:=Tryz.zeroValue408
 t183:=Tryz.underlying409
 a183:=Tryz.isAgg409
 z183:=Tryz.sizeOf409
 v183:=Tryz.zeroValue409
 t218:=Tryz.underlying427
 a218:=Tryz.isAgg427
 z218:=Tryz.sizeOf427
 v218:=Tryz.zeroValue427
 t222:=Tryz.underlying160
 a222:=Tryz.isAgg160
 z222:=Tryz.sizeOf160
 v222:=Tryz.zeroValue160
 t228:=Tryz.underlying433
 a228:=Tryz.isAgg433
 z228:=Tryz.sizeOf433
 v228:=Tryz.zeroValue433
 t229:=Tryz.underlying425
 a229:=Tryz.isAgg425
 z229:=Tryz.sizeOf425
 v229:=Tryz.zeroValue425 }
end Go.Proofs
end
section
namespace Go.Proofs.YtmdpodeegdjkeaaGreatDoor
inductive V where
 | mk (kind num:Int) (text:ByteArray) (kids:List V) (of_:Int) (desc:List V)
namespace V
def kind:V->Int | mk k _ _ _ _ _=>k
def num:V->Int | mk _ n _ _ _ _=>n
def text:V->ByteArray | mk _ _ t _ _ _=>t
def kids:V->List V | mk _ _ _ l _ _=>l
def of_:V->Int | mk _ _ _ _ o _=>o
def desc:V->List V | mk _ _ _ _ _ d=>d
theorem eta (v:V):v=mk v.kind v.num v.text v.kids v.of_ v.desc:=by cases v;rfl
def bare (v:V):V:=mk v.kind v.num v.text v.kids v.of_ []
@[simp] theorem kind_mk (a b c d e f):(mk a b c d e f).kind=a:=rfl
@[simp] theorem num_mk (a b c d e f):(mk a b c d e f).num=b:=rfl
@[simp] theorem text_mk (a b c d e f):(mk a b c d e f).text=c:=rfl
@[simp] theorem kids_mk (a b c d e f):(mk a b c d e f).kids=d:=rfl
@[simp] theorem of_mk (a b c d e f):(mk a b c d e f).of_=e:=rfl
@[simp] theorem desc_mk (a b c d e f):(mk a b c d e f).desc=f:=rfl
theorem sizeOf_kid {v k:V} (h:k ∈ v.kids):SizeOf.sizeOf k < SizeOf.sizeOf v:=by
 cases v;have:=List.sizeOf_lt_of_mem h;simp_all;omega
theorem sizeOf_desc {v k:V} (h:k ∈ v.desc):SizeOf.sizeOf k < SizeOf.sizeOf v:=by
 cases v;have:=List.sizeOf_lt_of_mem h;simp_all;omega
def count (v:V):Nat:=1+(v.kids.attach.map fun k=>count k.1).sum+(v.desc.attach.map fun k=>count k.1).sum
termination_by SizeOf.sizeOf v
decreasing_by
 ·exact sizeOf_kid k.2
 ·exact sizeOf_desc k.2
end V
def sumOf {α:Type} (f:α->Nat):List α->Nat
 | []=>0
 | a :: l=>f a+sumOf f l
theorem xex {α:Type} (f:α->Nat) (l r:List α):sumOf f (l ++ r)=sumOf f l+sumOf f r:=by
 induction l with
 | nil=>simp [sumOf]
 | cons a l ih=>simp [sumOf,ih];omega
theorem xjE {α:Type} (f g:α->Nat) (l:List α) (h:∀ a ∈ l,f a<=g a):sumOf f l<=sumOf g l:=by
 induction l with
 | nil=>simp [sumOf]
 | cons a l ih =>
  have h1:=h a (by simp);have h2:=ih (fun b hb=>h b (by simp [hb]));simp [sumOf];omega
theorem xkH {α:Type} (f:α->Nat) (l:List α) (a:α) (h:a ∈ l):f a<=sumOf f l:=by
 induction l with
 | nil=>cases h
 | cons b l ih =>
  simp only [sumOf]
  cases List.mem_cons.1 h with
  | inl e=>subst e;omega
  | inr e=>have:=ih e;omega
theorem xkG {α:Type} (f:α->Nat) (c:Nat) (l:List α):sumOf (fun a=>f a*c) l=sumOf f l*c:=by
 induction l with
 | nil=>simp [sumOf]
 | cons a l ih=>simp [sumOf,ih,Nat.add_mul]
theorem xiS {α:Type} (f:α->Nat) (l:List α):(l.attach.map fun k=>f k.1).sum=sumOf f l:=by
 have h:(l.attach.map fun k=>f k.1)=l.map f:=by simp
 rw [h]
 induction l with
 | nil=>rfl
 | cons a l ih=>simp [sumOf,ih]
theorem V.count_eq (v:V):v.count=1+sumOf V.count v.kids+sumOf V.count v.desc:=by
 rw [V.count];simp only [xiS]
end Go.Proofs.YtmdpodeegdjkeaaGreatDoor
end
section
namespace Go.Proofs.YtmdpodeegdjkeaaGreatDoor
def be:Nat->Nat->List UInt8
 | 0,_=>[]
 | n+1,u=>UInt8.ofNat (u / 256 ^ n % 256) :: be n u
@[simp] theorem be_length (n u:Nat):(be n u).length=n:=by
 induction n with
 | zero=>rfl
 | succ n ih=>simp [be,ih]
def fsz (k:Int):Nat :=
 if k=2\/k=6 then 1 else if k=3\/k=7 then 2 else if k=4\/k=8\/k=10\/k=12\/k=15 then 4
 else if k=5\/k=9\/k=11\/k=13\/k=16 then 8 else 0
def xaU (k:Int):Nat :=
 if k=0 then 0x40 else if k=1 then 0x56 else if k=2 then 0x50 else if k=6 then 0x51 else if k=3 then 0x60 else if k=7 then 0x61
 else if k=4 then 0x70 else if k=8 then 0x71 else if k=10 then 0x72 else if k=15 then 0x73 else if k=12 then 0x74 else if k=5 then 0x80
 else if k=9 then 0x81 else if k=11 then 0x82 else if k=16 then 0x83 else if k=13 then 0x84 else if k=14 then 0x94 else if k=17 then 0x98
 else if k=18 then 0xb0 else if k=19 then 0xb1 else if k=20 then 0xb3 else if k=21 then 0xd0 else if k=22 then 0xd1 else if k=23 then 0xf0 else 0
def xay (k:Int):Prop:=(2<=k/\k<=13)\/k=15\/k=16
def xiz (k:Int):Nat:=if k=18 then 0xa0 else if k=19 then 0xa1 else 0xa3
def xqg (k:Int):Nat:=if k=21 then 0xc0 else if k=22 then 0xc1 else 0xe0
def bytesOf (b:ByteArray):List UInt8:=b.data.toList
def elemCode (k:Int) (c:Nat):Prop:=c=xaU k\/(k=4/\c=0x52)\/(k=5/\c=0x53)\/(k=8/\c=0x54)\/(k=9/\c=0x55)\/(k=18/\c=0xa0)\/(k=19/\c=0xa1)\/(k=20/\c=0xa3)
mutual
inductive Form:V->Nat->List UInt8->Prop
 | null {v:V}:v.kind=0->Form v 0x40 []
 | flag {v:V}:v.kind=1->Form v (0x42 - v.num.toNat) []
 | bool {v:V}:v.kind=1->Form v 0x56 [UInt8.ofNat v.num.toNat]
 | full {v:V}:xay v.kind->Form v (xaU v.kind) (be (fsz v.kind) v.num.toNat)
 | uint0 {v:V}:v.kind=4->v.num=0->Form v 0x43 []
 | ulong0 {v:V}:v.kind=5->v.num=0->Form v 0x44 []
 | uint1 {v:V}:v.kind=4->v.num < 256->Form v 0x52 (be 1 v.num.toNat)
 | ulong1 {v:V}:v.kind=5->v.num < 256->Form v 0x53 (be 1 v.num.toNat)
 | int1 {v:V}:v.kind=8->(v.num < 128\/18446744073709551488<=v.num)->Form v 0x54 (be 1 v.num.toNat)
 | long1 {v:V}:v.kind=9->(v.num < 128\/18446744073709551488<=v.num)->Form v 0x55 (be 1 v.num.toNat)
 | wide {v:V}:(v.kind=14\/v.kind=17)->v.text.size=16->Form v (xaU v.kind) (bytesOf v.text)
 | text1 {v:V}:(v.kind=18\/v.kind=19\/v.kind=20)->v.text.size < 256->Form v (xiz v.kind) (be 1 v.text.size ++ bytesOf v.text)
 | text4 {v:V}:(v.kind=18\/v.kind=19\/v.kind=20)->Form v (xaU v.kind) (be 4 v.text.size ++ bytesOf v.text)
 | list0 {v:V}:v.kind=21->v.kids=[]->Form v 0x45 []
 | kids1 {v:V} {d:List UInt8}:(v.kind=21\/v.kind=22)->EncL v.kids d->v.kids.length < 256->d.length+1 < 256->Form v (xqg v.kind) (be 1 (d.length+1) ++ be 1 v.kids.length ++ d)
 | kids4 {v:V} {d:List UInt8}:(v.kind=21\/v.kind=22)->EncL v.kids d->Form v (xaU v.kind) (be 4 (d.length+4) ++ be 4 v.kids.length ++ d)
 | array1 {v:V} {d:List UInt8}:v.kind=23->xhE v d->v.kids.length < 256->d.length+1 < 256->Form v 0xe0 (be 1 (d.length+1) ++ be 1 v.kids.length ++ d)
 | array4 {v:V} {d:List UInt8}:v.kind=23->xhE v d->Form v 0xf0 (be 4 (d.length+4) ++ be 4 v.kids.length ++ d)
inductive xhE:V->List UInt8->Prop
 | plain {v:V} {c:Nat} {p:List UInt8}:(∀ k,v.kids[0]? = some k->k.desc=[])->c < 256->(∀ k ∈ v.kids,elemCode k.kind c)->xbD v.kids c p->xhE v (UInt8.ofNat c :: p)
 | desc {v k d:V} {c:Nat} {e p:List UInt8}:v.kids[0]? = some k->k.desc=[d]->Enc d e->xbD v.kids c p->xhE v (0 :: (e ++ UInt8.ofNat c :: p))
inductive xbD:List V->Nat->List UInt8->Prop
 | nil {c:Nat}:xbD [] c []
 | cons {v:V} {l:List V} {c:Nat} {p q:List UInt8}:Form v c p->xbD l c q->xbD (v :: l) c (p ++ q)
inductive Enc:V->List UInt8->Prop
 | plain {v:V} {c:Nat} {p:List UInt8}:v.desc=[]->Form v c p->Enc v (UInt8.ofNat c :: p)
 | desc {v d:V} {c:Nat} {e p:List UInt8}:v.desc=[d]->Enc d e->Form v c p->Enc v (0 :: (e ++ UInt8.ofNat c :: p))
inductive EncL:List V->List UInt8->Prop
 | nil:EncL [] []
 | cons {v:V} {l:List V} {p q:List UInt8}:Enc v p->EncL l q->EncL (v :: l) (p ++ q)
end
theorem EncL.snoc {l:List V} {v:V} {p q:List UInt8} (h:EncL l p) (hv:Enc v q):EncL (l ++ [v]) (p ++ q):=by
 induction l generalizing p with
 | nil=>cases h;simpa using EncL.cons hv EncL.nil
 | cons a l ih=>cases h with | cons h1 h2=>simpa using EncL.cons h1 (ih h2)
theorem xbD.snoc {l:List V} {v:V} {c:Nat} {p q:List UInt8} (h:xbD l c p) (hv:Form v c q):xbD (l ++ [v]) c (p ++ q):=by
 induction l generalizing p with
 | nil=>cases h;simpa using xbD.cons hv xbD.nil
 | cons a l ih=>cases h with | cons h1 h2=>simpa using xbD.cons h1 (ih h2)
def V.room (v:V):Nat:=20+v.text.size+(v.kids.attach.map fun k=>V.room k.1).sum+(v.desc.attach.map fun k=>V.room k.1).sum
termination_by SizeOf.sizeOf v
decreasing_by
 ·exact V.sizeOf_kid k.2
 ·exact V.sizeOf_desc k.2
theorem V.room_eq (v:V):v.room=20+v.text.size+sumOf V.room v.kids+sumOf V.room v.desc:=by
 rw [V.room];simp only [xiS]
def V.inner (v:V):Nat:=18+v.text.size+sumOf V.room v.kids
theorem V.room_inner (v:V):v.room=2+v.inner+sumOf V.room v.desc:=by rw [V.room_eq];unfold V.inner;omega
theorem fsz_le (k : Int) : fsz k ≤ 8 := by unfold fsz; repeat' split
                                           all_goals omega
theorem bytesOf_length (b:ByteArray):(bytesOf b).length=b.size:=by unfold bytesOf;rw [Array.length_toList];rfl
theorem xpR (n:Nat):(∀ v c p,SizeOf.sizeOf v<=n->Form v c p->p.length<=v.inner)/\(∀ v p,SizeOf.sizeOf v<=n->Enc v p->p.length<=v.room):=by
 induction n using Nat.strongRecOn with
 | _ n ih =>
  have hL:∀ (l:List V) (p:List UInt8),(∀ k ∈ l,SizeOf.sizeOf k < n)->EncL l p->p.length<=sumOf V.room l:=by
   intro l
   induction l with
   | nil=>intro p _ h;cases h;simp
   | cons a l ihl =>
    intro p hl h
    cases h with
    | cons h1 h2 =>
     have:=(ih (SizeOf.sizeOf a) (hl a (by simp))).2 a _ (Nat.le_refl _) h1;have:=ihl _ (fun k hk=>hl k (by simp [hk])) h2;simp [sumOf];omega
  have hF:∀ (l:List V) (c:Nat) (p:List UInt8),(∀ k ∈ l,SizeOf.sizeOf k < n)->xbD l c p->p.length+sumOf (fun k=>2+sumOf V.room k.desc) l<=sumOf V.room l:=by
   intro l
   induction l with
   | nil=>intro c p _ h;cases h;simp [sumOf]
   | cons a l ihl =>
    intro c p hl h
    cases h with
    | cons h1 h2 =>
     have:=(ih (SizeOf.sizeOf a) (hl a (by simp))).1 a _ _ (Nat.le_refl _) h1;have:=ihl _ _ (fun k hk=>hl k (by simp [hk])) h2;have:=a.room_inner;simp [sumOf];omega
  have hE:∀ (v:V) (d:List UInt8),SizeOf.sizeOf v<=n->xhE v d->d.length<=2+sumOf V.room v.kids:=by
   intro v d hv h;have hk:∀ k ∈ v.kids,SizeOf.sizeOf k < n:=fun k hk=>by have:=V.sizeOf_kid hk;omega
   cases h with
   | plain _ _ _ h=>have:=hF _ _ _ hk h;simp;omega
   | @desc _ k d' c e p h0 h1 h2 h3 =>
    have:=hF _ _ _ hk h3;have hm:k ∈ v.kids:=List.mem_of_getElem? h0;have hm':d' ∈ k.desc:=by rw [h1];simp
    have hd:SizeOf.sizeOf d' < n:=by have:=V.sizeOf_desc hm';have:=hk k hm;omega
    have h4:=(ih _ hd).2 d' _ (Nat.le_refl _) h2;have h5:=xkH (fun k=>2+sumOf V.room k.desc) v.kids k hm;simp only [h1,sumOf] at h5;simp;omega
  have hForm:∀ v c p,SizeOf.sizeOf v<=n->Form v c p->p.length<=v.inner:=by
   intro v c p hv h;have hk:∀ k ∈ v.kids,SizeOf.sizeOf k < n:=fun k hk=>by have:=V.sizeOf_kid hk;omega
   unfold V.inner
   cases h with
   | full _=>have:=fsz_le v.kind;simp;omega
   | wide _ h=>simp [bytesOf_length];omega
   | text1 _ h=>simp [bytesOf_length];omega
   | text4 _=>simp [bytesOf_length];omega
   | kids1 _ h _ _=>have:=hL _ _ hk h;simp;omega
   | kids4 _ h=>have:=hL _ _ hk h;simp;omega
   | array1 _ h _ _=>have:=hE _ _ hv h;simp;omega
   | array4 _ h=>have:=hE _ _ hv h;simp;omega
   | _=>simp <;> omega
  refine ⟨hForm,?_⟩;intro v p hv h;have h0:=v.room_inner
  cases h with
  | plain h1 h2=>have:=hForm _ _ _ hv h2;simp;omega
  | @desc _ d c e p h1 h2 h3 =>
   have:=hForm _ _ _ hv h3;have hd:SizeOf.sizeOf d < n:=by have:=V.sizeOf_desc (v:=v) (k:=d) (by rw [h1];simp);omega
   have:=(ih _ hd).2 d _ (Nat.le_refl _) h2;rw [h1] at h0;simp [sumOf] at h0 ⊢;omega
theorem Form.len {v:V} {c:Nat} {p:List UInt8} (h:Form v c p):p.length<=v.inner:=(xpR (SizeOf.sizeOf v)).1 v c p (Nat.le_refl _) h
theorem Enc.len {v:V} {p:List UInt8} (h:Enc v p):p.length<=v.room:=(xpR (SizeOf.sizeOf v)).2 v p (Nat.le_refl _) h
theorem EncL.len {l:List V} {p:List UInt8} (h:EncL l p):p.length<=sumOf V.room l:=by
 induction l generalizing p with
 | nil=>cases h;simp
 | cons a l ih=>cases h with | cons h1 h2=>have:=h1.len;have:=ih h2;simp [sumOf];omega
theorem xbD.len {l:List V} {c:Nat} {p:List UInt8} (h:xbD l c p):p.length<=sumOf V.inner l:=by
 induction l generalizing p with
 | nil=>cases h;simp
 | cons a l ih=>cases h with | cons h1 h2=>have:=h1.len;have:=ih h2;simp [sumOf];omega
theorem xfZ (l:List V):sumOf V.inner l<=sumOf V.room l:=xjE _ _ _ fun a _=>by have:=a.room_inner;omega
end Go.Proofs.YtmdpodeegdjkeaaGreatDoor
end
section
namespace Go.Proofs.YtmdpodeegdjkeaaGreatDoor
open Go Go.RowKit
def Nope:Nat->Prop:=fun _=>False
def Only (b:Nat):Nat->Prop:=fun k=>k=b
structure Kept (M:Nat->Prop) (w w':World):Prop where
 os:w'.os=w.os
 tape:w'.tape=w.tape
 output:w'.output=w.output
 size:w.heap.size<=w'.heap.size
 block:∀ k,k < w.heap.size->¬ M k->w'.heap[k]? = w.heap[k]?
theorem block_lt {w:World} {k:Nat} {o:Obj} (h:w.heap[k]? = some o):k < w.heap.size:=by
 rcases Nat.lt_or_ge k w.heap.size with h1 | h1
 ·exact h1
 ·rw [Array.getElem?_eq_none h1] at h;cases h
namespace Kept
variable {M M':Nat->Prop} {a b c w w':World}
theorem refl (M) (w:World):Kept M w w:=⟨rfl,rfl,rfl,Nat.le_refl _,fun _ _ _=>rfl⟩
theorem trans (h:Kept M a b) (k:Kept M' b c) (hM:∀ i,i < a.heap.size->M' i->M i):Kept M a c :=
 ⟨k.os.trans h.os,k.tape.trans h.tape,k.output.trans h.output,Nat.le_trans h.size k.size,
  fun i hi hn=>(k.block i (Nat.lt_of_lt_of_le hi h.size) (fun hm=>hn (hM i hi hm))).trans (h.block i hi hn)⟩
theorem trans' (h:Kept M a b) (k:Kept M b c):Kept M a c:=h.trans k fun _ _ h=>h
theorem mono (h:Kept M w w') (hM:∀ i,i < w.heap.size->M i->M' i):Kept M' w w' :=
 ⟨h.os,h.tape,h.output,h.size,fun i hi hn=>h.block i hi fun hm=>hn (hM i hi hm)⟩
theorem nope (h:Kept Nope w w'):Kept M w w':=h.mono fun _ _ h=>h.elim
theorem drew (h:Kept M a w):Kept M a w.drew:=⟨h.os,h.tape,h.output,h.size,h.block⟩
theorem drewN (h:Kept M a w) (n:Nat):Kept M a (w.drewN n):=⟨h.os,h.tape,h.output,h.size,h.block⟩
theorem alloc (h:Kept M a w) (o:Obj):Kept M a (w.alloc o) :=
 ⟨h.os,h.tape,h.output,Nat.le_trans h.size (by simp),fun i hi hn=>(Below.heap_alloc w o i (Nat.lt_of_lt_of_le hi h.size)).trans (h.block i hi hn)⟩
theorem setCell (h:Kept M a w) {p:Addr} (hp:M p.block\/a.heap.size<=p.block) (u:Value):Kept M a (w.setCell p u) :=
 ⟨h.os,h.tape,h.output,by simpa [World.setCell] using h.size,fun i hi hn=>(Below.heap_setCell w p u i (by
  rintro rfl
  rcases hp with hp | hp
  ·exact hn hp
  ·omega)).trans (h.block i hi hn)⟩
theorem set1 {r:Nat} (h:Kept (Only r) a w) (i:Nat) (u:Value):Kept (Only r) a (w.setCell ⟨r,i,none⟩ u):=h.setCell (p:=⟨r,i,none⟩) (.inl (show r=r from rfl)) u
theorem grown {row:Option Nat} (h:Kept M a w) (hg:w.grownBy w' row) (hr:∀ k,row=some k->M k\/a.heap.size<=k):Kept M a w' :=
 ⟨hg.os.trans h.os,hg.tape.trans h.tape,hg.output.trans h.output,Nat.le_trans h.size hg.size,fun i hi hn =>
  (hg.block i (Nat.lt_of_lt_of_le hi h.size) (fun e=>by
   rcases hr i e.symm with h1 | h1
   ·exact hn h1
   ·omega)).trans (h.block i hi hn)⟩
theorem below {B:Nat} (h:Below B a b) (hB:B=a.heap.size):Kept Nope a b:=⟨h.os,h.tape,h.output,h.size,fun i hi _=>h.block i (by omega)⟩
theorem toBelow (h:Kept Nope a b):Below a.heap.size a b:=⟨h.os,h.tape,h.output,h.size,fun i hi=>h.block i hi (fun h=>h)⟩
theorem cell (h:Kept M a b) {p:Addr} {v:Value} (hc:a.cell? p=some v) (hn:¬ M p.block):b.cell? p=some v :=
 (World.cell?_of_block (h.block p.block (World.block_lt_of_cell? a p hc) hn)).trans hc
theorem obj (h:Kept M a b) {k:Nat} {o:Obj} (hc:a.heap[k]? = some o) (hn:¬ M k):b.heap[k]? = some o :=
 (h.block k (block_lt hc) hn).trans hc
theorem ofNew (h:Kept M a b) (hM:∀ i,M i->a.heap.size<=i):Kept Nope a b :=
 h.mono fun i hi hm=>by have:=hM i hm;omega
end Kept
theorem kR (M:Nat->Prop) (w:World):Kept M w w:=Kept.refl M w
def Gives (R:Value->World->Prop):Ending->World->Prop:=fun e w'=>∃ x,e = .returned x/\R x w'
def xac (R:Value->Value->World->Prop):Ending->World->Prop:=fun e w'=>∃ x y,e = .returned (.tuple #[x,y])/\R x y w'
def Drew (w w':World):Prop:=∃ k,w'=w.drewN k
def Blk (w:World) (g:Nat) (t:TypeId) (cs:Array Value):Prop:=w.heap[g]? = some (.cells cs t (0,0))
namespace Blk
variable {M:Nat->Prop} {w w':World} {g:Nat} {t:TypeId} {cs:Array Value}
theorem lt (h:Blk w g t cs):g < w.heap.size:=block_lt h
theorem cell (h:Blk w g t cs) (i:Nat):w.cell? ⟨g,i,none⟩=cs[i]? := cell_of_row w g i cs t (0,0) h
theorem frozen (h:Blk w g t cs) (i:Nat):w.frozen? ⟨g,i,none⟩=false:=by
 unfold Blk at h;simp [World.frozen?,h]
theorem new (w:World) (t:TypeId) (cs:Array Value):Blk (w.alloc (.cells cs t)) w.heap.size t cs:=heap_alloc_new w _
theorem drew (h:Blk w g t cs):Blk w.drew g t cs:=h
theorem drewN (h:Blk w g t cs) (n:Nat):Blk (w.drewN n) g t cs:=h
theorem alloc (h:Blk w g t cs) (o:Obj):Blk (w.alloc o) g t cs:=(Below.heap_alloc w o g h.lt).trans h
theorem set_ (h:Blk w g t cs) (i:Nat) (u:Value):Blk (w.setCell ⟨g,i,none⟩ u) g t (cs.setIfInBounds i u):=by
 unfold Blk at h ⊢;simp [World.setCell,Array.getElem?_modify,h]
theorem far (h:Blk w g t cs) {p:Addr} (hp:g≠p.block) (u:Value):Blk (w.setCell p u) g t cs:=(Below.heap_setCell w p u g hp).trans h
theorem kept (h:Blk w g t cs) (hb:Kept M w w') (hg:¬ M g):Blk w' g t cs:=hb.obj h hg
theorem grown {row:Option Nat} (h:Blk w g t cs) (hb:w.grownBy w' row) (hg:some g≠row):Blk w' g t cs:=(hb.block g h.lt hg).trans h
end Blk
def u8 (x:UInt8):Value:=.int .u8 x.toNat
def BSl (S:Nat->Prop) (w:World) (s:Value) (bs:List UInt8):Prop :=
 ∃ a cap,s = .slice a bs.length cap/\bs.length<=cap/\cap<=maxLen /\
  (bs=[]\/∃ b off,a=some ⟨b,off,none⟩/\S b/\∀ j x,bs[j]? = some x->w.cell? ⟨b,off+j,none⟩=some (u8 x))
namespace BSl
variable {S S' M:Nat->Prop} {w w':World} {s:Value} {bs:List UInt8}
theorem keep (h:BSl S w s bs) (hk:Kept M w w') (hS:∀ b,b < w.heap.size->S b->¬ M b):BSl S w' s bs:=by
 obtain ⟨a,cap,rfl,hc,hm,h⟩:=h;refine ⟨a,cap,rfl,hc,hm,?_⟩
 rcases h with rfl | ⟨b,off,rfl,hb,h⟩
 ·exact .inl rfl
 ·refine .inr ⟨b,off,rfl,hb,fun j x hx=>hk.cell (h j x hx) (hS b ?_ hb)⟩;exact World.block_lt_of_cell? w _ (h j x hx)
theorem mono (h:BSl S w s bs) (hS:∀ b,b < w.heap.size->S b->S' b):BSl S' w s bs:=by
 obtain ⟨a,cap,rfl,hc,hm,h⟩:=h;refine ⟨a,cap,rfl,hc,hm,?_⟩
 rcases h with rfl | ⟨b,off,rfl,hb,h⟩
 ·exact .inl rfl
 ·rcases bs with _ | ⟨x,bs⟩
  ·exact .inl rfl
  ·exact .inr ⟨b,off,rfl,hS b (World.block_lt_of_cell? w _ (h 0 x rfl)) hb,h⟩
theorem nil (a:Option Addr) (cap:Nat) (hc:cap<=maxLen):BSl S w (.slice a 0 cap) []:=⟨a,cap,rfl,by simp,hc,.inl rfl⟩
end BSl
structure VNum (v:V):Prop where
 kind:-9223372036854775808<=v.kind/\v.kind<=9223372036854775807
 num:0<=v.num/\v.num<=18446744073709551615
 text:v.text.size<=maxLen
 of_:-9223372036854775808<=v.of_/\v.of_<=9223372036854775807
inductive VSl (S:Nat->Prop) (w:World):Value->List V->Prop
 | nil (a:Option Addr) (cap:Nat):cap<=maxLen->VSl S w (.slice a 0 cap) []
 | mk (b off cap:Nat) (l:List V) (ks ds:Nat->Value):S b->0 < l.length->l.length<=cap->cap<=maxLen ->
   (∀ i v,l[i]? = some v->VNum v/\w.cell? ⟨b,off+i*6,none⟩=some (.int .i64 v.kind)/\w.cell? ⟨b,off+i*6+1,none⟩=some (.int .u64 v.num) /\
    w.cell? ⟨b,off+i*6+2,none⟩=some (.string v.text)/\w.cell? ⟨b,off+i*6+3,none⟩=some (ks i) /\
    w.cell? ⟨b,off+i*6+4,none⟩=some (.int .i64 v.of_)/\w.cell? ⟨b,off+i*6+5,none⟩=some (ds i)) ->
   (∀ i v,l[i]? = some v->VSl S w (ks i) v.kids)->(∀ i v,l[i]? = some v->VSl S w (ds i) v.desc) ->
   VSl S w (.slice (some ⟨b,off,none⟩) l.length cap) l
def vagg (v:V) (ks ds:Value):Value:=.agg #[.int .i64 v.kind,.int .u64 v.num,.string v.text,ks,.int .i64 v.of_,ds]
def VAgg (S:Nat->Prop) (w:World) (x:Value) (v:V):Prop:=∃ ks ds,x=vagg v ks ds/\VNum v/\VSl S w ks v.kids/\VSl S w ds v.desc
namespace VSl
variable {S S' M:Nat->Prop} {w w':World} {s:Value} {l:List V}
theorem keep (h:VSl S w s l) (hk:Kept M w w') (hS:∀ b,b < w.heap.size->S b->¬ M b):VSl S w' s l:=by
 induction h with
 | nil a cap hc=>exact .nil a cap hc
 | mk b off cap l ks ds hb hl hc hm hcell _ _ ihk ihd =>
  have hn:∀ i v,l[i]? = some v->¬ M b:=fun i v hv=>hS b (World.block_lt_of_cell? w _ (hcell i v hv).2.1) hb
  refine .mk b off cap l ks ds hb hl hc hm (fun i v hv => ?_) ihk ihd;obtain ⟨h0,h1,h2,h3,h4,h5,h6⟩:=hcell i v hv;have:=hn i v hv;exact ⟨h0,hk.cell h1 this,hk.cell h2 this,hk.cell h3 this,hk.cell h4 this,hk.cell h5 this,hk.cell h6 this⟩
theorem mono (h:VSl S w s l) (hS:∀ b,b < w.heap.size->S b->S' b):VSl S' w s l:=by
 induction h with
 | nil a cap hc=>exact .nil a cap hc
 | mk b off cap l ks ds hb hl hc hm hcell _ _ ihk ihd =>
  obtain ⟨v,hv⟩:∃ v,l[0]? = some v:=⟨l[0],List.getElem?_eq_getElem hl⟩
  exact .mk b off cap l ks ds (hS b (World.block_lt_of_cell? w _ (hcell 0 v hv).2.1) hb) hl hc hm hcell ihk ihd
theorem form (h:VSl S w s l):∃ a cap,s = .slice a l.length cap/\l.length<=cap/\cap<=maxLen:=by
 cases h with
 | nil a cap hc=>exact ⟨a,cap,rfl,Nat.zero_le _,hc⟩
 | mk b off cap l ks ds hb hl hc hm=>exact ⟨_,cap,rfl,hc,hm⟩
theorem at_ (h : VSl S w s l) {i : Nat} {v : V} (hv : l[i]? = some v) : ∃ b off cap ks ds, s = .slice (some ⟨b, off, none⟩) l.length cap ∧ S b ∧ l.length ≤ cap ∧ cap ≤ maxLen ∧ VNum v ∧
      w.cell? ⟨b, off + i * 6, none⟩ = some (.int .i64 v.kind) ∧ w.cell? ⟨b, off + i * 6 + 1, none⟩ = some (.int .u64 v.num) ∧
        w.cell? ⟨b, off + i * 6 + 2, none⟩ = some (.string v.text) ∧ w.cell? ⟨b, off + i * 6 + 3, none⟩ = some ks ∧
        w.cell? ⟨b, off + i * 6 + 4, none⟩ = some (.int .i64 v.of_) ∧ w.cell? ⟨b, off + i * 6 + 5, none⟩ = some ds ∧ VSl S w ks v.kids ∧ VSl S w ds v.desc := by
  cases h with
  | nil a cap hc => simp at hv
  | mk b off cap l ks ds hb hl hc hm hcell hk hd =>
    obtain ⟨h0, h1, h2, h3, h4, h5, h6⟩ := hcell i v hv;exact ⟨b, off, cap, ks i, ds i, rfl, hb, hc, hm, h0, h1, h2, h3, h4, h5, h6, hk i v hv, hd i v hv⟩
end VSl
namespace VAgg
variable {S S' M:Nat->Prop} {w w':World} {x:Value} {v:V}
theorem keep (h:VAgg S w x v) (hk:Kept M w w') (hS:∀ b,b < w.heap.size->S b->¬ M b):VAgg S w' x v:=by
 obtain ⟨ks,ds,rfl,hn,h1,h2⟩:=h;exact ⟨ks,ds,rfl,hn,h1.keep hk hS,h2.keep hk hS⟩
theorem mono (h:VAgg S w x v) (hS:∀ b,b < w.heap.size->S b->S' b):VAgg S' w x v:=by
 obtain ⟨ks,ds,rfl,hn,h1,h2⟩:=h;exact ⟨ks,ds,rfl,hn,h1.mono hS,h2.mono hS⟩
end VAgg
end Go.Proofs.YtmdpodeegdjkeaaGreatDoor
end
section
namespace Go.Proofs.YtmdpodeegdjkeaaGreatDoor
open Go Go.RowKit
def CSl (S:Nat->Prop) (w:World) (size:Nat) (s:Value) (n:Nat) (xs:List Value):Prop :=
 xs.length=n*size/\∃ a cap,s = .slice a n cap/\n<=cap/\cap<=maxLen /\
  (n=0\/∃ b off,a=some ⟨b,off,none⟩/\S b/\∀ j u,xs[j]? = some u->w.cell? ⟨b,off+j,none⟩=some u)
theorem BSl.toC {S:Nat->Prop} {w:World} {s:Value} {bs:List UInt8} (h:BSl S w s bs):CSl S w 1 s bs.length (bs.map u8):=by
 obtain ⟨a,cap,rfl,hc,hm,h⟩:=h;refine ⟨by simp,a,cap,rfl,hc,hm,?_⟩
 rcases h with rfl | ⟨b,off,rfl,hb,h⟩
 ·exact .inl rfl
 ·refine .inr ⟨b,off,rfl,hb,fun j u hu => ?_⟩;rw [List.getElem?_map] at hu
  cases hx:bs[j]? with
  | none=>rw [hx] at hu;cases hu
  | some x=>rw [hx] at hu;simp at hu;subst hu;exact h j x hx
theorem BSl.ofOwn {w:World} {base:Nat} {e:TypeId} {v:Value} {bs:List UInt8} (h:w.ownsRow base e 1 v bs.length (bs.map u8)):BSl (fun b=>v.ownBlock=some b) w v bs:=by
 rcases h.2 with ⟨rfl,h0⟩ | ⟨g,cap,cur,rfl,_,hg,hn,hm,_,_⟩
 ·have:bs=[]:=List.eq_nil_of_length_eq_zero h0;subst this;exact BSl.nil _ _ (by simp [maxLen])
 ·refine ⟨_,cap,rfl,hn,hm,.inr ⟨g,0,rfl,rfl,fun j x hx => ?_⟩⟩;have:=h.cells (g:=g) rfl j (u8 x) (by rw [List.getElem?_map,hx];rfl);rw [Addr.add_lit] at this;exact this
theorem BSl.cut {S:Nat->Prop} {w:World} {a:Option Addr} {n c l h:Nat} {bs:List UInt8} (hb:BSl S w (.slice a n c) bs) (hl:l<=h) (hh:h<=n) :
    BSl S w (.slice (if c=l then a else Option.map (fun x=>x.add l) a) (h - l) (c - l)) ((bs.drop l).take (h - l)):=by
  obtain ⟨a',c',e,hc,hm,hb⟩:=hb;injection e with e1 e2 e3
  subst e1 e2 e3;have hlen:((bs.drop l).take (h - l)).length=h - l:=by simp;omega
  refine ⟨_,c - l,by rw [hlen],by rw [hlen];omega,by omega,?_⟩
  rcases Nat.lt_or_ge l h with hlt | hge
  . rcases hb with rfl | ⟨b,off,rfl,hS,hb⟩
    . simp at hh;omega
    . refine .inr ⟨b,off+l,by rw [if_neg (by omega)];simp [Addr.add_lit],hS,fun j x hx => ?_⟩
      rw [List.getElem?_take] at hx
      split at hx
      . rw [List.getElem?_drop] at hx
        have:=hb _ _ hx;rw [<- Nat.add_assoc] at this;exact this
      . cases hx
  . left
    apply List.eq_nil_of_length_eq_zero;omega
theorem BSl.from_ {S:Nat->Prop} {w:World} {a:Option Addr} {n c l:Nat} {bs:List UInt8} (hb:BSl S w (.slice a n c) bs) (hl:l<=n) :
  BSl S w (.slice (if c=l then a else Option.map (fun x=>x.add l) a) (n - l) (c - l)) (bs.drop l):=by
 have hn:n=bs.length:=by obtain ⟨a',c',e,_⟩:=hb;injection e
 have h:=hb.cut hl (Nat.le_refl n);rwa [List.take_of_length_le (by simp;omega)] at h
theorem BSl.at_ {S:Nat->Prop} {w:World} {s:Value} {bs:List UInt8} (hb:BSl S w s bs) {j:Nat} {x:UInt8} (hx:bs[j]? = some x) :
  ∃ b off c,s = .slice (some ⟨b,off,none⟩) bs.length c/\S b/\bs.length<=c/\c<=maxLen/\w.cell? ⟨b,off+j,none⟩=some (u8 x):=by
 obtain ⟨a,c,rfl,hc,hm,hb⟩:=hb
 rcases hb with rfl | ⟨b,off,rfl,hS,hb⟩
 ·simp at hx
 ·exact ⟨b,off,c,rfl,hS,hc,hm,hb j x hx⟩
section
variable {P:Program} (w:World)
theorem xgy (base:Nat) (t ty e:TypeId) (i:TypeInfo) (size:Nat) (ht:P.underlying t=some (.slice e)) (hi:P.info? e=some i)
  (v:Value) (n:Nat) (xs:List Value) (hown:w.ownsRow base e size v n xs) (c:Nat):(Builtin.append_ #[t,t] ty #[v,.slice none 0 c]).run P w = .ok v w:=by
 rcases hown.2 with ⟨rfl,rfl⟩ | ⟨g,cap,cur,rfl,_,_,hnc,_⟩
 ·simp [Builtin.append_,run_underlying ht,sizeOf,typeInfo,hi,Builtin.lenOf,Builtin.firstCells]
 ·simp [Builtin.append_,run_underlying ht,sizeOf,typeInfo,hi,Builtin.lenOf,Builtin.firstCells,hnc,storeCells]
theorem xkI (base:Nat) (t ty e:TypeId) (i:TypeInfo) (z:Value) (size bytes:Nat) (ht:P.underlying t=some (.slice e)) (hi:P.info? e=some i) (hz:i.zero=some z)
    (hsize:i.size=size) (hby:i.bytes=bytes) (hzs:z.cells.size=size) (hsz:0 < size)
    (v:Value) (n:Nat) (xs:List Value) (hown:w.ownsRow base e size v n xs)
    (S:Nat->Prop) (s:Value) (m:Nat) (news:List Value) (hr:CSl S w size s m news) (h1:∀ u ∈ news,u.oneCell'=true)
    (h63:n+m<=maxLen) (hbytes:(n+m)*bytes<=140737488355328) (hbase:base<=w.heap.size) :
    ∃ v' w',(Builtin.append_ #[t,t] ty #[v,s]).run P w = .ok v' w'/\w'.ownsRow base e size v' (n+m) (xs ++ news)/\w.grownBy w' v.ownBlock /\
      (v'.ownBlock=v.ownBlock\/v'.ownBlock=some w.heap.size):=by
  obtain ⟨hl,A,c,rfl,_,_,hr⟩:=hr
  have h0:∀ ad:Addr,m=0->∀ j u,news[j]? = some u->w.cell? (ad.add j)=some u:=by
    intro ad h0 j u hu;have hn:news=[]:=List.eq_nil_of_length_eq_zero (by rw [hl,h0];simp);subst hn;simp at hu
  rcases A with _ | ad
  . have hm:m=0:=by
      rcases hr with h0 | ⟨b,off,h,_⟩
      . exact h0
      . cases h
    subst hm;have hn:news=[]:=List.eq_nil_of_length_eq_zero (by rw [hl];simp);subst hn;exact ⟨v,w,xgy w base t ty e i size ht hi v n xs hown c,by simpa using hown,World.grownBy.refl w _,.inl rfl⟩
  . have hcells:∀ j u,news[j]? = some u->w.cell? (ad.add j)=some u:=by
      rcases hr with hm | ⟨b,off,h,_,hc⟩
      . exact h0 ad hm
      . injection h with h
        subst h;intro j u hu;rw [Addr.add_lit];exact hc j u hu
    obtain ⟨v',w',hrun,h2,h3,_,h5⟩:=run_append_own_at (P:=P) w base t ty e i z size bytes ht hi hz hsize hby hzs hsz v n xs hown ad m c news hl hcells h1 h63 hbytes hbase;exact ⟨v',w',hrun,h2,h3,h5⟩
theorem xaG {o:Oper} {a:Act} {K:Act->World->Prop} {Q:Exit->Act->World->Prop} (s x:Operand) (t:TypeId)
  (ho:o.op = .call { callee:=.builtin .append,args:=#[s,x],argTypes:=#[t,t] })
  (base:Nat) (e:TypeId) (i:TypeInfo) (z:Value) (size bytes:Nat) (ht:P.underlying t=some (.slice e)) (hi:P.info? e=some i) (hz:i.zero=some z)
  (hsize:i.size=size) (hby:i.bytes=bytes) (hzs:z.cells.size=size) (hsz:0 < size)
  (v:Value) (n:Nat) (xs:List Value) (hs:a.eval s=v) (hown:w.ownsRow base e size v n xs)
  (S:Nat->Prop) (sv:Value) (m:Nat) (news:List Value) (hx:a.eval x=sv) (hr:CSl S w size sv m news) (h1:∀ u ∈ news,u.oneCell'=true)
  (h63:n+m<=maxLen) (hbytes:(n+m)*bytes<=140737488355328) (hbase:base<=w.heap.size)
  (h:∀ v' w',w'.ownsRow base e size v' (n+m) (xs ++ news)->w.grownBy w' v.ownBlock->(v'.ownBlock=v.ownBlock\/v'.ownBlock=some w.heap.size)->K (a.put o.dst v') w'):o.wp P a w K Q:=by
 obtain ⟨v',w',hrun,h2,h3,h4⟩:=xkI (P:=P) w base t o.type e i z size bytes ht hi hz hsize hby hzs hsz v n xs hown S sv m news hr h1 h63 hbytes hbase;unfold Oper.wp execOp;simp only [ho,resolve,invoke,builtin,Sem.run_bind,Sem.run_pure,Result.andThen_ok,List.map_toArray,List.map_cons,List.map_nil,hs,hx,hrun];exact h v' w' h2 h3 h4
theorem xae {ops:Array Oper} {rest:List Oper} {o:Oper} {a:Act} {Q:Exit->Act->World->Prop} (hgd:o.guard=none) (s x:Operand) (t:TypeId)
  (ho:o.op = .call { callee:=.builtin .append,args:=#[s,x],argTypes:=#[t,t] })
  (base:Nat) (e:TypeId) (i:TypeInfo) (z:Value) (size bytes:Nat) (ht:P.underlying t=some (.slice e)) (hi:P.info? e=some i) (hz:i.zero=some z)
  (hsize:i.size=size) (hby:i.bytes=bytes) (hzs:z.cells.size=size) (hsz:0 < size)
  (v:Value) (n:Nat) (xs:List Value) (hs:a.eval s=v) (hown:w.ownsRow base e size v n xs)
  (S:Nat->Prop) (sv:Value) (m:Nat) (news:List Value) (hx:a.eval x=sv) (hr:CSl S w size sv m news) (h1:∀ u ∈ news,u.oneCell'=true)
  (h63:n+m<=maxLen) (hbytes:(n+m)*bytes<=140737488355328) (hbase:base<=w.heap.size)
  (h:∀ v' w',w'.ownsRow base e size v' (n+m) (xs ++ news)->w.grownBy w' v.ownBlock->(v'.ownBlock=v.ownBlock\/v'.ownBlock=some w.heap.size)->wpList P ops Q rest (a.put o.dst v') w'):wpList P ops Q (o :: rest) a w :=
 wpList_plain hgd fun _ hK=>xaG w s x t ho base e i z size bytes ht hi hz hsize hby hzs hsz v n xs hs hown S sv m news hx hr h1 h63 hbytes hbase fun v' w' h2 h3 h4=>hK _ _ (h v' w' h2 h3 h4)
end
end Go.Proofs.YtmdpodeegdjkeaaGreatDoor
end
section
namespace Go.Proofs
open Go.Shelf
def Tryz.laysBin36_ren:Go.Shelf.Ren:=⟨fun | 36=>184 | n=>n,fun | 37=>308 | 22=>26 | 23=>100 | 0=>0 | 5=>5 | 45=>164 | n=>n,fun | n=>n⟩
theorem Tryz.laysBin36:Go.Proofs.LaysBin.n36 Tryz.prog Tryz.laysBin36_ren:={
 mixed:=by kernel_rfl
 f36:=Tryz.func184.trans (congrArg some (by kernel_rfl))
 t0:=Tryz.underlying0
 a0:=Tryz.isAgg0
 z0:=Tryz.sizeOf0
 v0:=Tryz.zeroValue0
 i0:=by kernel_rfl
 t5:=Tryz.underlying5
 a5:=Tryz.isAgg5
 z5:=Tryz.sizeOf5
 v5:=Tryz.zeroValue5
 i5:=by kernel_rfl
 t22:=Tryz.underlying26
 a22:=Tryz.isAgg26
 z22:=Tryz.sizeOf26
 v22:=Tryz.zeroValue26
 i22:=by kernel_rfl
 t23:=Tryz.underlying100
 a23:=Tryz.isAgg100
 z23:=Tryz.sizeOf100
 v23:=Tryz.zeroValue100
 i23:=by kernel_rfl
 t37:=Tryz.underlying308
 a37:=Tryz.isAgg308
 z37:=Tryz.sizeOf308
 v37:=Tryz.zeroValue308
 i37:=by kernel_rfl
 t45:=Tryz.underlying164
 a45:=Tryz.isAgg164
 z45:=Tryz.sizeOf164
 v45:=Tryz.zeroValue164
 i45:=by kernel_rfl }
open Go.RowKit in
theorem Tryz.binary_BE_Uint16 (g o n c:Nat) (b0 b1:UInt8) (w:World) (hn:2<=n) (c0:w.cell? ⟨g,o,none⟩=some (.int .u8 b0.toNat)) (c1:w.cell? ⟨g,o+1,none⟩=some (.int .u8 b1.toNat)) :
  Calls Tryz.prog 184 #[.agg #[],.slice (some ⟨g,o,none⟩) n c] w fun e w'=>e = .returned (.int .u16 (Lib.beNat [b0,b1]))/\Below w.heap.size w w':=Any.binary_BE_Uint16 Tryz.laysBin36 g o n c b0 b1 w hn c0 c1
def Tryz.laysBin39_ren:Go.Shelf.Ren:=⟨fun | 39=>162 | n=>n,fun | 37=>308 | 22=>26 | 29=>101 | 0=>0 | 5=>5 | 45=>164 | n=>n,fun | n=>n⟩
theorem Tryz.laysBin39:Go.Proofs.LaysBin.n39 Tryz.prog Tryz.laysBin39_ren:={
 mixed:=by kernel_rfl
 f39:=Tryz.func162.trans (congrArg some (by kernel_rfl))
 t0:=Tryz.underlying0
 a0:=Tryz.isAgg0
 z0:=Tryz.sizeOf0
 v0:=Tryz.zeroValue0
 i0:=by kernel_rfl
 t5:=Tryz.underlying5
 a5:=Tryz.isAgg5
 z5:=Tryz.sizeOf5
 v5:=Tryz.zeroValue5
 i5:=by kernel_rfl
 t22:=Tryz.underlying26
 a22:=Tryz.isAgg26
 z22:=Tryz.sizeOf26
 v22:=Tryz.zeroValue26
 i22:=by kernel_rfl
 t29:=Tryz.underlying101
 a29:=Tryz.isAgg101
 z29:=Tryz.sizeOf101
 v29:=Tryz.zeroValue101
 i29:=by kernel_rfl
 t37:=Tryz.underlying308
 a37:=Tryz.isAgg308
 z37:=Tryz.sizeOf308
 v37:=Tryz.zeroValue308
 i37:=by kernel_rfl
 t45:=Tryz.underlying164
 a45:=Tryz.isAgg164
 z45:=Tryz.sizeOf164
 v45:=Tryz.zeroValue164
 i45:=by kernel_rfl }
open Go.RowKit in
theorem Tryz.binary_BE_Uint32 (g o n c:Nat) (b0 b1 b2 b3:UInt8) (w:World) (hn:4<=n) (c0:w.cell? ⟨g,o,none⟩=some (.int .u8 b0.toNat)) (c1:w.cell? ⟨g,o+1,none⟩=some (.int .u8 b1.toNat)) (c2:w.cell? ⟨g,o+2,none⟩=some (.int .u8 b2.toNat)) (c3:w.cell? ⟨g,o+3,none⟩=some (.int .u8 b3.toNat)) :
  Calls Tryz.prog 162 #[.agg #[],.slice (some ⟨g,o,none⟩) n c] w fun e w'=>e = .returned (.int .u32 (Lib.beNat [b0,b1,b2,b3]))/\Below w.heap.size w w':=Any.binary_BE_Uint32 Tryz.laysBin39 g o n c b0 b1 b2 b3 w hn c0 c1 c2 c3
def Tryz.laysBin42_ren:Go.Shelf.Ren:=⟨fun | 42=>167 | n=>n,fun | 37=>308 | 22=>26 | 33=>22 | 0=>0 | 5=>5 | 45=>164 | n=>n,fun | n=>n⟩
theorem Tryz.laysBin42:Go.Proofs.LaysBin.n42 Tryz.prog Tryz.laysBin42_ren:={
 mixed:=by kernel_rfl
 f42:=Tryz.func167.trans (congrArg some (by kernel_rfl))
 t0:=Tryz.underlying0
 a0:=Tryz.isAgg0
 z0:=Tryz.sizeOf0
 v0:=Tryz.zeroValue0
 i0:=by kernel_rfl
 t5:=Tryz.underlying5
 a5:=Tryz.isAgg5
 z5:=Tryz.sizeOf5
 v5:=Tryz.zeroValue5
 i5:=by kernel_rfl
 t22:=Tryz.underlying26
 a22:=Tryz.isAgg26
 z22:=Tryz.sizeOf26
 v22:=Tryz.zeroValue26
 i22:=by kernel_rfl
 t33:=Tryz.underlying22
 a33:=Tryz.isAgg22
 z33:=Tryz.sizeOf22
 v33:=Tryz.zeroValue22
 i33:=by kernel_rfl
 t37:=Tryz.underlying308
 a37:=Tryz.isAgg308
 z37:=Tryz.sizeOf308
 v37:=Tryz.zeroValue308
 i37:=by kernel_rfl
 t45:=Tryz.underlying164
 a45:=Tryz.isAgg164
 z45:=Tryz.sizeOf164
 v45:=Tryz.zeroValue164
 i45:=by kernel_rfl }
open Go.RowKit in
theorem Tryz.binary_BE_Uint64 (g o n c:Nat) (b0 b1 b2 b3 b4 b5 b6 b7:UInt8) (w:World) (hn:8<=n) (c0:w.cell? ⟨g,o,none⟩=some (.int .u8 b0.toNat)) (c1:w.cell? ⟨g,o+1,none⟩=some (.int .u8 b1.toNat)) (c2:w.cell? ⟨g,o+2,none⟩=some (.int .u8 b2.toNat)) (c3:w.cell? ⟨g,o+3,none⟩=some (.int .u8 b3.toNat)) (c4:w.cell? ⟨g,o+4,none⟩=some (.int .u8 b4.toNat)) (c5:w.cell? ⟨g,o+5,none⟩=some (.int .u8 b5.toNat)) (c6:w.cell? ⟨g,o+6,none⟩=some (.int .u8 b6.toNat)) (c7:w.cell? ⟨g,o+7,none⟩=some (.int .u8 b7.toNat)) :
  Calls Tryz.prog 167 #[.agg #[],.slice (some ⟨g,o,none⟩) n c] w fun e w'=>e = .returned (.int .u64 (Lib.beNat [b0,b1,b2,b3,b4,b5,b6,b7]))/\Below w.heap.size w w':=Any.binary_BE_Uint64 Tryz.laysBin42 g o n c b0 b1 b2 b3 b4 b5 b6 b7 w hn c0 c1 c2 c3 c4 c5 c6 c7
end Go.Proofs
end
