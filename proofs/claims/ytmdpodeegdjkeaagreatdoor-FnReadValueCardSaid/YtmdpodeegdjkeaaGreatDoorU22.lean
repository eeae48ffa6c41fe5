/- Part 22 of the proof of the readers and the guards. No conditions. -/
import Derived.Test.YtmdpodeegdjkeaaGreatDoorU0
import Derived.Test.YtmdpodeegdjkeaaGreatDoorU5
import Derived.Test.YtmdpodeegdjkeaaGreatDoorU21
set_option maxRecDepth 100000
set_option maxHeartbeats 3200000
namespace Go.Proofs.YtmdpodeegdjkeaaGreatDoor
open Go Go.RowKit Go.Lib Tryz
section
def RdPost (w:World) (r:Nat) (s:Value) (D:List UInt8) (j:Nat) (v:V):Value->Value->World->Prop:=fun x e w'=>e = .nilIface/\AnyV (xaf w) w' x (asRead v)/\At_ w w' r s D j
def RA (w:World) (r:Nat) (s:Value) (D:List UInt8) (j:Nat) (v:V):Prop:=Calls prog 53 #[.pointer (some ⟨r,0,none⟩)] w (xac (RdPost w r s D j v))
theorem xqh (u:Nat):Lib.beNat (be 2 u)=u % 65536:=xke 2 u
theorem xcT (u:Nat):Lib.beNat (be 4 u)=u % 4294967296:=xke 4 u
theorem xlA (u:Nat):Lib.beNat (be 8 u)=u % 18446744073709551616:=xke 8 u
theorem xgU (u:Nat):(UInt8.ofNat (u / 256 ^ 0 % 256)).toNat=u % 256:=by simp
theorem xaA {v:V} {k:Int} (hk:v.kind=k) (h20:k≠20):(asRead v).kind=k/\(asRead v).num=v.num:=by
 rw [xaw,xgR,hk,if_neg h20];exact ⟨rfl,rfl⟩
section
variable (w:World) (r:Nat) (s:Value) (D:List UInt8) (i:Nat) (v:V)
theorem RA_50 (hk:v.kind=2) (t:Tidy v) (h:Buf w r s D i) (hl:Lies D i (80 :: be 1 v.num.toNat)):RA w r s D (i+2) v:=by
 have tp:=t.pos;have hr:raw (asRead v) = .int .u8 v.num:=by simp [raw,xaA hk (by decide)]
 refine (xee r s D i w 80 (by decide) h hl.head (fun x e w'=>e = .nilIface/\x=raw (asRead v)/\At_ w w' r s D (i+2)) (fun W hW=>(xme r s D i W _ hW.buf (hl 0 _ rfl) (hl 1 _ rfl)).mono ?_)).mono ?_
 ·rintro e w' ⟨rfl,hA⟩;refine ⟨_,_,rfl,rfl,?_,hW.trans hA⟩;rw [hr];have h1:=t.n1 hk;rw [xgU];congr 1;omega
 ·rintro e w' ⟨y,z,rfl,x,rfl,rfl,rfl,hA⟩;refine ⟨_,_,rfl,rfl,?_,hA⟩;have hT:rtype (asRead v).kind=5:=by rw [(xaA hk (by decide)).1];rfl
  rw [<- hT];exact .scal (by rw [(xaA hk (by decide)).1];unfold xaj;omega)
theorem RA_60 (hk:v.kind=3) (t:Tidy v) (h:Buf w r s D i) (hl:Lies D i (96 :: be 2 v.num.toNat)):RA w r s D (i+3) v:=by
 have tp:=t.pos;have hr:raw (asRead v) = .int .u16 v.num:=by simp [raw,xaA hk (by decide)]
 refine (xdH r s D i w 96 (by decide) h hl.head (fun x e w'=>e = .nilIface/\x=raw (asRead v)/\At_ w w' r s D (i+3)) (fun W hW=>(xjG r s D i W _ _ hW.buf (hl 0 _ rfl) (hl 1 _ rfl) (hl 2 _ rfl)).mono ?_)).mono ?_
 ·rintro e w' ⟨rfl,hA⟩;refine ⟨_,_,rfl,rfl,?_,hW.trans hA⟩;rw [hr];have h1:=t.n2 hk;have h2:=xqh v.num.toNat;refine congrArg _ ((congrArg Int.ofNat h2).trans ?_);show ((_:Nat):Int)=_;omega
 ·rintro e w' ⟨y,z,rfl,x,rfl,rfl,rfl,hA⟩;refine ⟨_,_,rfl,rfl,?_,hA⟩;have hT:rtype (asRead v).kind=100:=by rw [(xaA hk (by decide)).1];rfl
  rw [<- hT];exact .scal (by rw [(xaA hk (by decide)).1];unfold xaj;omega)
theorem RA_70 (hk:v.kind=4) (t:Tidy v) (h:Buf w r s D i) (hl:Lies D i (112 :: be 4 v.num.toNat)):RA w r s D (i+5) v:=by
 have tp:=t.pos;have hr:raw (asRead v) = .int .u32 v.num:=by simp [raw,xaA hk (by decide)]
 refine (xbI r s D i w 112 (by decide) h hl.head (fun x e w'=>e = .nilIface/\x=raw (asRead v)/\At_ w w' r s D (i+5)) (fun W hW=>(xjH r s D i W _ _ _ _ hW.buf (hl 0 _ rfl) (hl 1 _ rfl) (hl 2 _ rfl) (hl 3 _ rfl) (hl 4 _ rfl)).mono ?_)).mono ?_
 ·rintro e w' ⟨rfl,hA⟩;refine ⟨_,_,rfl,rfl,?_,hW.trans hA⟩;rw [hr];have h1:=t.n4 (.inl hk);have h2:=xcT v.num.toNat;refine congrArg _ ((congrArg Int.ofNat h2).trans ?_);show ((_:Nat):Int)=_;omega
 ·rintro e w' ⟨y,z,rfl,x,rfl,rfl,rfl,hA⟩;refine ⟨_,_,rfl,rfl,?_,hA⟩;have hT:rtype (asRead v).kind=101:=by rw [(xaA hk (by decide)).1];rfl
  rw [<- hT];exact .scal (by rw [(xaA hk (by decide)).1];unfold xaj;omega)
theorem RA_80 (hk:v.kind=5) (t:Tidy v) (h:Buf w r s D i) (hl:Lies D i (128 :: be 8 v.num.toNat)):RA w r s D (i+9) v:=by
 have tp:=t.pos;have hr:raw (asRead v) = .int .u64 v.num:=by simp [raw,xaA hk (by decide)]
 refine (xbO r s D i w 128 (by decide) h hl.head (fun x e w'=>e = .nilIface/\x=raw (asRead v)/\At_ w w' r s D (i+9)) (fun W hW=>(xkL r s D i W _ _ _ _ _ _ _ _ hW.buf (hl 0 _ rfl) (hl 1 _ rfl) (hl 2 _ rfl) (hl 3 _ rfl) (hl 4 _ rfl) (hl 5 _ rfl) (hl 6 _ rfl) (hl 7 _ rfl) (hl 8 _ rfl)).mono ?_)).mono ?_
 ·rintro e w' ⟨rfl,hA⟩;refine ⟨_,_,rfl,rfl,?_,hW.trans hA⟩;rw [hr];have h2:=xlA v.num.toNat;refine congrArg _ ((congrArg Int.ofNat h2).trans ?_);show ((_:Nat):Int)=_;omega
 ·rintro e w' ⟨y,z,rfl,x,rfl,rfl,rfl,hA⟩;refine ⟨_,_,rfl,rfl,?_,hA⟩;have hT:rtype (asRead v).kind=22:=by rw [(xaA hk (by decide)).1];rfl
  rw [<- hT];exact .scal (by rw [(xaA hk (by decide)).1];unfold xaj;omega)
theorem RA_51 (hk:v.kind=6) (t:Tidy v) (h:Buf w r s D i) (hl:Lies D i (81 :: be 1 v.num.toNat)):RA w r s D (i+2) v:=by
 have tp:=t.pos;have hr:raw (asRead v) = .int .i8 (sint v.num):=by simp [raw,xaA hk (by decide)]
 refine (xec r s D i w 81 (by decide) h hl.head (fun x e w'=>e = .nilIface/\x=raw (asRead v)/\At_ w w' r s D (i+2)) (fun W hW=>(xkP r s D i W _ hW.buf (hl 0 _ rfl) (hl 1 _ rfl)).mono ?_)).mono ?_
 ·rintro e w' ⟨rfl,hA⟩;refine ⟨_,_,rfl,rfl,?_,hW.trans hA⟩;rw [hr];rw [xgU];exact congrArg _ (sg_8 tp.1 tp.2 (t.s1 hk))
 ·rintro e w' ⟨y,z,rfl,x,rfl,rfl,rfl,hA⟩;refine ⟨_,_,rfl,rfl,?_,hA⟩;have hT:rtype (asRead v).kind=102:=by rw [(xaA hk (by decide)).1];rfl
  rw [<- hT];exact .scal (by rw [(xaA hk (by decide)).1];unfold xaj;omega)
theorem RA_61 (hk:v.kind=7) (t:Tidy v) (h:Buf w r s D i) (hl:Lies D i (97 :: be 2 v.num.toNat)):RA w r s D (i+3) v:=by
 have tp:=t.pos;have hr:raw (asRead v) = .int .i16 (sint v.num):=by simp [raw,xaA hk (by decide)]
 refine (xeb r s D i w 97 (by decide) h hl.head (fun x e w'=>e = .nilIface/\x=raw (asRead v)/\At_ w w' r s D (i+3)) (fun W hW=>(xkO r s D i W _ _ hW.buf (hl 0 _ rfl) (hl 1 _ rfl) (hl 2 _ rfl)).mono ?_)).mono ?_
 ·rintro e w' ⟨rfl,hA⟩;refine ⟨_,_,rfl,rfl,?_,hW.trans hA⟩;rw [hr];exact congrArg _ ((congrArg (sg 16) (xqh v.num.toNat)).trans (sg_16 tp.1 tp.2 (t.s2 hk)))
 ·rintro e w' ⟨y,z,rfl,x,rfl,rfl,rfl,hA⟩;refine ⟨_,_,rfl,rfl,?_,hA⟩;have hT:rtype (asRead v).kind=103:=by rw [(xaA hk (by decide)).1];rfl
  rw [<- hT];exact .scal (by rw [(xaA hk (by decide)).1];unfold xaj;omega)
theorem RA_71 (hk:v.kind=8) (t:Tidy v) (h:Buf w r s D i) (hl:Lies D i (113 :: be 4 v.num.toNat)):RA w r s D (i+5) v:=by
 have tp:=t.pos;have hr:raw (asRead v) = .int .i32 (sint v.num):=by simp [raw,xaA hk (by decide)]
 refine (xcl r s D i w 113 (by decide) h hl.head (fun x e w'=>e = .nilIface/\x=raw (asRead v)/\At_ w w' r s D (i+5)) (fun W hW=>(xkQ r s D i W _ _ _ _ hW.buf (hl 0 _ rfl) (hl 1 _ rfl) (hl 2 _ rfl) (hl 3 _ rfl) (hl 4 _ rfl)).mono ?_)).mono ?_
 ·rintro e w' ⟨rfl,hA⟩;refine ⟨_,_,rfl,rfl,?_,hW.trans hA⟩;rw [hr];exact congrArg _ ((congrArg (sg 32) (xcT v.num.toNat)).trans (sg_32 tp.1 tp.2 (t.s4 hk)))
 ·rintro e w' ⟨y,z,rfl,x,rfl,rfl,rfl,hA⟩;refine ⟨_,_,rfl,rfl,?_,hA⟩;have hT:rtype (asRead v).kind=21:=by rw [(xaA hk (by decide)).1];rfl
  rw [<- hT];exact .scal (by rw [(xaA hk (by decide)).1];unfold xaj;omega)
theorem RA_81 (hk:v.kind=9) (t:Tidy v) (h:Buf w r s D i) (hl:Lies D i (129 :: be 8 v.num.toNat)):RA w r s D (i+9) v:=by
 have tp:=t.pos;have hr:raw (asRead v) = .int .i64 (sint v.num):=by simp [raw,xaA hk (by decide)]
 refine (xcs r s D i w 129 (by decide) h hl.head (fun x e w'=>e = .nilIface/\x=raw (asRead v)/\At_ w w' r s D (i+9)) (fun W hW=>(xmN r s D i W _ _ _ _ _ _ _ _ hW.buf (hl 0 _ rfl) (hl 1 _ rfl) (hl 2 _ rfl) (hl 3 _ rfl) (hl 4 _ rfl) (hl 5 _ rfl) (hl 6 _ rfl) (hl 7 _ rfl) (hl 8 _ rfl)).mono ?_)).mono ?_
 ·rintro e w' ⟨rfl,hA⟩;refine ⟨_,_,rfl,rfl,?_,hW.trans hA⟩;rw [hr];exact congrArg _ ((congrArg (sg 64) (xlA v.num.toNat)).trans (sg_64 tp.1 tp.2))
 ·rintro e w' ⟨y,z,rfl,x,rfl,rfl,rfl,hA⟩;refine ⟨_,_,rfl,rfl,?_,hA⟩;have hT:rtype (asRead v).kind=2:=by rw [(xaA hk (by decide)).1];rfl
  rw [<- hT];exact .scal (by rw [(xaA hk (by decide)).1];unfold xaj;omega)
theorem RA_72 (hk:v.kind=10) (t:Tidy v) (h:Buf w r s D i) (hl:Lies D i (114 :: be 4 v.num.toNat)):RA w r s D (i+5) v:=by
 have tp:=t.pos;have hr:raw (asRead v) = .float .f32 v.num.toNat:=by simp [raw,xaA hk (by decide)]
 refine (xed r s D i w 114 (by decide) h hl.head (fun x e w'=>e = .nilIface/\x=raw (asRead v)/\At_ w w' r s D (i+5)) (fun W hW=>(xkS r s D i W _ _ _ _ hW.buf (hl 0 _ rfl) (hl 1 _ rfl) (hl 2 _ rfl) (hl 3 _ rfl) (hl 4 _ rfl)).mono ?_)).mono ?_
 ·rintro e w' ⟨rfl,hA⟩;refine ⟨_,_,rfl,rfl,?_,hW.trans hA⟩;rw [hr];have h1:=t.n4 (.inr hk);have h2:=xcT v.num.toNat;refine congrArg _ (h2.trans ?_);omega
 ·rintro e w' ⟨y,z,rfl,x,rfl,rfl,rfl,hA⟩;refine ⟨_,_,rfl,rfl,?_,hA⟩;have hT:rtype (asRead v).kind=104:=by rw [(xaA hk (by decide)).1];rfl
  rw [<- hT];exact .scal (by rw [(xaA hk (by decide)).1];unfold xaj;omega)
theorem RA_82 (hk:v.kind=11) (t:Tidy v) (h:Buf w r s D i) (hl:Lies D i (130 :: be 8 v.num.toNat)):RA w r s D (i+9) v:=by
 have tp:=t.pos;have hr:raw (asRead v) = .float .f64 v.num.toNat:=by simp [raw,xaA hk (by decide)]
 refine (xdI r s D i w 130 (by decide) h hl.head (fun x e w'=>e = .nilIface/\x=raw (asRead v)/\At_ w w' r s D (i+9)) (fun W hW=>(xjK r s D i W _ _ _ _ _ _ _ _ hW.buf (hl 0 _ rfl) (hl 1 _ rfl) (hl 2 _ rfl) (hl 3 _ rfl) (hl 4 _ rfl) (hl 5 _ rfl) (hl 6 _ rfl) (hl 7 _ rfl) (hl 8 _ rfl)).mono ?_)).mono ?_
 ·rintro e w' ⟨rfl,hA⟩;refine ⟨_,_,rfl,rfl,?_,hW.trans hA⟩;rw [hr];have h2:=xlA v.num.toNat;refine congrArg _ (h2.trans ?_);omega
 ·rintro e w' ⟨y,z,rfl,x,rfl,rfl,rfl,hA⟩;refine ⟨_,_,rfl,rfl,?_,hA⟩;have hT:rtype (asRead v).kind=106:=by rw [(xaA hk (by decide)).1];rfl
  rw [<- hT];exact .scal (by rw [(xaA hk (by decide)).1];unfold xaj;omega)
theorem RA_83 (hk:v.kind=16) (t:Tidy v) (h:Buf w r s D i) (hl:Lies D i (131 :: be 8 v.num.toNat)):RA w r s D (i+9) v:=by
 have tp:=t.pos;have hr:raw (asRead v)=tm (sint v.num):=by simp [raw,xaA hk (by decide)]
 refine (xcW r s D i w 131 (by decide) h hl.head (fun x e w'=>e = .nilIface/\x=raw (asRead v)/\At_ w w' r s D (i+9)) (fun W hW=>(xhj r s D i W _ _ _ _ _ _ _ _ hW.buf (hl 0 _ rfl) (hl 1 _ rfl) (hl 2 _ rfl) (hl 3 _ rfl) (hl 4 _ rfl) (hl 5 _ rfl) (hl 6 _ rfl) (hl 7 _ rfl) (hl 8 _ rfl)).mono ?_)).mono ?_
 ·rintro e w' ⟨rfl,hA⟩;refine ⟨_,_,rfl,rfl,?_,hW.trans hA⟩;rw [hr];exact congrArg tm ((congrArg (sg 64) (xlA v.num.toNat)).trans (sg_64 tp.1 tp.2))
 ·rintro e w' ⟨y,z,rfl,x,rfl,rfl,rfl,hA⟩;refine ⟨_,_,rfl,rfl,?_,hA⟩;have hT:rtype (asRead v).kind=109:=by rw [(xaA hk (by decide)).1];rfl
  rw [<- hT];exact .scal (by rw [(xaA hk (by decide)).1];unfold xaj;omega)
theorem RA_52 (hk:v.kind=4) (t:Tidy v) (hx:v.num < 256) (h:Buf w r s D i) (hl:Lies D i (82 :: be 1 v.num.toNat)):RA w r s D (i+2) v:=by
 have tp:=t.pos;have hr:raw (asRead v) = .int .u32 v.num:=by simp [raw,xaA hk (by decide)]
 refine (xbI r s D i w 82 (by decide) h hl.head (fun x e w'=>e = .nilIface/\x=raw (asRead v)/\At_ w w' r s D (i+2)) (fun W hW=>(xjI r s D i W _ hW.buf (hl 0 _ rfl) (hl 1 _ rfl)).mono ?_)).mono ?_
 ·rintro e w' ⟨rfl,hA⟩;refine ⟨_,_,rfl,rfl,?_,hW.trans hA⟩;rw [hr];rw [xgU];congr 1;omega
 ·rintro e w' ⟨y,z,rfl,x,rfl,rfl,rfl,hA⟩;refine ⟨_,_,rfl,rfl,?_,hA⟩;have hT:rtype (asRead v).kind=101:=by rw [(xaA hk (by decide)).1];rfl
  rw [<- hT];exact .scal (by rw [(xaA hk (by decide)).1];unfold xaj;omega)
theorem RA_53 (hk:v.kind=5) (t:Tidy v) (hx:v.num < 256) (h:Buf w r s D i) (hl:Lies D i (83 :: be 1 v.num.toNat)):RA w r s D (i+2) v:=by
 have tp:=t.pos;have hr:raw (asRead v) = .int .u64 v.num:=by simp [raw,xaA hk (by decide)]
 refine (xbO r s D i w 83 (by decide) h hl.head (fun x e w'=>e = .nilIface/\x=raw (asRead v)/\At_ w w' r s D (i+2)) (fun W hW=>(xkM r s D i W _ hW.buf (hl 0 _ rfl) (hl 1 _ rfl)).mono ?_)).mono ?_
 ·rintro e w' ⟨rfl,hA⟩;refine ⟨_,_,rfl,rfl,?_,hW.trans hA⟩;rw [hr];rw [xgU];congr 1;omega
 ·rintro e w' ⟨y,z,rfl,x,rfl,rfl,rfl,hA⟩;refine ⟨_,_,rfl,rfl,?_,hA⟩;have hT:rtype (asRead v).kind=22:=by rw [(xaA hk (by decide)).1];rfl
  rw [<- hT];exact .scal (by rw [(xaA hk (by decide)).1];unfold xaj;omega)
theorem RA_54 (hk:v.kind=8) (t:Tidy v) (hx:v.num < 128\/18446744073709551488<=v.num) (h:Buf w r s D i) (hl:Lies D i (84 :: be 1 v.num.toNat)):RA w r s D (i+2) v:=by
 have tp:=t.pos;have hr:raw (asRead v) = .int .i32 (sint v.num):=by simp [raw,xaA hk (by decide)]
 refine (xcl r s D i w 84 (by decide) h hl.head (fun x e w'=>e = .nilIface/\x=raw (asRead v)/\At_ w w' r s D (i+2)) (fun W hW=>(xkR r s D i W _ hW.buf (hl 0 _ rfl) (hl 1 _ rfl)).mono ?_)).mono ?_
 ·rintro e w' ⟨rfl,hA⟩;refine ⟨_,_,rfl,rfl,?_,hW.trans hA⟩;rw [hr];rw [xgU];exact congrArg _ (sg_8 tp.1 tp.2 hx)
 ·rintro e w' ⟨y,z,rfl,x,rfl,rfl,rfl,hA⟩;refine ⟨_,_,rfl,rfl,?_,hA⟩;have hT:rtype (asRead v).kind=21:=by rw [(xaA hk (by decide)).1];rfl
  rw [<- hT];exact .scal (by rw [(xaA hk (by decide)).1];unfold xaj;omega)
theorem RA_55 (hk:v.kind=9) (t:Tidy v) (hx:v.num < 128\/18446744073709551488<=v.num) (h:Buf w r s D i) (hl:Lies D i (85 :: be 1 v.num.toNat)):RA w r s D (i+2) v:=by
 have tp:=t.pos;have hr:raw (asRead v) = .int .i64 (sint v.num):=by simp [raw,xaA hk (by decide)]
 refine (xcs r s D i w 85 (by decide) h hl.head (fun x e w'=>e = .nilIface/\x=raw (asRead v)/\At_ w w' r s D (i+2)) (fun W hW=>(xmO r s D i W _ hW.buf (hl 0 _ rfl) (hl 1 _ rfl)).mono ?_)).mono ?_
 ·rintro e w' ⟨rfl,hA⟩;refine ⟨_,_,rfl,rfl,?_,hW.trans hA⟩;rw [hr];rw [xgU];exact congrArg _ (sg_8 tp.1 tp.2 hx)
 ·rintro e w' ⟨y,z,rfl,x,rfl,rfl,rfl,hA⟩;refine ⟨_,_,rfl,rfl,?_,hA⟩;have hT:rtype (asRead v).kind=2:=by rw [(xaA hk (by decide)).1];rfl
  rw [<- hT];exact .scal (by rw [(xaA hk (by decide)).1];unfold xaj;omega)
theorem RA_43 (hk:v.kind=4) (_t:Tidy v) (hx:v.num=0) (h:Buf w r s D i) (hl:Lies D i (67 :: be 0 v.num.toNat)):RA w r s D (i+1) v:=by
 have hr:raw (asRead v) = .int .u32 v.num:=by simp [raw,xaA hk (by decide)]
 refine (xbI r s D i w 67 (by decide) h hl.head (fun x e w'=>e = .nilIface/\x=raw (asRead v)/\At_ w w' r s D (i+1)) (fun W hW=>(xjJ r s D i W hW.buf (hl 0 _ rfl)).mono ?_)).mono ?_
 ·rintro e w' ⟨rfl,hA⟩;refine ⟨_,_,rfl,rfl,?_,hW.trans hA⟩;rw [hr];rw [hx]
 ·rintro e w' ⟨y,z,rfl,x,rfl,rfl,rfl,hA⟩;refine ⟨_,_,rfl,rfl,?_,hA⟩;have hT:rtype (asRead v).kind=101:=by rw [(xaA hk (by decide)).1];rfl
  rw [<- hT];exact .scal (by rw [(xaA hk (by decide)).1];unfold xaj;omega)
theorem RA_44 (hk:v.kind=5) (_t:Tidy v) (hx:v.num=0) (h:Buf w r s D i) (hl:Lies D i (68 :: be 0 v.num.toNat)):RA w r s D (i+1) v:=by
 have hr:raw (asRead v) = .int .u64 v.num:=by simp [raw,xaA hk (by decide)]
 refine (xbO r s D i w 68 (by decide) h hl.head (fun x e w'=>e = .nilIface/\x=raw (asRead v)/\At_ w w' r s D (i+1)) (fun W hW=>(xkN r s D i W hW.buf (hl 0 _ rfl)).mono ?_)).mono ?_
 ·rintro e w' ⟨rfl,hA⟩;refine ⟨_,_,rfl,rfl,?_,hW.trans hA⟩;rw [hr];rw [hx]
 ·rintro e w' ⟨y,z,rfl,x,rfl,rfl,rfl,hA⟩;refine ⟨_,_,rfl,rfl,?_,hA⟩;have hT:rtype (asRead v).kind=22:=by rw [(xaA hk (by decide)).1];rfl
  rw [<- hT];exact .scal (by rw [(xaA hk (by decide)).1];unfold xaj;omega)
theorem RA_56 (hk:v.kind=1) (t:Tidy v) (h:Buf w r s D i) (hl:Lies D i (86 :: be 1 v.num.toNat)):RA w r s D (i+2) v:=by
 have tp:=t.pos;have hr:raw (asRead v) = .bool (decide (v.num≠0)):=by simp [raw,xaA hk (by decide)]
 refine (xct r s D i w 86 (by decide) h hl.head (fun x e w'=>e = .nilIface/\x=raw (asRead v)/\At_ w w' r s D (i+2)) (fun W hW=>(xmP r s D i W _ hW.buf (hl 0 _ rfl) (hl 1 _ rfl)).mono ?_)).mono ?_
 ·rintro e w' ⟨rfl,hA⟩;refine ⟨_,_,rfl,rfl,?_,hW.trans hA⟩;rw [hr];have h1:=t.flag hk;rw [xgU];congr 1;rw [Bool.eq_iff_iff];simp;omega
 ·rintro e w' ⟨y,z,rfl,x,rfl,rfl,rfl,hA⟩;refine ⟨_,_,rfl,rfl,?_,hA⟩;have hT:rtype (asRead v).kind=4:=by rw [(xaA hk (by decide)).1];rfl
  rw [<- hT];exact .scal (by rw [(xaA hk (by decide)).1];unfold xaj;omega)
theorem RA_41 (hk:v.kind=1) (_t:Tidy v) (hx:v.num=1) (h:Buf w r s D i) (hl:Lies D i (65 :: be 0 v.num.toNat)):RA w r s D (i+1) v:=by
 have hr:raw (asRead v) = .bool (decide (v.num≠0)):=by simp [raw,xaA hk (by decide)]
 refine (xct r s D i w 65 (by decide) h hl.head (fun x e w'=>e = .nilIface/\x=raw (asRead v)/\At_ w w' r s D (i+1)) (fun W hW=>(xmR r s D i W hW.buf (hl 0 _ rfl)).mono ?_)).mono ?_
 ·rintro e w' ⟨rfl,hA⟩;refine ⟨_,_,rfl,rfl,?_,hW.trans hA⟩;rw [hr];rw [hx];rfl
 ·rintro e w' ⟨y,z,rfl,x,rfl,rfl,rfl,hA⟩;refine ⟨_,_,rfl,rfl,?_,hA⟩;have hT:rtype (asRead v).kind=4:=by rw [(xaA hk (by decide)).1];rfl
  rw [<- hT];exact .scal (by rw [(xaA hk (by decide)).1];unfold xaj;omega)
theorem RA_42 (hk:v.kind=1) (_t:Tidy v) (hx:v.num=0) (h:Buf w r s D i) (hl:Lies D i (66 :: be 0 v.num.toNat)):RA w r s D (i+1) v:=by
 have hr:raw (asRead v) = .bool (decide (v.num≠0)):=by simp [raw,xaA hk (by decide)]
 refine (xct r s D i w 66 (by decide) h hl.head (fun x e w'=>e = .nilIface/\x=raw (asRead v)/\At_ w w' r s D (i+1)) (fun W hW=>(xmQ r s D i W hW.buf (hl 0 _ rfl)).mono ?_)).mono ?_
 ·rintro e w' ⟨rfl,hA⟩;refine ⟨_,_,rfl,rfl,?_,hW.trans hA⟩;rw [hr];rw [hx];rfl
 ·rintro e w' ⟨y,z,rfl,x,rfl,rfl,rfl,hA⟩;refine ⟨_,_,rfl,rfl,?_,hA⟩;have hT:rtype (asRead v).kind=4:=by rw [(xaA hk (by decide)).1];rfl
  rw [<- hT];exact .scal (by rw [(xaA hk (by decide)).1];unfold xaj;omega)
end
end
section
theorem xfe (b:ByteArray):(⟨(bytesOf b).toArray⟩:ByteArray)=b:=by obtain ⟨a⟩:=b;simp [bytesOf]
theorem Lies.sub_eq {D bs:List UInt8} {i n:Nat} (h:Lies D i bs) (hi:i<=D.length) (hn:bs.length=n):sub D i n=bs:=by subst hn;exact h.eq_take hi
section
variable (w:World) (r:Nat) (s:Value) (D:List UInt8) (i:Nat) (v:V)
theorem xjF (c:UInt8) (hcc:c=0xa1\/c=0xa3) (b:ByteArray) (hb:b.size < 256) (h:Buf w r s D i) (hl:Lies D i (c :: (be 1 b.size ++ bytesOf b))) :
  Calls prog 107 #[.pointer (some ⟨r,0,none⟩)] w fun e w'=>e = .returned (.tuple #[.string b,.nilIface])/\At_ w w' r s D (i+2+b.size):=by
 have hx:(UInt8.ofNat (b.size % 256)).toNat=b.size:=by simp;omega
 rw [be1] at hl;have hlen:=hl.len h.le;simp only [lC,lA,List.length_nil,bytesOf_length] at hlen;have h2:Lies D (i+1+1) (bytesOf b):=hl.tail.tail;have hs:sub D (i+2) (UInt8.ofNat (b.size % 256)).toNat=bytesOf b:=by rw [hx];exact h2.sub_eq (by omega) (bytesOf_length b)
 have:=xmf r s D i w c (UInt8.ofNat (b.size % 256)) hcc h hl.head (hl 1 _ rfl) (by rw [hx];omega);rw [hs,hx,xfe] at this;exact this
theorem str4_ok (c:UInt8) (hcc:c=0xb1\/c=0xb3) (b:ByteArray) (hb:b.size < 4294967296) (h:Buf w r s D i) (hl:Lies D i (c :: (be 4 b.size ++ bytesOf b))) :
  Calls prog 107 #[.pointer (some ⟨r,0,none⟩)] w fun e w'=>e = .returned (.tuple #[.string b,.nilIface])/\At_ w w' r s D (i+5+b.size):=by
 have hx:Lib.beNat (be 4 b.size)=b.size:=by rw [xcT];omega
 have hlen:=hl.len h.le;simp only [lC,lA,be_length,bytesOf_length] at hlen;have h2:Lies D (i+1+(be 4 b.size).length) (bytesOf b):=hl.tail.right;rw [be_length] at h2;have hs:sub D (i+5) (Lib.beNat (be 4 b.size))=bytesOf b:=by rw [hx];exact h2.sub_eq (by omega) (bytesOf_length b)
 have:=ReadString_4 r s D i w c _ _ _ _ hcc h hl.head (hl 1 _ rfl) (hl 2 _ rfl) (hl 3 _ rfl) (hl 4 _ rfl) (by show i+5+Lib.beNat (be 4 b.size)<=D.length;rw [hx];omega);change Calls _ _ _ _ fun e w'=>e = .returned (.tuple #[.string ⟨(sub D (i+5) (Lib.beNat (be 4 b.size))).toArray⟩,.nilIface])/\At_ w w' r s D (i+5+Lib.beNat (be 4 b.size)) at this
 rw [hs,hx,xfe] at this;exact this
theorem bin1_ok (b:ByteArray) (hb:b.size < 256) (h:Buf w r s D i) (hl:Lies D i (0xa0 :: (be 1 b.size ++ bytesOf b))) :
  Calls prog 123 #[.pointer (some ⟨r,0,none⟩)] w (xac fun v e w'=>e = .nilIface/\BSl (xaf w) w' v (bytesOf b)/\At_ w w' r s D (i+2+b.size)):=by
 have hx:(UInt8.ofNat (b.size % 256)).toNat=b.size:=by simp;omega
 rw [be1] at hl;have hlen:=hl.len h.le;simp only [lC,lA,List.length_nil,bytesOf_length] at hlen;have h2:Lies D (i+1+1) (bytesOf b):=hl.tail.tail
 rcases Nat.eq_zero_or_pos b.size with h0 | h0
 ·have hz:bytesOf b=[]:=List.eq_nil_of_length_eq_zero (by rw [bytesOf_length];exact h0);have h1:D[i+1]? = some 0:=by have:=hl 1 _ rfl;rw [h0] at this;exact this
  rw [hz,h0];exact xgI r s D i w 0xa0 rfl h hl.head h1
 ·have hs:sub D (i+2) (UInt8.ofNat (b.size % 256)).toNat=bytesOf b:=by rw [hx];exact h2.sub_eq (by omega) (bytesOf_length b)
  have:=xkU r s D i w 0xa0 (UInt8.ofNat (b.size % 256)) rfl h hl.head (hl 1 _ rfl) (by rw [hx];omega) (by rw [hx];omega);rw [hs,hx] at this;exact this
theorem bin4_ok (b:ByteArray) (hb:b.size < 4294967296) (h:Buf w r s D i) (hl:Lies D i (0xb0 :: (be 4 b.size ++ bytesOf b))) :
  Calls prog 123 #[.pointer (some ⟨r,0,none⟩)] w (xac fun v e w'=>e = .nilIface/\BSl (xaf w) w' v (bytesOf b)/\At_ w w' r s D (i+5+b.size)):=by
 have hx:Lib.beNat (be 4 b.size)=b.size:=by rw [xcT];omega
 have hlen:=hl.len h.le;simp only [lC,lA,be_length,bytesOf_length] at hlen;have h2:Lies D (i+1+(be 4 b.size).length) (bytesOf b):=hl.tail.right;rw [be_length] at h2
 rcases Nat.eq_zero_or_pos b.size with h0 | h0
 ·have hz:bytesOf b=[]:=List.eq_nil_of_length_eq_zero (by rw [bytesOf_length];exact h0);have:=xgG r s D i w 0xb0 _ _ _ _ rfl h hl.head (hl 1 _ rfl) (hl 2 _ rfl) (hl 3 _ rfl) (hl 4 _ rfl) (by show Lib.beNat (be 4 b.size)=0;rw [hx];exact h0);rw [hz,h0];exact this
 ·have hs:sub D (i+5) (Lib.beNat (be 4 b.size))=bytesOf b:=by rw [hx];exact h2.sub_eq (by omega) (bytesOf_length b)
  have:=xkT r s D i w 0xb0 _ _ _ _ rfl h hl.head (hl 1 _ rfl) (hl 2 _ rfl) (hl 3 _ rfl) (hl 4 _ rfl) (by show i+5+Lib.beNat (be 4 b.size)<=D.length;rw [hx];omega) (by show 0 < Lib.beNat (be 4 b.size);rw [hx];exact h0);change Calls _ _ _ _ (xac fun v e w'=>e = .nilIface/\BSl (fun b=>w.heap.size<=b) w' v (sub D (i+5) (Lib.beNat (be 4 b.size)))/\At_ w w' r s D (i+5+Lib.beNat (be 4 b.size))) at this;rw [hs,hx] at this;exact this
theorem RA_str (c:UInt8) (hcc:c=161\/c=177\/c=163\/c=179) (j:Nat) (hk:v.kind=19\/v.kind=20) (h:Buf w r s D i) (hc:D[i]? = some c)
  (hr:∀ W,Buf W r s D i->Calls prog 107 #[.pointer (some ⟨r,0,none⟩)] W fun e w'=>e = .returned (.tuple #[.string v.text,.nilIface])/\At_ W w' r s D j):RA w r s D j v:=by
 have hk':(asRead v).kind=19:=by rw [xaw];rcases hk with hk | hk <;> simp [hk]
 have hraw:raw (asRead v) = .string v.text:=by simp [raw,hk',xaS]
 refine (xdL r s D i w c hcc h hc (fun x e w'=>e = .nilIface/\x=raw (asRead v)/\At_ w w' r s D j) (fun W hW=>(hr W hW.buf).mono ?_)).mono ?_
 ·rintro e w' ⟨rfl,hA⟩;exact ⟨_,_,rfl,rfl,hraw.symm,hW.trans hA⟩
 ·rintro e w' ⟨y,z,rfl,x,rfl,rfl,rfl,hA⟩;refine ⟨_,_,rfl,rfl,?_,hA⟩;have hT:rtype (asRead v).kind=9:=by rw [hk'];rfl
  rw [<- hT];exact .scal (by rw [hk'];unfold xaj;omega)
theorem RA_bin (c:UInt8) (hcc:c=160\/c=176) (j:Nat) (hk:v.kind=18) (h:Buf w r s D i) (hc:D[i]? = some c)
  (hr:∀ W,Buf W r s D i->Calls prog 123 #[.pointer (some ⟨r,0,none⟩)] W (xac fun x e w'=>e = .nilIface/\BSl (xaf W) w' x (bytesOf v.text)/\At_ W w' r s D j)):RA w r s D j v:=by
 have hk':(asRead v).kind=18:=by rw [xaw];simp [hk]
 refine (xdJ r s D i w c hcc h hc (fun x e w'=>e = .nilIface/\BSl (xaf w) w' x (bytesOf v.text)/\At_ w w' r s D j) (fun W hW=>(hr W hW.buf).mono ?_)).mono ?_
 ·rintro e w' ⟨x,y,rfl,rfl,hB,hA⟩;exact ⟨_,_,rfl,rfl,hB.mono fun b _ hb=>by have hb':W.heap.size<=b:=hb;have:=hW.kept.size;show w.heap.size<=b;omega,hW.trans hA⟩
 ·rintro e w' ⟨y,z,rfl,x,rfl,rfl,hB,hA⟩;exact ⟨_,_,rfl,rfl,.bin hk' (by rw [xaS];exact hB),hA⟩
theorem RA_98 (hk:v.kind=17) (t:Tidy v) (h:Buf w r s D i) (hl:Lies D i (152 :: bytesOf v.text)):RA w r s D (i+17) v:=by
 have hsz:=t.uuid hk;have hlen:=hl.len h.le;simp only [lC,bytesOf_length] at hlen;have hk':(asRead v).kind=17:=by rw [xaw];simp [hk]
 have hraw:raw (asRead v)=uid (sub D (i+1) 16):=by
  rw [hl.tail.sub_eq (by omega) (by rw [bytesOf_length];exact hsz)];simp [raw,hk',xaS]
 refine (xer r s D i w 152 (by decide) h hl.head (fun x e w'=>e = .nilIface/\x=raw (asRead v)/\At_ w w' r s D (i+17)) (fun W hW=>(xmM r s D i W hW.buf hl.head (by omega)).mono ?_)).mono ?_
 ·rintro e w' ⟨rfl,hA⟩;exact ⟨_,_,rfl,rfl,hraw.symm,hW.trans hA⟩
 ·rintro e w' ⟨y,z,rfl,x,rfl,rfl,rfl,hA⟩;refine ⟨_,_,rfl,rfl,?_,hA⟩;have hT:rtype (asRead v).kind=112:=by rw [hk'];rfl
  rw [<- hT];exact .scal (by rw [hk'];unfold xaj;omega)
end
end
section
def place (base:Nat) (ps:List (List UInt8)) (k:Nat):Nat:=base+(ps.take k).flatten.length
theorem xcI (base:Nat) (ps:List (List UInt8)):place base ps 0=base:=by simp [place]
theorem xeX (base:Nat) (ps:List (List UInt8)) (k:Nat) (p:List UInt8) (h:ps[k]? = some p):place base ps (k+1)=place base ps k+p.length:=by
 unfold place;have:ps.take (k+1)=ps.take k ++ [p]:=by rw [List.take_add_one,h];rfl
 rw [this];simp;omega
theorem xdV (base:Nat) (ps:List (List UInt8)):place base ps ps.length=base+ps.flatten.length:=by simp [place]
theorem Lies.piece {D:List UInt8} {base:Nat} {ps:List (List UInt8)} (h:Lies D base ps.flatten) {k:Nat} {p:List UInt8} (hp:ps[k]? = some p):Lies D (place base ps k) p:=by
 have hsplit:ps.flatten=(ps.take k).flatten ++ (p ++ (ps.drop (k+1)).flatten):=by
  have hk:=(gi.1 hp).1;have he:ps[k]=p:=(gi.1 hp).2
  conv=>lhs;rw [<- List.take_append_drop k ps,List.drop_eq_getElem_cons hk,he]
  simp
 rw [hsplit] at h;exact h.right.left
theorem EncL.pieces {l:List V} {d:List UInt8} (h:EncL l d):∃ ps:List (List UInt8),ps.length=l.length/\d=ps.flatten/\∀ (k:Nat) (v:V) (p:List UInt8),l[k]? = some v->ps[k]? = some p->Enc v p:=by
 induction l generalizing d with
 | nil=>cases h;exact ⟨[],rfl,rfl,by simp⟩
 | cons a l ih =>
  cases h with
  | @cons _ _ p q h1 h2 =>
   obtain ⟨ps,h3,h4,h5⟩:=ih h2;refine ⟨p :: ps,by simp [h3],by simp [h4],fun k v p' hv hp => ?_⟩
   cases k with
   | zero=>simp at hv hp;subst hv hp;exact h1
   | succ k=>exact h5 k v p' (by simpa using hv) (by simpa using hp)
theorem Enc.pos {v:V} {p:List UInt8} (h:Enc v p):0 < p.length:=by cases h <;> simp
theorem xhZ {ps:List (List UInt8)} (h:∀ p ∈ ps,0 < p.length):ps.length<=ps.flatten.length:=by
 induction ps with
 | nil=>simp
 | cons a ps ih =>
  have h1:=h a (by simp);have h2:=ih (fun p hp=>h p (by simp [hp]));simp only [List.flatten_cons,lA,lC];omega
theorem EncL.count_le {l:List V} {d:List UInt8} (h:EncL l d):l.length<=d.length:=by
 obtain ⟨ps,h1,h2,h3⟩:=h.pieces;rw [h2,<- h1];refine xhZ fun p hp => ?_
 obtain ⟨k,hk⟩:=List.mem_iff_getElem?.1 hp;have:=(gi.1 hk).1;exact (h3 k _ p (ge (by omega)) hk).pos
section
variable (w:World) (r:Nat) (s:Value) (D:List UInt8) (i:Nat)
theorem xln (n:Nat) (d:List UInt8) (hn:n<=d.length) (hd:d.length+1 < 256) (h:Buf w r s D i) (hl:Lies D i (0xc0 :: (be 1 (d.length+1) ++ be 1 n ++ d))) :
  Calls prog 104 #[.pointer (some ⟨r,0,none⟩)] w fun e w'=>e = .returned (.tuple #[.int .i64 n,.nilIface])/\At_ w w' r s D (i+3):=by
 have hlen:=hl.len h.le;simp only [be1,lC,lA,List.length_nil] at hlen;have h0:(UInt8.ofNat ((d.length+1) % 256)).toNat=d.length+1:=by simp;omega
 have h1:(UInt8.ofNat (n % 256)).toNat=n:=by simp;omega
 have:=xho r s D i w (UInt8.ofNat ((d.length+1) % 256)) (UInt8.ofNat (n % 256)) h hl.head (by simpa [be1] using hl 1 _ rfl) (by simpa [be1] using hl 2 _ rfl) (by omega) (by omega);rwa [h1] at this
theorem arrHead1 (n:Nat) (d:List UInt8) (hn:n<=d.length) (hd:d.length+1 < 256) (h:Buf w r s D i) (hl:Lies D i (0xe0 :: (be 1 (d.length+1) ++ be 1 n ++ d))) :
  Calls prog 183 #[.pointer (some ⟨r,0,none⟩)] w fun e w'=>e = .returned (.tuple #[.int .i64 n,.nilIface])/\At_ w w' r s D (i+3):=by
 have hlen:=hl.len h.le;simp only [be1,lC,lA,List.length_nil] at hlen;have h0:(UInt8.ofNat ((d.length+1) % 256)).toNat=d.length+1:=by simp;omega
 have h1:(UInt8.ofNat (n % 256)).toNat=n:=by simp;omega
 have:=xgL r s D i w (UInt8.ofNat ((d.length+1) % 256)) (UInt8.ofNat (n % 256)) h hl.head (by simpa [be1] using hl 1 _ rfl) (by simpa [be1] using hl 2 _ rfl) (by omega) (by omega);rwa [h1] at this
theorem mapHead1 (n:Nat) (d:List UInt8) (hn:n<=d.length) (hd:d.length+1 < 256) (h:Buf w r s D i) (hl:Lies D i (0xc1 :: (be 1 (d.length+1) ++ be 1 n ++ d))) :
  Calls prog 100 #[.pointer (some ⟨r,0,none⟩)] w fun e w'=>e = .returned (.tuple #[.int .u32 n,.nilIface])/\At_ w w' r s D (i+3):=by
 have hlen:=hl.len h.le;simp only [be1,lC,lA,List.length_nil] at hlen;have h0:(UInt8.ofNat ((d.length+1) % 256)).toNat=d.length+1:=by simp;omega
 have h1:(UInt8.ofNat (n % 256)).toNat=n:=by simp;omega
 refine xfQ r s D i w n (i+3) h hl.head fun W hW => ?_
 have:=xgE r s D (i+1) W (UInt8.ofNat ((d.length+1) % 256)) (UInt8.ofNat (n % 256)) hW (by simpa [be1] using hl 1 _ rfl) (by simpa [be1] using hl 2 _ rfl) (by omega) (by omega);rwa [h1] at this
theorem head4 {c:UInt8} {n N:Nat} {d:List UInt8} (hl:Lies D i (c :: (be 4 N ++ be 4 n ++ d))) (hi:i<=D.length):i+9+d.length<=D.length/\(∀ m,m < 4->D[i+1+m]? = (be 4 N)[m]?)/\(∀ m,m < 4->D[i+5+m]? = (be 4 n)[m]?):=by
 have hlen:=hl.len hi;simp only [lC,lA,be_length] at hlen;have h1:Lies D (i+1) (be 4 N):=hl.tail.left.left;have h2:Lies D (i+1+(be 4 N).length) (be 4 n):=hl.tail.left.right;rw [be_length] at h2;refine ⟨by omega,fun m hm => ?_,fun m hm => ?_⟩
 ·have:(be 4 N)[m]? = some ((be 4 N)[m]'(by simpa using hm)):=ge _;rw [h1 m _ this,this]
 ·have:(be 4 n)[m]? = some ((be 4 n)[m]'(by simpa using hm)):=ge _;rw [h2 m _ this,this]
theorem xlm (n:Nat) (d:List UInt8) (hn:n<=d.length) (hk:n<=65536) (hd:d.length+4 < 4294967296) (h:Buf w r s D i) (hl:Lies D i (0xd0 :: (be 4 (d.length+4) ++ be 4 n ++ d))) :
  Calls prog 104 #[.pointer (some ⟨r,0,none⟩)] w fun e w'=>e = .returned (.tuple #[.int .i64 n,.nilIface])/\At_ w w' r s D (i+9):=by
 obtain ⟨hlen,g0,g1⟩:=head4 D i hl h.le;have h0:Lib.beNat (be 4 (d.length+4))=d.length+4:=by rw [xcT];omega
 have h1:Lib.beNat (be 4 n)=n:=by rw [xcT];omega
 have:=xhn r s D i w _ _ _ _ _ _ _ _ h hl.head ⟨g0 0 (by omega),g0 1 (by omega),g0 2 (by omega),g0 3 (by omega),g1 0 (by omega),g1 1 (by omega),g1 2 (by omega),g1 3 (by omega)⟩
  (by show i+5+Lib.beNat (be 4 (d.length+4))<=D.length;omega) (by show Lib.beNat (be 4 n)+4<=Lib.beNat (be 4 (d.length+4));omega) (by show Lib.beNat (be 4 n)<=65536;omega)
 change Calls _ _ _ _ fun e w'=>e = .returned (.tuple #[.int .i64 (Lib.beNat (be 4 n)),.nilIface])/\At_ w w' r s D (i+9) at this
 rwa [h1] at this
theorem arrHead4 (n:Nat) (d:List UInt8) (hn:n<=d.length) (hk:n<=65536) (hd:d.length+4 < 4294967296) (h:Buf w r s D i) (hl:Lies D i (0xf0 :: (be 4 (d.length+4) ++ be 4 n ++ d))) :
  Calls prog 183 #[.pointer (some ⟨r,0,none⟩)] w fun e w'=>e = .returned (.tuple #[.int .i64 n,.nilIface])/\At_ w w' r s D (i+9):=by
 obtain ⟨hlen,g0,g1⟩:=head4 D i hl h.le;have h0:Lib.beNat (be 4 (d.length+4))=d.length+4:=by rw [xcT];omega
 have h1:Lib.beNat (be 4 n)=n:=by rw [xcT];omega
 have:=xgK r s D i w _ _ _ _ _ _ _ _ h hl.head ⟨g0 0 (by omega),g0 1 (by omega),g0 2 (by omega),g0 3 (by omega),g1 0 (by omega),g1 1 (by omega),g1 2 (by omega),g1 3 (by omega)⟩
  (by show i+5+Lib.beNat (be 4 (d.length+4))<=D.length;omega) (by show Lib.beNat (be 4 n)+4<=Lib.beNat (be 4 (d.length+4));omega) (by show Lib.beNat (be 4 n)<=65536;omega)
 change Calls _ _ _ _ fun e w'=>e = .returned (.tuple #[.int .i64 (Lib.beNat (be 4 n)),.nilIface])/\At_ w w' r s D (i+9) at this
 rwa [h1] at this
theorem mapHead4 (n:Nat) (d:List UInt8) (hn:n<=d.length) (hk:n<=65536) (hd:d.length+4 < 4294967296) (h:Buf w r s D i) (hl:Lies D i (0xd1 :: (be 4 (d.length+4) ++ be 4 n ++ d))) :
  Calls prog 100 #[.pointer (some ⟨r,0,none⟩)] w fun e w'=>e = .returned (.tuple #[.int .u32 n,.nilIface])/\At_ w w' r s D (i+9):=by
 obtain ⟨hlen,g0,g1⟩:=head4 D i hl h.le;have h0:Lib.beNat (be 4 (d.length+4))=d.length+4:=by rw [xcT];omega
 have h1:Lib.beNat (be 4 n)=n:=by rw [xcT];omega
 refine xfw r s D i w n (i+9) h hl.head fun W hW => ?_
 have:=xfS r s D (i+1) W _ _ _ _ _ _ _ _ hW ⟨g0 0 (by omega),g0 1 (by omega),g0 2 (by omega),g0 3 (by omega),g1 0 (by omega),g1 1 (by omega),g1 2 (by omega),g1 3 (by omega)⟩
  (by show i+1+4+Lib.beNat (be 4 (d.length+4))<=D.length;omega) (by show Lib.beNat (be 4 n)+4<=Lib.beNat (be 4 (d.length+4));omega) (by show Lib.beNat (be 4 n)<=65536;omega)
 change Calls _ _ _ _ fun e w'=>e = .returned (.tuple #[.int .u32 (Lib.beNat (be 4 n)),.nilIface])/\At_ W w' r s D (i+1+8) at this
 rwa [h1] at this
end
end
section
def IH (r:Nat) (s:Value) (D:List UInt8) (v:V):Prop:=∀ bs,Enc v bs->∀ W i,Buf W r s D i->Lies D i bs->RA W r s D (i+bs.length) v
theorem Tidy.asRead {v:V} (t:Tidy v):Tidy (asRead v):=by
 have hk:=xaw v;have hn:=xgR v;have ht:=xaS v;have hl:(Go.Proofs.YtmdpodeegdjkeaaGreatDoor.asRead v).kids.length=v.kids.length:=by rw [xbi];split <;> simp
 have t1:=t.zero;have t2:=t.empty;have t3:=t.leaf;have t4:=t.kind;have t5:=t.uuid;have hkk:(Go.Proofs.YtmdpodeegdjkeaaGreatDoor.asRead v).kind=v.kind\/(v.kind=20/\(Go.Proofs.YtmdpodeegdjkeaaGreatDoor.asRead v).kind=19):=by rw [hk];split <;> simp [*]
 refine ⟨by rw [hn];exact t.pos,?_,?_,?_,?_,?_,?_,?_,?_,?_,?_,by rw [ht];exact t.size,by rw [hl];exact t.few,?_,?_⟩
 ·intro h;rw [hn];rcases hkk with e | ⟨_,e⟩ <;> rw [e] at h <;> first | exact t.flag h | omega
 ·intro h;rw [hn];rcases hkk with e | ⟨_,e⟩ <;> rw [e] at h <;> first | exact t.n1 h | omega
 ·intro h;rw [hn];rcases hkk with e | ⟨_,e⟩ <;> rw [e] at h <;> first | exact t.n2 h | omega
 ·intro h;rw [hn];rcases hkk with e | ⟨_,e⟩ <;> rw [e] at h <;> first | exact t.n4 h | omega
 ·intro h;rw [hn];rcases hkk with e | ⟨_,e⟩ <;> rw [e] at h <;> first | exact t.s1 h | omega
 ·intro h;rw [hn];rcases hkk with e | ⟨_,e⟩ <;> rw [e] at h <;> first | exact t.s2 h | omega
 ·intro h;rw [hn];rcases hkk with e | ⟨_,e⟩ <;> rw [e] at h <;> first | exact t.s4 h | omega
 ·intro h;rw [hn];rcases hkk with e | ⟨e0,e⟩ <;> rw [e] at h <;> first | exact t1 h | exact t1 (by omega)
 ·intro h;rw [ht];rcases hkk with e | ⟨_,e⟩ <;> rw [e] at h <;> first | exact t2 h | omega
 ·intro h;rw [ht];rcases hkk with e | ⟨_,e⟩ <;> rw [e] at h <;> first | exact t5 h | omega
 ·intro h;have:v.kids=[]:=by rcases hkk with e | ⟨e0,e⟩ <;> rw [e] at h <;> first | exact t3 h | exact t3 (by omega)
  rw [xbi,this];split <;> rfl
 ·rcases hkk with e | ⟨e0,e⟩ <;> rw [e] <;> first | exact t4 | omega
theorem xgO {k:Int} (h:xce k):xbn (if k=20 then 19 else k):=by unfold xce at h;unfold xbn;split <;> omega
theorem Good.keysOk {v:V} (h:Good v) (hk:v.kind=22):xgs (v.kids.map asRead):=by
 cases h with
 | mk ht hd hg hm _ =>
  obtain ⟨_,hm1,hm2⟩:=hm hk
  have get:∀ (i:Nat) (u:V),(v.kids.map asRead)[2*i]? = some u->∃ k,v.kids[2*i]? = some k/\u=asRead k:=fun i u hu=>by
   rw [gM] at hu;obtain ⟨k,hk,e⟩:=Option.map_eq_some_iff.1 hu;exact ⟨k,hk,e.symm⟩
  refine ⟨fun i u hu => ?_,fun i j u u' hij hu hu' => ?_⟩
  ·obtain ⟨k,hk',rfl⟩:=get i u hu;have hgk:=hg k (gm hk');exact ⟨by rw [xaw];exact xgO (hm1 i k hk'),fun e=>by rw [xaS];exact hgk.tidy.uuid (by rw [xaw] at e;split at e <;> omega)⟩
  ·obtain ⟨k,hk',rfl⟩:=get i u hu;obtain ⟨k2,hk2,rfl⟩:=get j u' hu';have g1:=hg k (gm hk');have g2:=hg k2 (gm hk2);exact key_ne (by rw [xaw];exact xgO (hm1 j k2 hk2)) (by rw [xaw];exact xgO (hm1 i k hk')) g2.tidy.asRead g1.tidy.asRead (by rw [xbu];exact g2.desc) (by rw [xbu];exact g1.desc) (fun hs=>hm2 i j k k2 hij hk' hk2 hs.symm)
section
variable (w:World) (r:Nat) (s:Value) (D:List UInt8) (i:Nat) (v:V)
theorem xfN {l:List V} {ps:List (List UInt8)} {base:Nat} (hI:∀ k ∈ l,IH r s D k) (hn:ps.length=l.length) (hE:∀ (k:Nat) (v:V) (p:List UInt8),l[k]? = some v->ps[k]? = some p->Enc v p) (hL:Lies D base ps.flatten) :
  Reads r s D (l.map asRead) (place base ps):=by
 intro k u hu W hW;rw [gM] at hu;obtain ⟨v,hv,rfl⟩:=Option.map_eq_some_iff.1 hu;have hk:=(gi.1 hv).1;have hp:ps[k]? = some (ps[k]'(by omega)):=ge _;have:=hI v (gm hv) _ (hE k v _ hv hp) W _ hW (hL.piece hp);rw [xeX base ps k _ hp];exact this
theorem xks (c:UInt8) (hcc:c=69\/c=192\/c=208) (j:Nat) (hk:v.kind=21) (h:Buf w r s D i) (hc:D[i]? = some c)
  (hr:∀ W,Buf W r s D i->Calls prog 127 #[.pointer (some ⟨r,0,none⟩)] W (xac fun x e w'=>e = .nilIface/\(∀ u:V,u.kind=21->u.kids=v.kids.map asRead->AnyV (xaf W) w' x u)/\At_ W w' r s D j)):RA w r s D j v:=by
 have hk':(asRead v).kind=21:=by rw [xaw];simp [hk]
 have hkids:(asRead v).kids=v.kids.map asRead:=by rw [xbi,if_neg (by omega)]
 refine (xdy r s D i w c hcc h hc (fun x e w'=>e = .nilIface/\AnyV (xaf w) w' x (asRead v)/\At_ w w' r s D j) (fun W hW=>(hr W hW.buf).mono ?_)).mono ?_
 ·rintro e w' ⟨x,y,rfl,rfl,hx,hA⟩;exact ⟨_,_,rfl,rfl,(hx _ hk' hkids).mono fun b hb=>by have hb':W.heap.size<=b:=hb;have:=hW.kept.size;show w.heap.size<=b;omega,hW.trans hA⟩
 ·rintro e w' ⟨y,z,rfl,rfl,hx,hA⟩;exact ⟨_,_,rfl,rfl,hx,hA⟩
theorem xqn (c:UInt8) (hcc:c=193\/c=209) (j:Nat) (hk:v.kind=22) (h:Buf w r s D i) (hc:D[i]? = some c)
  (hr:∀ W,Buf W r s D i->Calls prog 128 #[.pointer (some ⟨r,0,none⟩)] W (xac fun x e w'=>e = .nilIface/\(∀ u:V,u.kind=22->u.kids=v.kids.map asRead->AnyV (xaf W) w' x u)/\At_ W w' r s D j)):RA w r s D j v:=by
 have hk':(asRead v).kind=22:=by rw [xaw];simp [hk]
 have hkids:(asRead v).kids=v.kids.map asRead:=by rw [xbi,if_neg (by omega)]
 refine (xdK r s D i w c hcc h hc (fun x e w'=>e = .nilIface/\AnyV (xaf w) w' x (asRead v)/\At_ w w' r s D j) (fun W hW=>(hr W hW.buf).mono ?_)).mono ?_
 ·rintro e w' ⟨x,y,rfl,rfl,hx,hA⟩;exact ⟨_,_,rfl,rfl,(hx _ hk' hkids).mono fun b hb=>by have hb':W.heap.size<=b:=hb;have:=hW.kept.size;show w.heap.size<=b;omega,hW.trans hA⟩
 ·rintro e w' ⟨y,z,rfl,rfl,hx,hA⟩;exact ⟨_,_,rfl,rfl,hx,hA⟩
theorem xjP (w0 W:World) (p:Nat) (t:TypeId) (j0:Nat) (i0:Nat) (l:List V) (d:List UInt8) (h0:Buf w0 r s D i0) (hA:At_ w0 W r s D i) (hp:w0.heap.size<=p) (hc:Blk W p t #[.slice none 0 0]) (hfew:l.length<=65536) (hE:EncL l d) (hL:Lies D j0 d) (hI:∀ k ∈ l,IH r s D k) (hj0:j0<=D.length)
  (hH:∀ W,Buf W r s D i->Calls prog 104 #[.pointer (some ⟨r,0,none⟩)] W fun e W'=>e = .returned (.tuple #[.int .i64 l.length,.nilIface])/\At_ W W' r s D j0) :
  Calls prog 45 #[.pointer (some ⟨p,0,none⟩),.pointer (some ⟨r,0,none⟩)] W (Gives fun e w'=>e = .nilIface/\xdM w0 r s D (j0+d.length) p t (l.map asRead) w'):=by
 have hcnt:=hE.count_le;have hlen:=hL.len hj0;obtain ⟨ps,h1,h2,h3⟩:=hE.pieces;subst h2
 rcases Nat.eq_zero_or_pos l.length with hz | hz
 ·have hl:l=[]:=List.eq_nil_of_length_eq_zero hz;have hps:ps=[]:=List.eq_nil_of_length_eq_zero (by omega);subst hl hps
  simpa using xfA w0 W r s D i0 i p t j0 h0 hA hp hc (by simpa using hH)
 ·have:=xnd w0 W r s D i0 i p t (l.map asRead) (place j0 ps) h0 hA hp hc (by simpa using hz) (by simpa using hfew) (by rw [xcI];simp;omega) (by rw [xcI];simpa using hH) (xfN r s D hI h1 h3 hL);rw [lM,<- h1,xdV] at this;exact this
theorem readAnyList_G (j0:Nat) (l:List V) (d:List UInt8) (h:Buf w r s D i) (hfew:l.length<=65536) (hE:EncL l d) (hL:Lies D j0 d) (hI:∀ k ∈ l,IH r s D k) (hj0:j0<=D.length)
  (hH:∀ W,Buf W r s D i->Calls prog 104 #[.pointer (some ⟨r,0,none⟩)] W fun e W'=>e = .returned (.tuple #[.int .i64 l.length,.nilIface])/\At_ W W' r s D j0) :
  Calls prog 127 #[.pointer (some ⟨r,0,none⟩)] w (xac fun x e w'=>e = .nilIface/\(∀ u:V,u.kind=21->u.kids=l.map asRead->AnyV (xaf w) w' x u)/\At_ w w' r s D (j0+d.length)) :=
 xfp w r s D i _ _ h fun W p hA hp hb=>xjP r s D i w W p _ j0 i l d h hA hp hb hfew hE hL hI hj0 hH
theorem xgW (j0:Nat) (l:List V) (d:List UInt8) (h:Buf w r s D i) (hfew:l.length<=65536) (h2:l.length % 2=0) (hE:EncL l d) (hL:Lies D j0 d) (hI:∀ k ∈ l,IH r s D k) (hK:xgs (l.map asRead))
  (hH:∀ W,Buf W r s D i->Calls prog 100 #[.pointer (some ⟨r,0,none⟩)] W fun e W'=>e = .returned (.tuple #[.int .u32 l.length,.nilIface])/\At_ W W' r s D j0) :
  Calls prog 128 #[.pointer (some ⟨r,0,none⟩)] w (xac fun x e w'=>e = .nilIface/\(∀ u:V,u.kind=22->u.kids=l.map asRead->AnyV (xaf w) w' x u)/\At_ w w' r s D (j0+d.length)):=by
 obtain ⟨ps,h3,h4,h5⟩:=hE.pieces;subst h4;have hm:((l.length:Nat):Int)=2*((l.length / 2:Nat):Int):=by omega
 have:=xjL w r s D i (l.map asRead) (l.length / 2) (place j0 ps) h (by rw [xcI,<- hm];exact hH) (by simp;omega) (by omega) (xfN r s D hI h3 h5 hL) hK;rw [show 2*(l.length / 2)=ps.length by omega,xdV] at this;exact this
end
end
end Go.Proofs.YtmdpodeegdjkeaaGreatDoor
