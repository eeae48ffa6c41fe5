/- Part 8 of the proof of the readers and the guards. No conditions. -/
import Derived.Deep.RegionHeld3
import Derived.Deep.DrawnRows
import Derived.Lib.AppendStr
import Derived.Ground.NamesProg
import Derived.Shelf.Unicode.ValidAny
import Derived.Test.YtmdpodeegdjkeaaGreatDoorProg
import Derived.Test.YtmdpodeegdjkeaaGreatDoorU0
import Derived.Test.YtmdpodeegdjkeaaGreatDoorU4
import Derived.Test.YtmdpodeegdjkeaaGreatDoorU6
import Derived.Test.YtmdpodeegdjkeaaGreatDoorU7
set_option maxRecDepth 100000
set_option maxHeartbeats 3200000
namespace Go.Proofs.YtmdpodeegdjkeaaGreatDoor
open Go Go.RowKit Go.Lib Tryz
section
abbrev FL:=List (Nat × List UInt8)
def xbf (short long:Nat) (d:List UInt8) (n:Int):FL :=
 if n < 0 then (if d.length < 256 then [(short,be 1 d.length ++ d)] else []) ++ [(long,be 4 d.length ++ d)]
 else (if n < 256/\d.length+1 < 256 then [(short,be 1 (d.length+1) ++ be 1 n.toNat ++ d)] else []) ++ [(long,be 4 (d.length+4) ++ be 4 n.toNat ++ d)]
def xcK (short:Nat) (d:List UInt8) (n:Int):FL :=
 if n < 0 then (if d.length < 256 then [(short,be 1 d.length ++ d)] else []) else (if n < 256/\d.length+1 < 256 then [(short,be 1 (d.length+1) ++ be 1 n.toNat ++ d)] else [])
def xhu (short long:Nat) (d:List UInt8) (n:Int) (k:Nat):FL:=if k=0 then [] else if k=1 then xcK short d n else xbf short long d n
theorem xng (short long:Nat) (d:List UInt8) (n:Int):xbf short long d n=xcK short d n ++ [(long,if n < 0 then be 4 d.length ++ d else be 4 (d.length+4) ++ be 4 n.toNat ++ d)]:=by
 unfold xbf xcK
 split <;> simp
theorem xdr (short long:Nat) (d:List UInt8) (n:Int):xhu short long d n 1=xcK short d n:=by simp [xhu]
theorem xlp (short long:Nat) (d:List UInt8) (n:Int):xhu short long d n 2=xbf short long d n:=by simp [xhu]
theorem xnf (short:Nat) (d:List UInt8) (h:d.length < 256):xcK short d (-1)=[(short,be 1 d.length ++ d)]:=by simp [xcK,h]
theorem xlo (short:Nat) (d:List UInt8) (h:¬ d.length < 256):xcK short d (-1)=[]:=by simp [xcK];omega
theorem xne (short:Nat) (d:List UInt8) (q:Nat) (h:q < 256) (h2:d.length+1 < 256):xcK short d q=[(short,be 1 (d.length+1) ++ be 1 q ++ d)]:=by
 unfold xcK;rw [if_neg (by omega),if_pos ⟨by omega,h2⟩]
 rfl
theorem xhb (short:Nat) (d:List UInt8) (q:Nat) (h:¬ (q < 256/\d.length+1 < 256)):xcK short d q=[]:=by
 unfold xcK;rw [if_neg (by omega),if_neg (by omega)]
def xbx (v:V):FL :=
 (if (v.kind=4\/v.kind=5)/\v.num=0 then [(if v.kind=4 then 0x43 else 0x44,[])] else []) ++
 (if (v.kind=4\/v.kind=5)/\v.num < 256 then [(if v.kind=4 then 0x52 else 0x53,be 1 v.num.toNat)] else []) ++
 (if (v.kind=8\/v.kind=9)/\(v.num < 128\/18446744073709551488<=v.num) then [(if v.kind=8 then 0x54 else 0x55,be 1 v.num.toNat)] else []) ++ [(xaU v.kind,be (fsz v.kind) v.num.toNat)]
def Forms (v:V) (f:FL):Prop:=(∀ p ∈ f,Form v p.1 p.2/\p.1 < 256)/\(∃ d,(xaU v.kind,d) ∈ f)/\f.length<=3
theorem xdm {k:Int} (h:0<=k/\k < 24):k=0\/k=1\/k=2\/k=3\/k=4\/k=5\/k=6\/k=7\/k=8\/k=9\/k=10\/k=11\/k=12\/k=13\/k=14\/k=15\/k=16\/k=17\/k=18\/k=19\/k=20\/k=21\/k=22\/k=23:=by omega
theorem xfc (k:Int):xaU k < 256:=by
 by_cases h:0<=k/\k < 24
 ·rcases xdm h with rfl | rfl | rfl | rfl | rfl | rfl | rfl | rfl | rfl | rfl | rfl | rfl | rfl | rfl | rfl | rfl | rfl | rfl | rfl | rfl | rfl | rfl | rfl | rfl <;> decide
 ·unfold xaU
  repeat rw [if_neg (by omega)]
  omega
theorem Forms.num {v:V} (h:xay v.kind):Forms v (xbx v):=by
  refine ⟨fun p hp => ?_,⟨_,by unfold xbx;exact List.mem_append_right _ (List.mem_singleton.2 rfl)⟩,?_⟩
  . unfold xbx at hp
    rcases List.mem_append.1 hp with hp | hp
    . rcases List.mem_append.1 hp with hp | hp
      . rcases List.mem_append.1 hp with hp | hp
        . split at hp
          . next h1 =>
            rw [List.mem_singleton.1 hp]
            rcases h1 with ⟨h1 | h1,h2⟩
            . rw [if_pos h1];exact ⟨.uint0 h1 h2,by simp⟩
            . rw [if_neg (by omega)];exact ⟨.ulong0 h1 h2,by simp⟩
          . cases hp
        . split at hp
          . next h1 =>
            rw [List.mem_singleton.1 hp]
            rcases h1 with ⟨h1 | h1,h2⟩
            . rw [if_pos h1];exact ⟨.uint1 h1 h2,by simp⟩
            . rw [if_neg (by omega)];exact ⟨.ulong1 h1 h2,by simp⟩
          . cases hp
      . split at hp
        . next h1 =>
          rw [List.mem_singleton.1 hp]
          rcases h1 with ⟨h1 | h1,h2⟩
          . rw [if_pos h1];exact ⟨.int1 h1 h2,by simp⟩
          . rw [if_neg (by omega)];exact ⟨.long1 h1 h2,by simp⟩
        . cases hp
    . rw [List.mem_singleton.1 hp]
      exact ⟨.full h,xfc _⟩
  . unfold xbx
    by_cases h1:v.kind=8\/v.kind=9
    . rw [if_neg (by omega),if_neg (by omega)]
      split <;> simp
    . rw [if_neg (c:=(v.kind=8\/v.kind=9)/\_) (fun h=>h1 h.1)]
      repeat' split
      all_goals simp
theorem xcz (a b:Nat) (d:List UInt8) (n:Int):(xbf a b d n).length<=2:=by
 unfold xbf
 split <;> split <;> simp
theorem xpS (a b:Nat) (d:List UInt8) (n:Int) (k:Nat):(xhu a b d n k).length<=2:=by
 unfold xhu
 split
 ·simp
 ·split
  ·unfold xcK
   repeat' split
   all_goals simp
  ·exact xcz a b d n
theorem Forms.text {v:V} {a b:Nat} (h:v.kind=18\/v.kind=19\/v.kind=20) (ha:a=xiz v.kind) (hb:b=xaU v.kind):Forms v (xbf a b (bytesOf v.text) (-1)):=by
  have hc:xiz v.kind < 256:=by unfold xiz;split <;> (try split) <;> omega
  subst ha hb;refine ⟨fun p hp => ?_,⟨_,by unfold xbf;rw [if_pos (by omega)];exact List.mem_append_right _ (List.mem_singleton.2 rfl)⟩,by have:=xcz (xiz v.kind) (xaU v.kind) (bytesOf v.text) (-1);omega⟩;unfold xbf at hp;rw [if_pos (by omega)] at hp
  rcases List.mem_append.1 hp with hp | hp
  . split at hp
    . next h1=>rw [List.mem_singleton.1 hp];rw [bytesOf_length] at h1 ⊢;exact ⟨.text1 h h1,hc⟩
    . cases hp
  . rw [List.mem_singleton.1 hp,bytesOf_length];exact ⟨.text4 h,xfc _⟩
theorem Forms.kids {v:V} {a b:Nat} {d:List UInt8} (h:v.kind=21\/v.kind=22) (hd:EncL v.kids d) (ha:a=xqg v.kind) (hb:b=xaU v.kind):Forms v (xbf a b d v.kids.length):=by
  have hc:xqg v.kind < 256:=by unfold xqg;split <;> (try split) <;> omega
  subst ha hb;refine ⟨fun p hp => ?_,⟨_,by unfold xbf;rw [if_neg (by omega)];exact List.mem_append_right _ (List.mem_singleton.2 rfl)⟩,by have:=xcz (xqg v.kind) (xaU v.kind) d v.kids.length;omega⟩;unfold xbf at hp;rw [if_neg (by omega)] at hp
  rcases List.mem_append.1 hp with hp | hp
  . split at hp
    . next h1=>rw [List.mem_singleton.1 hp];exact ⟨.kids1 h hd (by omega) h1.2,hc⟩
    . cases hp
  . rw [List.mem_singleton.1 hp];exact ⟨.kids4 h hd,xfc _⟩
theorem Forms.list0 {v:V} {f:FL} (h:Forms v f) (h2:f.length<=2) (hk:v.kind=21) (h0:v.kids=[]):Forms v ((0x45,[]) :: f):=by
 refine ⟨fun p hp => ?_,?_,by simpa using h2⟩
 ·rcases List.mem_cons.1 hp with rfl | hp
  ·exact ⟨.list0 hk h0,by simp⟩
  ·exact h.1 p hp
 ·obtain ⟨d,hd⟩:=h.2.1;exact ⟨d,List.mem_cons_of_mem _ hd⟩
theorem Forms.arr {v:V} {d:List UInt8} (h:v.kind=23) (hd:xhE v d):Forms v (xbf 0xe0 0xf0 d v.kids.length):=by
  refine ⟨fun p hp => ?_,⟨_,by unfold xbf;rw [if_neg (by omega),h];exact List.mem_append_right _ (List.mem_singleton.2 rfl)⟩,by have:=xcz 0xe0 0xf0 d v.kids.length;omega⟩;unfold xbf at hp;rw [if_neg (by omega)] at hp
  rcases List.mem_append.1 hp with hp | hp
  . split at hp
    . next h1=>rw [List.mem_singleton.1 hp];exact ⟨.array1 h hd (by omega) h1.2,by simp⟩
    . cases hp
  . rw [List.mem_singleton.1 hp];exact ⟨.array4 h hd,by simp⟩
theorem Form.undesc {v:V} {c:Nat} {d:List UInt8} (h:Form v.bare c d):Form v c d:=by
 have he:∀ d,xhE v.bare d->xhE v d:=fun d h=>by
  cases h with
  | plain h1 h2 h3 h4=>exact .plain h1 h2 h3 h4
  | desc h1 h2 h3 h4=>exact .desc h1 h2 h3 h4
 cases h with
 | null h=>exact .null h
 | flag h=>exact .flag h
 | bool h=>exact .bool h
 | full h=>exact .full h
 | uint0 h h'=>exact .uint0 h h'
 | ulong0 h h'=>exact .ulong0 h h'
 | uint1 h h'=>exact .uint1 h h'
 | ulong1 h h'=>exact .ulong1 h h'
 | int1 h h'=>exact .int1 h h'
 | long1 h h'=>exact .long1 h h'
 | wide h h'=>exact .wide h h'
 | text1 h h'=>exact .text1 h h'
 | text4 h=>exact .text4 h
 | list0 h h'=>exact .list0 h h'
 | kids1 h h1 h2 h3=>exact .kids1 h h1 h2 h3
 | kids4 h h1=>exact .kids4 h h1
 | array1 h h1 h2 h3=>exact .array1 h (he _ h1) h2 h3
 | array4 h h1=>exact .array4 h (he _ h1)
structure Pc where
 code:Nat
 data:List UInt8
 s:Value
def Pc.cells (p:Pc):List Value:=[.int .i64 p.code,p.s]
def Pc.form (p:Pc):Nat × List UInt8:=(p.code,p.data)
structure PRow (base:Nat) (w:World) (x:Value) (l:List Pc):Prop where
 own:w.ownsRow base 64 2 x l.length (l.flatMap Pc.cells)
 ok:∀ p ∈ l,BSl (fun b=>base<=b/\x.ownBlock≠some b) w p.s p.data
def PSl (base:Nat) (w:World) (x:Value) (f:FL):Prop:=∃ l:List Pc,PRow base w x l/\l.map Pc.form=f
theorem xcB (l:List Pc):(l.flatMap Pc.cells).length=l.length*2:=by
 induction l with
 | nil=>rfl
 | cons a l ih=>rw [List.flatMap_cons,lA,ih];simp [Pc.cells];omega
theorem xia {l:List Pc} {k:Nat} {a:Pc} (h:l[k]? = some a) (m:Nat) (hm:m < 2):(l.flatMap Pc.cells)[k*2+m]? = a.cells[m]? := by
 induction l generalizing k with
 | nil=>simp at h
 | cons b l ih =>
  cases k with
  | zero =>
   simp at h;subst h;rw [List.flatMap_cons,List.getElem?_append_left (by simp [Pc.cells];omega)];simp
  | succ k =>
   rw [List.flatMap_cons,List.getElem?_append_right (by simp [Pc.cells];omega)];have:(k+1)*2+m - b.cells.length=k*2+m:=by simp [Pc.cells];omega
   rw [this];exact ih (by simpa using h)
theorem BSl.isSlice {S:Nat->Prop} {w:World} {s:Value} {bs:List UInt8} (h:BSl S w s bs):s.oneCell'=true:=by
 obtain ⟨a,c,rfl,_⟩:=h;rfl
namespace PRow
variable {base:Nat} {w w':World} {x x':Value} {l l2:List Pc}
theorem nil (base:Nat) (w:World):PRow base w (.slice none 0 0) []:=⟨World.ownsRow_nil _ _ _ _,fun _ h=>by cases h⟩
theorem keep {M:Nat->Prop} (h:PRow base w x l) (hk:Kept M w w') (hM:∀ b,base<=b->¬ M b):PRow base w' x l :=
 ⟨xaB h.own hk fun k hk=>hM k (h.own.lt k hk).1,fun p hp=>(h.ok p hp).keep hk fun b _ hb=>hM b hb.1⟩
theorem app (h:PRow base w x l) (h2:w'.ownsRow base 64 2 x' (l.length+l2.length) (l.flatMap Pc.cells ++ l2.flatMap Pc.cells)) (hg:w.grownBy w' x.ownBlock)
  (h4:x'.ownBlock=x.ownBlock\/x'.ownBlock=some w.heap.size) (h5:∀ p ∈ l2,BSl (fun b=>base<=b/\x.ownBlock≠some b) w p.s p.data):PRow base w' x' (l ++ l2):=by
 refine ⟨by simpa using h2,fun c hc => ?_⟩;have hk:Kept (fun b=>x.ownBlock=some b) w w':=⟨hg.os,hg.tape,hg.output,hg.size,fun k hk hn=>hg.block k hk (fun e=>hn e.symm)⟩
 have hcok:BSl (fun b=>base<=b/\x.ownBlock≠some b) w c.s c.data:=by
  rcases List.mem_append.1 hc with h1 | h1
  ·exact h.ok c h1
  ·exact h5 c h1
 refine ((hcok.mono (S':=fun b=>(base<=b/\x.ownBlock≠some b)/\b < w.heap.size) fun b hb hS=>⟨hS,hb⟩).keep hk fun b _ hb hm=>hb.1.2 hm).mono fun b _ hb=>⟨hb.1.1,?_⟩
 rcases h4 with e | e
 ·rw [e];exact hb.1.2
 ·rw [e];intro e';have:w.heap.size=b:=by injection e'
  omega
theorem toC (h:PRow base w x l):CSl (fun b=>base<=b) w 2 x l.length (l.flatMap Pc.cells):=by
 refine ⟨xcB l,?_⟩
 rcases h.own.2 with ⟨rfl,h0⟩ | ⟨g,cap,cur,rfl,hb,hg,hn,hm,hsz,hcur⟩
 ·exact ⟨none,0,by rw [h0],by omega,by simp [maxLen],.inl h0⟩
 ·refine ⟨_,cap,rfl,hn,hm,.inr ⟨g,0,rfl,hb,fun j u hu => ?_⟩⟩;have:=h.own.cells (g:=g) rfl j u hu;rwa [Addr.add_lit] at this
theorem lit (p:Pc) (hb:base<=w.heap.size) (hw:BSl (fun b=>base<=b) w p.s p.data):PRow base (w.alloc (.cells #[.int .i64 p.code,p.s] 64)) (.slice (some ⟨w.heap.size,0,none⟩) 1 1) [p]:=by
 refine ⟨?_,fun q hq => ?_⟩
 ·exact ⟨rfl,.inr ⟨w.heap.size,1,#[.int .i64 p.code,p.s],rfl,hb,heap_alloc_new w _,Nat.le_refl _,by simp [maxLen],rfl,by simp [Pc.cells]⟩⟩
 ·rw [List.mem_singleton.1 hq];refine ((hw.mono (S':=fun b=>base<=b/\b < w.heap.size) fun b hb hS=>⟨hS,hb⟩).keep ((kR Nope w).alloc _) fun _ _ _ h=>h).mono fun b _ hb=>⟨hb.1,?_⟩
  show some w.heap.size≠some b
  intro e;injection e with e
  omega
end PRow
namespace PSl
variable {base:Nat} {w w':World} {x:Value} {f:FL}
theorem keep {M:Nat->Prop} (h:PSl base w x f) (hk:Kept M w w') (hM:∀ b,base<=b->¬ M b):PSl base w' x f:=by
 obtain ⟨l,h1,h2⟩:=h;exact ⟨l,h1.keep hk hM,h2⟩
theorem mono {base':Nat} (h:PSl base w x f) (hb:base'<=base):PSl base' w x f:=by
 obtain ⟨l,h1,h2⟩:=h;refine ⟨l,⟨?_,fun p hp=>(h1.ok p hp).mono fun b _ hS=>⟨Nat.le_trans hb hS.1,hS.2⟩⟩,h2⟩;refine ⟨h1.own.1,?_⟩
 rcases h1.own.2 with h | ⟨g,cap,cur,e,h3,h4⟩
 ·exact .inl h
 ·exact .inr ⟨g,cap,cur,e,Nat.le_trans hb h3,h4⟩
theorem form (h:PSl base w x f):∃ p c,x = .slice p f.length c/\f.length<=c/\c<=maxLen:=by
 obtain ⟨l,h1,rfl⟩:=h;obtain ⟨_,p,c,e,h2,h3,_⟩:=h1.toC;exact ⟨p,c,by simpa using e,by simpa using h2,h3⟩
theorem at_ (h:PSl base w x f) {i:Nat} {c:Nat} {d:List UInt8} (hi:f[i]? = some (c,d)):∃ g cap a n k,x = .slice (some ⟨g,0,none⟩) f.length cap/\f.length<=cap/\cap<=maxLen /\
  w.cell? ⟨g,i*2,none⟩=some (.int .i64 c)/\w.cell? ⟨g,i*2+1,none⟩=some (.slice a n k)/\BSl (fun b=>base<=b) w (.slice a n k) d:=by
 obtain ⟨l,h1,rfl⟩:=h;rw [gM] at hi;obtain ⟨p,hp,e⟩:=Option.map_eq_some_iff.1 hi;have hb:=h1.ok p (gm hp);unfold Pc.form at e;injection e with e1 e2
 subst e1 e2;have f0:=xia hp 0 (by omega);have f1:=xia hp 1 (by omega);obtain ⟨ps,n,k,hs⟩:∃ a n k,p.s = .slice a n k:=by obtain ⟨a,c,e,_⟩:=hb;exact ⟨_,_,_,e⟩
 rcases h1.own.2 with ⟨_,h0⟩ | ⟨g,cap,cur,e,_,hg,hn,hm,_⟩
 ·have:=(gi.1 hp).1;omega
 ·subst e;have c0:=h1.own.cells (g:=g) rfl _ _ f0;have c1:=h1.own.cells (g:=g) rfl _ _ f1;rw [Addr.add_lit,Nat.zero_add] at c0 c1;refine ⟨g,cap,ps,n,k,by simp,by simpa using hn,hm,by simpa using c0,by rw [<- hs];exact c1,?_⟩;rw [<- hs];exact hb.mono fun b _ h=>h.1
end PSl
theorem xoT {k:Int} (h:0<=k/\k < 24):look codT k=xaU k:=by
 rcases xdm h with rfl | rfl | rfl | rfl | rfl | rfl | rfl | rfl | rfl | rfl | rfl | rfl | rfl | rfl | rfl | rfl | rfl | rfl | rfl | rfl | rfl | rfl | rfl | rfl <;> decide
theorem fsz_look {k:Int} (h:xay k):look fixT k=fsz k:=by
 have h':0<=k/\k < 24:=by unfold xay at h;omega
 rcases xdm h' with rfl | rfl | rfl | rfl | rfl | rfl | rfl | rfl | rfl | rfl | rfl | rfl | rfl | rfl | rfl | rfl | rfl | rfl | rfl | rfl | rfl | rfl | rfl | rfl <;> first | decide | (unfold xay at h;omega)
end
section
def OwnB (v:Value):Nat->Prop:=fun b=>v.ownBlock=some b
def BRow (base:Nat) (w:World) (x:Value) (bs:List UInt8):Prop:=w.ownsRow base 5 1 x bs.length (bs.map u8)
namespace BRow
variable {base:Nat} {w w':World} {x:Value} {bs:List UInt8}
theorem nil (base:Nat) (w:World):BRow base w (.slice none 0 0) []:=World.ownsRow_nil _ _ _ _
theorem keep {M:Nat->Prop} (h:BRow base w x bs) (hk:Kept M w w') (hM:∀ b,base<=b->¬ M b):BRow base w' x bs:=xaB h hk fun k hk=>hM k (h.lt k hk).1
theorem nope (h:BRow base w x bs) (hk:Kept Nope w w'):BRow base w' x bs:=h.keep hk fun _ _ h=>h
theorem form (h:BRow base w x bs):∃ p c,x = .slice p bs.length c:=xab h
theorem bsl (h:BRow base w x bs):BSl (fun b=>base<=b) w x bs:=(BSl.ofOwn h).mono fun b _ hb=>(h.lt b hb).1
theorem own (h:BRow base w x bs):∀ b,OwnB x b->base<=b:=fun b hb=>(h.lt b hb).1
theorem lit (bs:List UInt8) (hb:base<=w.heap.size) (hl:bs.length<=maxLen):BRow base (w.alloc (.cells (bs.map u8).toArray 5)) (.slice (some ⟨w.heap.size,0,none⟩) bs.length bs.length) bs :=
 ⟨by simp,.inr ⟨w.heap.size,bs.length,(bs.map u8).toArray,rfl,hb,heap_alloc_new w _,Nat.le_refl _,hl,by simp,by simp only [Nat.mul_one];exact List.take_of_length_le (by simp)⟩⟩
theorem mono {base':Nat} (h:BRow base w x bs) (hb:base'<=base):BRow base' w x bs:=by
 refine ⟨h.1,?_⟩
 rcases h.2 with h | ⟨g,cap,cur,e,h3,h4⟩
 ·exact .inl h
 ·exact .inr ⟨g,cap,cur,e,Nat.le_trans hb h3,h4⟩
end BRow
theorem xcj {w w':World} {v:Value} (hg:w.grownBy w' v.ownBlock):Kept (OwnB v) w w':=⟨hg.os,hg.tape,hg.output,hg.size,fun k hk hn=>hg.block k hk (fun e=>hn e.symm)⟩
theorem u8_one (bs:List UInt8):∀ u ∈ bs.map u8,u.oneCell'=true:=by
 intro u hu;obtain ⟨x,_,rfl⟩:=List.mem_map.1 hu
 rfl
def AppB (base:Nat) (w:World) (v:Value) (bs:List UInt8) (p:Option Addr) (n c:Nat) (w':World):Prop :=
 BRow base w' (.slice p n c) bs/\Kept (OwnB v) w w'/\((Value.slice p n c).ownBlock=v.ownBlock\/(Value.slice p n c).ownBlock=some w.heap.size)
section
variable {o:Oper} {a:Act} {K:Act->World->Prop} {Q:Exit->Act->World->Prop}
theorem xnZ (w:World) (s x:Operand) (ho:o.op = .call { callee:=.builtin .append,args:=#[s,x],argTypes:=#[26,26] })
  (base:Nat) (v:Value) (bs:List UInt8) (hs:a.eval s=v) (hown:BRow base w v bs) (S:Nat->Prop) (sv:Value) (ds:List UInt8) (hx:a.eval x=sv) (hr:BSl S w sv ds)
  (hl:bs.length+ds.length<=70368744177664) (hb:base<=w.heap.size)
  (h:∀ p c w',AppB base w v (bs ++ ds) p (bs.length+ds.length) c w'->K (a.put o.dst (.slice p (bs.length+ds.length) c)) w'):o.wp prog a w K Q:=by
 obtain ⟨i1,hi,hz0,hz1,hz2⟩:=info_parts xdQ;refine xaG w s x 26 ho base 5 i1 _ 1 1 underlying26 hi hz0 hz1 hz2 rfl (by omega) v bs.length (bs.map u8) hs hown S sv ds.length _ hx hr.toC (u8_one ds) (by unfold maxLen;omega) (by omega) hb fun v' w' h1 h2 h3 => ?_
 obtain ⟨p,c,rfl⟩:=xab h1;refine h p c w' ⟨?_,xcj h2,h3⟩;unfold BRow;rw [lA,List.map_append];exact h1
theorem xbm {ops:Array Oper} {E:Prop} (w:World) (s x:Operand) (hgd:o.guard=none) (ho:o.op = .call { callee:=.builtin .append,args:=#[s,x],argTypes:=#[26,26] })
  (base:Nat) (v:Value) (bs:List UInt8) (hs:a.eval s=v) (hown:BRow base w v bs) (S:Nat->Prop) (sv:Value) (ds:List UInt8) (hx:a.eval x=sv) (hr:BSl S w sv ds)
  (hl:bs.length+ds.length<=70368744177664) (hb:base<=w.heap.size)
  (h:∀ p c w',AppB base w v (bs ++ ds) p (bs.length+ds.length) c w'->K (a.put o.dst (.slice p (bs.length+ds.length) c)) w'):if Region.wanted o (yielded ops a.tmps)=true then Oper.wp prog o a w K Q else E:=by
 rw [if_pos (by simp [Region.wanted,hgd])];exact xnZ w s x ho base v bs hs hown S sv ds hx hr hl hb h
theorem xbz {ops:Array Oper} {rest:List Oper} (w:World) (s x:Operand) (hgd:o.guard=none) (ho:o.op = .call { callee:=.builtin .append,args:=#[s,x],argTypes:=#[26,26] })
  (base:Nat) (v:Value) (bs:List UInt8) (hs:a.eval s=v) (hown:BRow base w v bs) (S:Nat->Prop) (sv:Value) (ds:List UInt8) (hx:a.eval x=sv) (hr:BSl S w sv ds)
  (hl:bs.length+ds.length<=70368744177664) (hb:base<=w.heap.size)
  (h:∀ p c w',AppB base w v (bs ++ ds) p (bs.length+ds.length) c w'->wpList prog ops Q rest (a.put o.dst (.slice p (bs.length+ds.length) c)) w'):wpList prog ops Q (o :: rest) a w :=
 wpList_plain hgd fun _ hK=>xnZ w s x ho base v bs hs hown S sv ds hx hr hl hb fun p c w' h1=>hK _ _ (h p c w' h1)
theorem xoO:(prog.info? 64).map (fun i=>(i.zero,i.size,i.bytes))=some (some (.agg #[.int .i64 0,.slice none 0 0]),2,32):=by kernel_rfl
def AppP (base:Nat) (w:World) (v:Value) (l:List Pc) (p:Option Addr) (n c:Nat) (w':World):Prop:=PRow base w' (.slice p n c) l/\Kept (OwnB v) w w'
theorem xnY (w:World) (s x:Operand) (ho:o.op = .call { callee:=.builtin .append,args:=#[s,x],argTypes:=#[61,61] })
  (base:Nat) (v:Value) (l:List Pc) (hs:a.eval s=v) (hown:PRow base w v l) (S:Nat->Prop) (sv:Value) (l2:List Pc) (hx:a.eval x=sv) (hr:CSl S w 2 sv l2.length (l2.flatMap Pc.cells)) (h5:∀ p ∈ l2,BSl (fun b=>base<=b/\v.ownBlock≠some b) w p.s p.data)
  (hl:l.length+l2.length<=1000) (hb:base<=w.heap.size)
  (h:∀ p c w',AppP base w v (l ++ l2) p (l.length+l2.length) c w'->K (a.put o.dst (.slice p (l.length+l2.length) c)) w'):o.wp prog a w K Q:=by
 obtain ⟨i1,hi,hz0,hz1,hz2⟩:=info_parts xoO;refine xaG w s x 61 ho base 64 i1 _ 2 32 underlying61 hi hz0 hz1 hz2 rfl (by omega) v l.length (l.flatMap Pc.cells) hs hown.own S sv l2.length _ hx hr ?_ (by unfold maxLen;omega) (by omega) hb fun v' w' h1 h2 h3 => ?_
 ·intro u hu;obtain ⟨p,hp,hu⟩:=List.mem_flatMap.1 hu;simp only [Pc.cells,List.mem_cons,List.mem_nil_iff,or_false] at hu
  rcases hu with rfl | rfl
  ·rfl
  ·exact (h5 p hp).isSlice
 ·obtain ⟨p,c,rfl⟩:=xab h1;exact h p c w' ⟨hown.app h1 h2 h3 h5,xcj h2⟩
theorem xcy {ops:Array Oper} {E:Prop} (w:World) (s x:Operand) (hgd:o.guard=none) (ho:o.op = .call { callee:=.builtin .append,args:=#[s,x],argTypes:=#[61,61] })
  (base:Nat) (v:Value) (l:List Pc) (hs:a.eval s=v) (hown:PRow base w v l) (S:Nat->Prop) (sv:Value) (l2:List Pc) (hx:a.eval x=sv) (hr:CSl S w 2 sv l2.length (l2.flatMap Pc.cells)) (h5:∀ p ∈ l2,BSl (fun b=>base<=b/\v.ownBlock≠some b) w p.s p.data)
  (hl:l.length+l2.length<=1000) (hb:base<=w.heap.size)
  (h:∀ p c w',AppP base w v (l ++ l2) p (l.length+l2.length) c w'->K (a.put o.dst (.slice p (l.length+l2.length) c)) w'):if Region.wanted o (yielded ops a.tmps)=true then Oper.wp prog o a w K Q else E:=by
 rw [if_pos (by simp [Region.wanted,hgd])];exact xnY w s x ho base v l hs hown S sv l2 hx hr h5 hl hb h
theorem xdF {ops:Array Oper} {rest:List Oper} (w:World) (s x:Operand) (hgd:o.guard=none) (ho:o.op = .call { callee:=.builtin .append,args:=#[s,x],argTypes:=#[61,61] })
  (base:Nat) (v:Value) (l:List Pc) (hs:a.eval s=v) (hown:PRow base w v l) (S:Nat->Prop) (sv:Value) (l2:List Pc) (hx:a.eval x=sv) (hr:CSl S w 2 sv l2.length (l2.flatMap Pc.cells)) (h5:∀ p ∈ l2,BSl (fun b=>base<=b/\v.ownBlock≠some b) w p.s p.data)
  (hl:l.length+l2.length<=1000) (hb:base<=w.heap.size)
  (h:∀ p c w',AppP base w v (l ++ l2) p (l.length+l2.length) c w'->wpList prog ops Q rest (a.put o.dst (.slice p (l.length+l2.length) c)) w'):wpList prog ops Q (o :: rest) a w :=
 wpList_plain hgd fun _ hK=>xnY w s x ho base v l hs hown S sv l2 hx hr h5 hl hb fun p c w' h1=>hK _ _ (h p c w' h1)
end
theorem CSl.one_piece {W:World} (p:Pc):CSl Any_ (W.alloc (.cells #[.int .i64 p.code,p.s] 64)) 2 (.slice (some ⟨W.heap.size,0,none⟩) 1 1) [p].length ([p].flatMap Pc.cells):=by
 refine ⟨rfl,_,1,rfl,Nat.le_refl _,by decide,.inr ⟨W.heap.size,0,rfl,trivial,fun j u hu => ?_⟩⟩;rw [(Blk.new W 64 _).cell,Nat.zero_add]
 simpa [Pc.cells] using hu
end
section
def WB (base:Nat) (w:World) (r n:Nat):Prop:=∃ x bs,bs.length<=n/\Blk w r 92 #[x,.int .i64 0]/\BRow base w x bs/\base<=r
def WM (base r:Nat) (w:World):Nat->Prop:=fun b=>b=r\/(base<=b/\∃ cs fr,w.heap[b]? = some (.cells cs 5 fr))
def WK (base r:Nat) (w w':World):Prop:=Kept (WM base r w) w w'
theorem WK.trans {base r:Nat} {a b c:World} (h:WK base r a b) (k:WK base r b c):WK base r a c:=Kept.trans h k fun i hi hm=>by
 by_cases hM:WM base r a i
 ·exact hM
 ·rcases hm with rfl | ⟨hb,cs,fr,hh⟩
  ·exact .inl rfl
  ·rw [h.block i hi hM] at hh;exact .inr ⟨hb,cs,fr,hh⟩
theorem WK.of {base r:Nat} {a b:World} (h:Kept Nope a b):WK base r a b:=h.nope
theorem WK.above {base r:Nat} {a b:World} (h:WK base r a b) (hr:base<=r):Kept (fun b=>base<=b) a b:=h.mono fun i _ hi=>by
 rcases hi with rfl | ⟨hi,_⟩
 ·exact hr
 ·exact hi
theorem Blk.wk {base r:Nat} {a b:World} {g:Nat} {t:TypeId} {cs:Array Value} (h:Blk a g t cs) (hk:WK base r a b) (hg:g≠r) (ht:t≠5):Blk b g t cs:=h.kept hk (by
 rintro (e | ⟨_,cs',fr,hh⟩)
 ·exact hg e
 ·unfold Blk at h;rw [h] at hh;injection hh with hh
  injection hh with _ h2
  exact ht h2)
def xil (base:Nat) (w:World) (r n:Nat):Ending->World->Prop:=fun e w'=>e = .returned (.tuple #[])/\WB base w' r n/\WK base r w w'
def xcG (base:Nat) (w:World) (r n:Nat):Ending->World->Prop:=fun e w'=>e = .returned .nilIface/\WB base w' r n/\WK base r w w'
theorem wb_ne {base n:Nat} {w:World} {r:Nat} {x:Value} {xs:List Value} {cs:Array Value} (hb:Blk w r 92 cs) (hr:w.ownsRow base 5 1 x n xs):x.ownBlock≠some r:=by
  intro e
  rcases hr.2 with ⟨rfl,_⟩ | ⟨g,cap,cur,rfl,_,hg,_⟩
  . cases e
  . injection e with e
    subst e;unfold Blk at hb;rw [hb] at hg;injection hg with hg
    injection hg with _ h2
    exact absurd h2 (by decide)
theorem WB.mono {base:Nat} {w:World} {r n m:Nat} (h:WB base w r n) (hm:n<=m):WB base w r m:=by
 obtain ⟨x,bs,hl,h⟩:=h;exact ⟨x,bs,Nat.le_trans hl hm,h⟩
theorem WB.nope {base:Nat} {w w':World} {r n:Nat} (h:WB base w r n) (hk:Kept Nope w w'):WB base w' r n:=by
 obtain ⟨x,bs,hl,hb,hr,hbr⟩:=h;exact ⟨x,bs,hl,hb.kept hk (fun h=>h),hr.nope hk,hbr⟩
theorem WB.push {base:Nat} {w0 w1 w2:World} {r n:Nat} {v v':Value} {bs:List UInt8} (h0:Kept Nope w0 w1) (hb:Blk w1 r 92 #[v,.int .i64 0]) (hbr:base<=r) {bs0:List UInt8} (hr:BRow base w1 v bs0) (hk:Kept (OwnB v) w1 w2) (h2:BRow base w2 v' bs) (hl:bs.length<=n) :
    WB base (w2.setCell ⟨r,0,none⟩ v') r n/\WK base r w0 (w2.setCell ⟨r,0,none⟩ v'):=by
  have hne:=wb_ne hb hr;have hb2:Blk w2 r 92 #[v,.int .i64 0]:=hb.kept hk hne;have hne2:=wb_ne hb2 h2;have hks:Kept (Only r) w2 (w2.setCell ⟨r,0,none⟩ v'):=(kR _ _).set1 0 v';refine ⟨⟨v',bs,hl,by simpa using hb2.set_ 0 v',xaB h2 hks (fun k hk' e=>hne2 (by have e':k=r:=e;rw [<- e'];exact hk')),hbr⟩,?_⟩;refine ((WK.of h0).trans (hk.mono fun i _ hi => .inr ?_)).trans (hks.mono fun i _ hi => .inl hi)
  rcases hr.2 with ⟨rfl,_⟩ | ⟨g,cap,cur,rfl,hg0,hg,_⟩
  . cases hi
  . have e:i=g:=by injection hi with e;exact e.symm
    subst e;exact ⟨hg0,cur,_,hg⟩
section
variable {ops:Array Oper} {rest:List Oper} {o:Oper} {a:Act} {Q:Exit->Act->World->Prop}
theorem xdp (w0 w1:World) (s x:Operand) (hgd:o.guard=none) (ho:o.op = .call { callee:=.builtin .append,args:=#[s,x],argTypes:=#[26,26] })
  (base r n:Nat) (v:Value) (bs:List UInt8) (h0:Kept Nope w0 w1) (hs:a.eval s=v) (hb:Blk w1 r 92 #[v,.int .i64 0]) (hr:BRow base w1 v bs) (hbr:base<=r) (sv:Value) (ds:List UInt8) (hx:a.eval x=sv) (hd:BSl Any_ w1 sv ds)
  (hl:bs.length+ds.length<=n) (hn:n<=2000000)
  (h:∀ p m c w2,w2.cell? ⟨r,0,none⟩=some v->w2.frozen? ⟨r,0,none⟩=false->Hid (WB base (w2.setCell ⟨r,0,none⟩ (.slice p m c)) r n/\WK base r w0 (w2.setCell ⟨r,0,none⟩ (.slice p m c)))->wpList prog ops Q rest (a.put o.dst (.slice p m c)) w2):wpList prog ops Q (o :: rest) a w1:=by
 have hne:=wb_ne hb hr;refine xbz w1 s x hgd ho base v bs hs hr Any_ sv ds hx hd (by omega) (Nat.le_of_lt (Nat.lt_of_le_of_lt hbr hb.lt)) fun p c w2 hA => ?_
 have hb2:=hb.kept hA.2.1 hne;exact h p _ c w2 (hb2.cell 0) (hb2.frozen 0) (hid (WB.push h0 hb hbr hr hA.2.1 hA.1 (by rw [lA];exact hl)))
theorem xky (w0 w1:World) (s x:Operand) (hgd:o.guard=none) (ho:o.op = .call { callee:=.builtin .append,args:=#[s,x],argTypes:=#[26,9] })
  (base r n:Nat) (v:Value) (bs:List UInt8) (h0:Kept Nope w0 w1) (hs:a.eval s=v) (hb:Blk w1 r 92 #[v,.int .i64 0]) (hr:BRow base w1 v bs) (hbr:base<=r) (t:ByteArray) (hx:a.eval x = .string t)
  (hl:bs.length+t.size<=n) (hn:n<=2000000)
  (h:∀ p m c w2,w2.cell? ⟨r,0,none⟩=some v->w2.frozen? ⟨r,0,none⟩=false->Hid (WB base (w2.setCell ⟨r,0,none⟩ (.slice p m c)) r n/\WK base r w0 (w2.setCell ⟨r,0,none⟩ (.slice p m c)))->wpList prog ops Q rest (a.put o.dst (.slice p m c)) w2):wpList prog ops Q (o :: rest) a w1:=by
 obtain ⟨i1,hi,hz0,hz1,hz2⟩:=info_parts xdQ;have hne:=wb_ne hb hr;refine wpList_append_own_string w1 hgd s x 26 9 ho base 5 i1 underlying26 underlying9 hi hz0 hz1 hz2 v bs.length (bs.map u8) hs hr t hx (by unfold maxLen;omega) (by omega) (Nat.le_of_lt (Nat.lt_of_le_of_lt hbr hb.lt)) fun v' w2 h1 h2 _ => ?_
 have hk:=xcj h2;have hb2:=hb.kept hk hne;obtain ⟨p,c,rfl⟩:=xab h1
 have h3:BRow base w2 (.slice p (bs.length+t.size) c) (bs ++ bytesOf t):=by
  unfold BRow;rw [lA,List.map_append,bytesOf_length];exact h1
 exact h p _ c w2 (hb2.cell 0) (hb2.frozen 0) (hid (WB.push h0 hb hbr hr hk h3 (by rw [lA,bytesOf_length];exact hl)))
end
theorem u8w (x:Int):0<=IntKind.u8.wrap x/\IntKind.u8.wrap x < 256:=by
 have e:IntKind.u8.wrap x=x % 256:=rfl;rw [e];omega
theorem u8all:∀ (xs:List Int),∀ y ∈ xs.map IntKind.u8.wrap,0<=y/\y < 256:=by
 intro xs y hy;obtain ⟨x,_,rfl⟩:=List.mem_map.1 hy;exact u8w x
theorem BSl.lit {w:World} (xs:List Int) (h:∀ x ∈ xs,0<=x/\x < 256) (hl:xs.length<=8):BSl Any_ (w.alloc (.cells (xs.map (Value.int .u8)).toArray 5)) (.slice (some ⟨w.heap.size,0,none⟩) xs.length xs.length) (xs.map fun x=>UInt8.ofNat x.toNat):=by
 refine ⟨some ⟨w.heap.size,0,none⟩,xs.length,by rw [lM],by rw [lM];exact Nat.le_refl _,by unfold maxLen;omega,.inr ⟨w.heap.size,0,rfl,trivial,fun j x hx => ?_⟩⟩;rw [gM] at hx;obtain ⟨y,hy,rfl⟩:=Option.map_eq_some_iff.1 hx;have h1:=h y (gm hy);rw [(Blk.new w 5 (xs.map (Value.int .u8)).toArray).cell,Nat.zero_add,gt,gM,hy]
 show some (Value.int .u8 y)=some (u8 (UInt8.ofNat y.toNat))
 unfold u8;rw [UInt8.toNat_ofNat',Nat.mod_eq_of_lt (by omega),Int.toNat_of_nonneg h1.1]
theorem xbs (base:Nat) (w:World) (r n:Nat) (x:Int) (hx:0<=x/\x < 256) (h:WB base w r n) (hn:n<=1000000):Calls prog 193 #[.pointer (some ⟨r,0,none⟩),.int .u8 x] w (xil base w r (n+1)):=by
 obtain ⟨x0,bs,hl,hb,hr,hbr⟩:=h;obtain ⟨p,c,rfl⟩:=hr.form;have b0:=hb.cell 0;simp only [gt,gz] at b0;have HB:=hid (aI hb (aI hr (aI hbr hl)));clear hb hr;go_enter func193,ntmps193;go_wp2_with (at_builtin;go_must (refine xdp w _ (.tmp 8) (.tmp 10) rfl rfl base r (n+1) _ bs ((kR Nope w).alloc _) rfl (HB.out.1.alloc _) (HB.out.2.1.nope ((kR Nope w).alloc _)) HB.out.2.2.1 _ _ rfl (BSl.lit [x] (by intro y hy;rw [List.mem_singleton.1 hy];exact hx) (by simp)) (by have:=HB.out.2.2.2;simp;omega) (by omega) ?_;intro p2 m2 c2 w2 c0 f0 H))
 go_end0
 exact ⟨rfl,H.out.1,H.out.2⟩
theorem xeS (base:Nat) (w:World) (r n:Nat) (x:Int) (h:WB base w r n) (hn:n<=1000000):Calls prog 196 #[.pointer (some ⟨r,0,none⟩),.int .u16 x] w (xil base w r (n+2)):=by
 obtain ⟨x0,bs,hl,hb,hr,hbr⟩:=h;obtain ⟨p,c,rfl⟩:=hr.form;have b0:=hb.cell 0;simp only [gt,gz] at b0;have HB:=hid (aI hb (aI hr (aI hbr hl)));clear hb hr;go_enter func196,ntmps196;go_wp2_with (at_builtin;go_must (refine xdp w _ (.tmp 8) (.tmp 14) rfl rfl base r (n+2) _ bs ((kR Nope w).alloc _) rfl (HB.out.1.alloc _) (HB.out.2.1.nope ((kR Nope w).alloc _)) HB.out.2.2.1 _ _ rfl (BSl.lit _ (u8all [_,_]) (by simp)) (by have:=HB.out.2.2.2;simp;omega) (by omega) ?_;intro p2 m2 c2 w2 c0 f0 H))
 go_end0
 exact ⟨rfl,H.out.1,H.out.2⟩
theorem xdC (base:Nat) (w:World) (r n:Nat) (x:Int) (h:WB base w r n) (hn:n<=1000000):Calls prog 253 #[.pointer (some ⟨r,0,none⟩),.int .u32 x] w (xil base w r (n+4)):=by
 obtain ⟨x0,bs,hl,hb,hr,hbr⟩:=h;obtain ⟨p,c,rfl⟩:=hr.form;have b0:=hb.cell 0;simp only [gt,gz] at b0;have HB:=hid (aI hb (aI hr (aI hbr hl)));clear hb hr;go_enter func253,ntmps253;go_wp2_with (at_builtin;go_must (refine xdp w _ (.tmp 8) (.tmp 20) rfl rfl base r (n+4) _ bs ((kR Nope w).alloc _) rfl (HB.out.1.alloc _) (HB.out.2.1.nope ((kR Nope w).alloc _)) HB.out.2.2.1 _ _ rfl (BSl.lit _ (u8all [_,_,_,_]) (by simp)) (by have:=HB.out.2.2.2;simp;omega) (by omega) ?_;intro p2 m2 c2 w2 c0 f0 H))
 go_end0
 exact ⟨rfl,H.out.1,H.out.2⟩
theorem xdB (base:Nat) (w:World) (r n:Nat) (x:Int) (h:WB base w r n) (hn:n<=1000000):Calls prog 252 #[.pointer (some ⟨r,0,none⟩),.int .u64 x] w (xil base w r (n+8)):=by
 obtain ⟨x0,bs,hl,hb,hr,hbr⟩:=h;obtain ⟨p,c,rfl⟩:=hr.form;have b0:=hb.cell 0;simp only [gt,gz] at b0;have HB:=hid (aI hb (aI hr (aI hbr hl)));clear hb hr;go_enter func252,ntmps252;go_wp2_with (at_builtin;go_must (refine xdp w _ (.tmp 8) (.tmp 32) rfl rfl base r (n+8) _ bs ((kR Nope w).alloc _) rfl (HB.out.1.alloc _) (HB.out.2.1.nope ((kR Nope w).alloc _)) HB.out.2.2.1 _ _ rfl (BSl.lit _ (u8all [_,_,_,_,_,_,_,_]) (by simp)) (by have:=HB.out.2.2.2;simp;omega) (by omega) ?_;intro p2 m2 c2 w2 c0 f0 H))
 go_end0
 exact ⟨rfl,H.out.1,H.out.2⟩
theorem xeT (base:Nat) (w:World) (r n:Nat) (t:ByteArray) (ht:t.size<=1000000) (h:WB base w r n) (hn:n<=1000000):Calls prog 254 #[.pointer (some ⟨r,0,none⟩),.string t] w (xil base w r (n+t.size)):=by
 obtain ⟨x0,bs,hl,hb,hr,hbr⟩:=h;obtain ⟨p,c,rfl⟩:=hr.form;have b0:=hb.cell 0;simp only [gt,gz] at b0;have HB:=hid (aI hb (aI hr (aI hbr hl)));clear hb hr;go_enter func254,ntmps254;go_wp2_with (at_builtin;go_must (refine xky w _ (.tmp 8) (.tmp 9) rfl rfl base r (n+t.size) _ bs (kR Nope w) rfl HB.out.1 HB.out.2.1 HB.out.2.2.1 t rfl (by have:=HB.out.2.2.2;omega) (by omega) ?_;intro p2 m2 c2 w2 c0 f0 H))
 go_end0
 exact ⟨rfl,H.out.1,H.out.2⟩
theorem xcZ (base:Nat) (w:World) (r n:Nat) (s:Value) (ds:List UInt8) (hs:BSl Any_ w s ds) (hd:ds.length<=1000000) (h:WB base w r n) (hn:n<=1000000):Calls prog 197 #[.pointer (some ⟨r,0,none⟩),s] w (xil base w r (n+ds.length)):=by
 obtain ⟨x0,bs,hl,hb,hr,hbr⟩:=h;obtain ⟨p,c,rfl⟩:=hr.form;have b0:=hb.cell 0;simp only [gt,gz] at b0;have HB:=hid (aI hb (aI hr (aI hbr hl)));have HS:=hid hs;obtain ⟨ps,cs,rfl,_⟩:=hs;clear hb hr;go_enter func197,ntmps197;go_wp2_with (at_builtin;go_must (refine xdp w _ (.tmp 8) (.tmp 9) rfl rfl base r (n+ds.length) _ bs (kR Nope w) rfl HB.out.1 HB.out.2.1 HB.out.2.2.1 _ ds rfl HS.out (by have:=HB.out.2.2.2;omega) (by omega) ?_;intro p2 m2 c2 w2 c0 f0 H))
 go_end0
 exact ⟨rfl,H.out.1,H.out.2⟩
end
theorem xhL (c x:Int) (hc:0<=c/\c < 256):∀ y ∈ [c,IntKind.u8.wrap x],0<=y/\y < 256:=by
 intro y hy;simp only [List.mem_cons,List.mem_nil_iff,or_false] at hy
 rcases hy with rfl | rfl
 ·exact hc
 ·exact u8w x
theorem two_in (c x:Int) (hc:0<=c/\c < 256) (hx:0<=x/\x < 256):∀ y ∈ [c,x],0<=y/\y < 256:=by
 intro y hy;simp only [List.mem_cons,List.mem_nil_iff,or_false] at hy
 rcases hy with rfl | rfl
 ·exact hc
 ·exact hx
theorem xiu (base:Nat) (w:World) (r n:Nat) (x:Int) (h:WB base w r n) (hn:n<=1000):Calls prog 195 #[.pointer (some ⟨r,0,none⟩),.int .u32 x] w (xil base w r (n+9)):=by
 have HW:=hid h;clear h;go_enter func195,ntmps195;go_wp2_with (first | (go_at_call 253;go_must (refine (xdC base _ r (n+1) _ H1.out.1 (by omega)).mono ?_;rintro e w3 ⟨rfl,hw3,hk3⟩;have H3:=hid (aI hw3 (H1.out.2.trans hk3));clear hw3 hk3)) | (go_at_call 197;go_must (refine (xcZ base _ r n _ _ (BSl.lit [_,IntKind.u8.wrap _] (xhL _ _ (by decide)) (by simp)) (by simp) (HW.out.nope ((kR Nope w).alloc _)) (by omega)).mono ?_;rintro e w2 ⟨rfl,hw2,hk2⟩;have H2:=hid (aI hw2 ((WK.of ((kR Nope w).alloc _)).trans hk2));clear hw2 hk2)) | (go_at_call 193;go_must (refine (xbs base _ r n _ (by decide) (HW.out) (by omega)).mono ?_;rintro e w1 ⟨rfl,hw1,hk1⟩;have H1:=hid (aI hw1 hk1);clear hw1 hk1)))
 all_goals
  go_end0
  first
   | exact ⟨rfl,H3.out.1.mono (by omega),H3.out.2⟩
   | exact ⟨rfl,H2.out.1.mono (by simp),H2.out.2⟩
   | exact ⟨rfl,H1.out.1.mono (by omega),H1.out.2⟩
theorem xit (base:Nat) (w:World) (r n:Nat) (x:Int) (h:WB base w r n) (hn:n<=1000):Calls prog 194 #[.pointer (some ⟨r,0,none⟩),.int .u64 x] w (xil base w r (n+9)):=by
 have HW:=hid h;clear h;go_enter func194,ntmps194;go_wp2_with (first | (go_at_call 252;go_must (refine (xdB base _ r (n+1) _ H1.out.1 (by omega)).mono ?_;rintro e w3 ⟨rfl,hw3,hk3⟩;have H3:=hid (aI hw3 (H1.out.2.trans hk3));clear hw3 hk3)) | (go_at_call 197;go_must (refine (xcZ base _ r n _ _ (BSl.lit [_,IntKind.u8.wrap _] (xhL _ _ (by decide)) (by simp)) (by simp) (HW.out.nope ((kR Nope w).alloc _)) (by omega)).mono ?_;rintro e w2 ⟨rfl,hw2,hk2⟩;have H2:=hid (aI hw2 ((WK.of ((kR Nope w).alloc _)).trans hk2));clear hw2 hk2)) | (go_at_call 193;go_must (refine (xbs base _ r n _ (by decide) (HW.out) (by omega)).mono ?_;rintro e w1 ⟨rfl,hw1,hk1⟩;have H1:=hid (aI hw1 hk1);clear hw1 hk1)))
 all_goals
  go_end0
  first
   | exact ⟨rfl,H3.out.1.mono (by omega),H3.out.2⟩
   | exact ⟨rfl,H2.out.1.mono (by simp),H2.out.2⟩
   | exact ⟨rfl,H1.out.1.mono (by omega),H1.out.2⟩
theorem xjw (base:Nat) (w:World) (r n:Nat) (x:Int) (h:WB base w r n) (hn:n<=1000):Calls prog 199 #[.pointer (some ⟨r,0,none⟩),.int .i32 x] w (xil base w r (n+9)):=by
 have HW:=hid h;clear h;go_enter func199,ntmps199;go_wp2_with (first | (go_at_call 253;go_must (refine (xdC base _ r (n+1) _ H1.out.1 (by omega)).mono ?_;rintro e w3 ⟨rfl,hw3,hk3⟩;have H3:=hid (aI hw3 (H1.out.2.trans hk3));clear hw3 hk3)) | (go_at_call 197;go_must (refine (xcZ base _ r n _ _ (BSl.lit [_,IntKind.u8.wrap _] (xhL _ _ (by decide)) (by simp)) (by simp) (HW.out.nope ((kR Nope w).alloc _)) (by omega)).mono ?_;rintro e w2 ⟨rfl,hw2,hk2⟩;have H2:=hid (aI hw2 ((WK.of ((kR Nope w).alloc _)).trans hk2));clear hw2 hk2)) | (go_at_call 193;go_must (refine (xbs base _ r n _ (by decide) (HW.out) (by omega)).mono ?_;rintro e w1 ⟨rfl,hw1,hk1⟩;have H1:=hid (aI hw1 hk1);clear hw1 hk1)))
 all_goals
  go_end0
  first
   | exact ⟨rfl,H3.out.1.mono (by omega),H3.out.2⟩
   | exact ⟨rfl,H2.out.1.mono (by simp),H2.out.2⟩
   | exact ⟨rfl,H1.out.1.mono (by omega),H1.out.2⟩
theorem xjv (base:Nat) (w:World) (r n:Nat) (x:Int) (h:WB base w r n) (hn:n<=1000):Calls prog 198 #[.pointer (some ⟨r,0,none⟩),.int .i64 x] w (xil base w r (n+9)):=by
 have HW:=hid h;clear h;go_enter func198,ntmps198;go_wp2_with (first | (go_at_call 252;go_must (refine (xdB base _ r (n+1) _ H1.out.1 (by omega)).mono ?_;rintro e w3 ⟨rfl,hw3,hk3⟩;have H3:=hid (aI hw3 (H1.out.2.trans hk3));clear hw3 hk3)) | (go_at_call 197;go_must (refine (xcZ base _ r n _ _ (BSl.lit [_,IntKind.u8.wrap _] (xhL _ _ (by decide)) (by simp)) (by simp) (HW.out.nope ((kR Nope w).alloc _)) (by omega)).mono ?_;rintro e w2 ⟨rfl,hw2,hk2⟩;have H2:=hid (aI hw2 ((WK.of ((kR Nope w).alloc _)).trans hk2));clear hw2 hk2)) | (go_at_call 193;go_must (refine (xbs base _ r n _ (by decide) (HW.out) (by omega)).mono ?_;rintro e w1 ⟨rfl,hw1,hk1⟩;have H1:=hid (aI hw1 hk1);clear hw1 hk1)))
 all_goals
  go_end0
  first
   | exact ⟨rfl,H3.out.1.mono (by omega),H3.out.2⟩
   | exact ⟨rfl,H2.out.1.mono (by simp),H2.out.2⟩
   | exact ⟨rfl,H1.out.1.mono (by omega),H1.out.2⟩
theorem xgu (base:Nat) (w:World) (r n:Nat) (a b ms:Int) (h:WB base w r n) (hn:n<=1000) (hm:wrap64 (wrap64 (a*1000)+b.tdiv 1000000)=ms) (hb:0<=b/\b < 1000000000) :
  Calls prog 205 #[.pointer (some ⟨r,0,none⟩),.agg #[.int .i64 a,.int .i64 b]] w (xil base w r (n+9)):=by
 have HW:=hid (aI (h.nope ((kR Nope w).alloc (.cells #[.int .i64 a,.int .i64 b] 109))) (aI (Blk.new w 109 #[.int .i64 a,.int .i64 b]) (aI hm hb)));have hnr:w.heap.size≠r:=by obtain ⟨_,_,_,hb,_,hbr⟩:=h;have:=hb.lt;omega
 have HNR:=hid hnr;clear h hm hb hnr;go_enter func205,ntmps205;go_wp2_with (first | (go_at_call 252;go_must (refine (xdB base _ r (n+1) _ H2.out.1 (by omega)).mono ?_;rintro e w3 ⟨rfl,hw3,hk3⟩;have H3:=hid (aI hw3 (H2.out.2.trans hk3));clear hw3 hk3)) | (go_at_call 60;go_must (refine (xem a b ms _ HW.out.2.2.1 HW.out.2.2.2).mono ?_;rintro e w2 ⟨rfl,hk2⟩;have H2:=hid (aI (H1.out.1.nope hk2) (H1.out.2.trans (WK.of hk2)));clear hk2)) | (go_at_call 193;go_must (refine (xbs base _ r n _ (by decide) HW.out.1 (by omega)).mono ?_;rintro e w1 ⟨rfl,hw1,hk1⟩;have H1:=hid (aI hw1 ((WK.of ((kR Nope w).alloc _)).trans hk1));have hB1:=HW.out.2.1.wk hk1 HNR.out (by decide);have c0:=hB1.cell 0;have c1:=hB1.cell 1;simp only [gt,gz,gs] at c0 c1;clear hw1 hk1 hB1)))
 go_end0
 exact ⟨rfl,H3.out.1.mono (by omega),H3.out.2⟩
end Go.Proofs.YtmdpodeegdjkeaaGreatDoor
section
namespace Go.Proofs
open Go.Shelf
def Tryz.laysValid_ren:Go.Shelf.Ren:=⟨fun | 196=>189 | 259=>251 | n=>n,fun | 9=>9 | 4=>4 | 3=>3 | 5=>5 | 12=>12 | 119=>393 | 0=>0 | 46=>164 | 139=>396 | 138=>395 | 53=>22 | n=>n,fun | 3=>3 | 4=>4 | n=>n⟩
theorem Tryz.laysValid:Go.Proofs.Lays.n196 Tryz.prog Tryz.laysValid_ren:={
 mixed:=by kernel_rfl
 f196:=Tryz.func189.trans (congrArg some (by kernel_rfl))
 f259:=Tryz.func251.trans (congrArg some (by kernel_rfl))
 t0:=Tryz.underlying0
 a0:=Tryz.isAgg0
 z0:=Tryz.sizeOf0
 v0:=Tryz.zeroValue0
 t3:=Tryz.underlying3
 a3:=Tryz.isAgg3
 z3:=Tryz.sizeOf3
 v3:=Tryz.zeroValue3
 t4:=Tryz.underlying4
 a4:=Tryz.isAgg4
 z4:=Tryz.sizeOf4
 v4:=Tryz.zeroValue4
 t5:=Tryz.underlying5
 a5:=Tryz.isAgg5
 z5:=Tryz.sizeOf5
 v5:=Tryz.zeroValue5
 t9:=Tryz.underlying9
 a9:=Tryz.isAgg9
 z9:=Tryz.sizeOf9
 v9:=Tryz.zeroValue9
 t12:=Tryz.underlying12
 a12:=Tryz.isAgg12
 z12:=Tryz.sizeOf12
 v12:=Tryz.zeroValue12
 t46:=Tryz.underlying164
 a46:=Tryz.isAgg164
 z46:=Tryz.sizeOf164
 v46:=Tryz.zeroValue164
 t53:=Tryz.underlying22
 a53:=Tryz.isAgg22
 z53:=Tryz.sizeOf22
 v53:=Tryz.zeroValue22
 t119:=Tryz.underlying393
 a119:=Tryz.isAgg393
 z119:=Tryz.sizeOf393
 t138:=Tryz.underlying395
 a138:=Tryz.isAgg395
 z138:=Tryz.sizeOf395
 v138:=Tryz.zeroValue395
 t139:=Tryz.underlying396
 a139:=Tryz.isAgg396
 z139:=Tryz.sizeOf396
 v139:=Tryz.zeroValue396
 g3:=by kernel_rfl
 g4:=by kernel_rfl }
open Go.RowKit in
theorem Tryz.utf8_ValidString (s:ByteArray) (w:World) (hs:s.size<=9223372036854775807) (hT:Lib.Utf8Tabs (Tryz.laysValid_ren.g 3) (Tryz.laysValid_ren.g 4) w) :
  Calls Tryz.prog 189 #[.string s] w fun e w'=>e = .returned (.bool (Lib.validD s.data.toList))/\Below w.heap.size w w':=Any.utf8_ValidString Tryz.laysValid s w hs hT
end Go.Proofs
end
namespace Go.Proofs.YtmdpodeegdjkeaaGreatDoor
open Go Go.RowKit Go.Lib Tryz
def Tabs (w:World):Prop:=Lib.Utf8Tabs (Tryz.laysValid_ren.g 3) (Tryz.laysValid_ren.g 4) w
theorem Tabs.keep {M:Nat->Prop} {w w':World} (h:Tabs w) (hk:Kept M w w') (h3:¬ M (Tryz.laysValid_ren.g 3)) (h4:¬ M (Tryz.laysValid_ren.g 4)):Tabs w' :=
 ⟨fun c hc=>hk.cell (h.1 c hc) h3,fun i hi=>⟨hk.cell (h.2 i hi).1 h4,hk.cell (h.2 i hi).2 h4⟩⟩
theorem Tabs.nope {w w':World} (h:Tabs w) (hk:Kept Nope w w'):Tabs w':=h.keep hk (fun h=>h) fun h=>h
theorem Tabs.alloc {w:World} (h:Tabs w) (o:Obj):Tabs (w.alloc o):=h.nope ((kR _ _).alloc o)
theorem xjA (s:ByteArray) (w:World) (hs:s.size<=maxLen) (hT:Tabs w):Calls prog 189 #[.string s] w fun e w'=>e = .returned (.bool (Lib.validD (bytesOf s)))/\Kept Nope w w' :=
 (Tryz.utf8_ValidString s w (by unfold maxLen at hs;omega) hT).mono fun _ _ ⟨h1,h2⟩=>⟨h1,Kept.below h2 rfl⟩
end Go.Proofs.YtmdpodeegdjkeaaGreatDoor
