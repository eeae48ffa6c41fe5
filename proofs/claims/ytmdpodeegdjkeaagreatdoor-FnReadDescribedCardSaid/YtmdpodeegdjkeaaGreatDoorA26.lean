/- Part 26 of the proof (texts RdD). It has no conditions beyond the theorems' own. -/
import Derived.Defers
import Derived.Recover
import Derived.Deep.RegionHeld3
import Derived.Deep.DrawnRows
import Derived.Test.YtmdpodeegdjkeaaGreatDoorA0
import Derived.Test.YtmdpodeegdjkeaaGreatDoorA9
import Derived.Test.YtmdpodeegdjkeaaGreatDoorA18
import Derived.Test.YtmdpodeegdjkeaaGreatDoorA23
import Derived.Test.YtmdpodeegdjkeaaGreatDoorA25
set_option maxRecDepth 100000
set_option maxHeartbeats 3200000
namespace Go.Proofs.YtmdpodeegdjkeaaGreatDoor
open Go Go.RowKit Go.Lib
theorem rdDesc1_idle (a b c d:Addr) (w:World):CallsD Tryz.prog 29 #[.pointer (some a),.pointer (some b),.pointer (some c),.pointer (some d)] .returning w fun e u' w'=>e = .returned (.tuple #[])/\u' = .returning/\w'=w:=by
 refine callsD_of_wpS Tryz.func29 rfl fun c₀ cs hu => ?_
 apply wpS_seq
 apply wpS_region
 simp [wpOpsS,go_sem,recoverD,hu,Tryz.ntmps29,Exit.thenS]
 refine wpS_cond (t:=false) (by simp [Act.eval,Array.replicate]) ?_
 simp only [Bool.false_eq_true,if_false]
 refine wpS_of_wp (wp_skip ?_)
 cases c₀
 simp_all [bodyPostS,results,Tryz.results29]
theorem New_ok (w:World) (a:Option Addr) (n c:Nat):Calls Tryz.prog 30 #[.slice a n c] w fun e w'=>e = .returned (.pointer (some ⟨w.heap.size,0,none⟩))/\w'=w.alloc (.cells #[.slice a n c,.int .i64 0] 92):=by
 go_enter Tryz.func30,Tryz.ntmps30
 go_wp2
 go_ret
 exact ⟨rfl,rfl⟩
theorem Enc.first {v:V} {bs:List UInt8} (hg:Good v) (h:Enc v bs):∃ c p,bs=c :: p/\(c=64->v.kind=0/\p=[]):=by
 cases h with
 | desc h1 _ _=>rw [hg.desc] at h1;cases h1
 | @plain _ c p h1 hF =>
  have hk:=hg.tidy.kind
  refine ⟨_,_,rfl,fun hc => ?_⟩
  cases hF with
  | null h=>exact ⟨h,rfl⟩
  | flag h =>
   have h1:=hg.tidy.flag h
   have h2:=hg.tidy.pos
   have h3:v.num.toNat=0\/v.num.toNat=1:=by omega
   rcases h3 with h3 | h3 <;> rw [h3] at hc <;> exact absurd hc (by decide)
  | full h =>
   have h2:v.kind=2\/v.kind=3\/v.kind=4\/v.kind=5\/v.kind=6\/v.kind=7\/v.kind=8\/v.kind=9\/v.kind=10\/v.kind=11\/v.kind=16:=by unfold numKind at h;omega
   rcases h2 with h2 | h2 | h2 | h2 | h2 | h2 | h2 | h2 | h2 | h2 | h2 <;> rw [h2] at hc <;> exact absurd hc (by decide)
  | wide h _ =>
   have h2:v.kind=17:=by omega
   rw [h2] at hc
   exact absurd hc (by decide)
  | text1 h _=>rcases h with h2 | h2 | h2 <;> rw [h2] at hc <;> exact absurd hc (by decide)
  | text4 h=>rcases h with h2 | h2 | h2 <;> rw [h2] at hc <;> exact absurd hc (by decide)
  | kids1 h _ _ _=>rcases h with h2 | h2 <;> rw [h2] at hc <;> exact absurd hc (by decide)
  | kids4 h _=>rcases h with h2 | h2 <;> rw [h2] at hc <;> exact absurd hc (by decide)
  | _=>exact absurd hc (by decide)
def Eof (w:World):Prop:=∃ v,IsErr v/\w.cell? ⟨0,0,none⟩=some v
theorem Eof.nope {w w':World} (h:Eof w) (hk:Kept Nope w w'):Eof w':=by
 obtain ⟨v,hv,hc⟩:=h
 exact ⟨v,hv,hk.cell hc (fun h=>h)⟩
theorem Eof.lt {w:World} (h:Eof w):0 < w.heap.size:=by
 obtain ⟨v,hv,hc⟩:=h
 exact World.block_lt_of_cell? w _ hc
theorem Buf.fresh {w w1:World} {y:Value} {D:List UInt8} (he:Eof w) (hk:Kept Nope w w1) (hy:BSl (Above w) w1 y D) (hl:D.length<=1099511627776):Buf (w1.alloc (.cells #[y,.int .i64 0] 92)) w1.heap.size y D 0 :=
 ⟨Blk.new _ _ _,(hy.mono (S':=fun b=>b≠w1.heap.size) fun b hb _=>by omega).keep ((Kept.refl Nope w1).alloc _) (fun _ _ _ h=>h),Nat.zero_le _,hl,he.nope (hk.alloc _),by have:=he.lt;have:=hk.size;omega⟩
theorem Buf.keepP {w w':World} {r:Nat} {s:Value} {D:List UInt8} {i P:Nat} (h:Buf w r s D i) (hk:Kept (Only P) w w') (hr:r≠P) (hb:BSl (fun b=>b≠r/\b≠P) w s D) (he:0≠P):Buf w' r s D i:=by
 obtain ⟨v,hv,hc⟩:=h.eof
 exact ⟨h.blk.kept hk hr,(hb.keep hk (fun b _ hb e=>hb.2 e)).mono fun _ _ hb=>hb.1,h.le,h.small,⟨v,hv,hk.cell hc he⟩,h.ne⟩
structure DescIn (D:List UInt8) (d v:V) (bh:List UInt8):Prop where
 enc:∃ eb vb,Enc d eb/\Enc v vb/\D=0 :: (eb ++ vb ++ bh)
 gd:Good d
 gv:Good v
 ud:Utf (asRead d)
 uv:Utf (asRead v)
 len:D.length < 4294967296
def DescOut (w:World) (d v:V) (bh:List UInt8):Ending->World->Prop:=fun e w'=>∃ dx vx rx,e = .returned (.tuple #[dx,vx,rx,.bool true])/\Kept Nope w w'/\(∃ d',VAgg (Above w) w' dx d'/\Loosely (asRead d) d')/\(∃ v',VAgg (Above w) w' vx v'/\Loosely (asRead v) v')/\BSl (Above w) w' rx bh
theorem stores2 {w:World} {P:Nat} {T T2 T3:TypeId} {a0 a1 a2 a3 a4 a5 b0 b1 b2 b3 b4 b5 c d:Value} {A B:Array Value} (hA:A = #[a0,a1,a2,a3,a4,a5]) (hB:B = #[b0,b1,b2,b3,b4,b5]) (g0:Blk w P T A) (g1:Blk w (P+1) T B) (g2:Blk w (P+1+1) T2 #[c]) (g3:Blk w (P+1+1+1) T3 #[d]) :
  Blk ((((((w.setCell ⟨P,0,none⟩ a0).setCell ⟨P,1,none⟩ a1).setCell ⟨P,2,none⟩ a2).setCell ⟨P,3,none⟩ a3).setCell ⟨P,4,none⟩ a4).setCell ⟨P,5,none⟩ a5) P T A/\Blk ((((((w.setCell ⟨P,0,none⟩ a0).setCell ⟨P,1,none⟩ a1).setCell ⟨P,2,none⟩ a2).setCell ⟨P,3,none⟩ a3).setCell ⟨P,4,none⟩ a4).setCell ⟨P,5,none⟩ a5) (P+1) T B/\Blk ((((((((((((w.setCell ⟨P,0,none⟩ a0).setCell ⟨P,1,none⟩ a1).setCell ⟨P,2,none⟩ a2).setCell ⟨P,3,none⟩ a3).setCell ⟨P,4,none⟩ a4).setCell ⟨P,5,none⟩ a5).setCell ⟨P+1,0,none⟩ b0).setCell ⟨P+1,1,none⟩ b1).setCell ⟨P+1,2,none⟩ b2).setCell ⟨P+1,3,none⟩ b3).setCell ⟨P+1,4,none⟩ b4).setCell ⟨P+1,5,none⟩ b5) P T A/\Blk ((((((((((((w.setCell ⟨P,0,none⟩ a0).setCell ⟨P,1,none⟩ a1).setCell ⟨P,2,none⟩ a2).setCell ⟨P,3,none⟩ a3).setCell ⟨P,4,none⟩ a4).setCell ⟨P,5,none⟩ a5).setCell ⟨P+1,0,none⟩ b0).setCell ⟨P+1,1,none⟩ b1).setCell ⟨P+1,2,none⟩ b2).setCell ⟨P+1,3,none⟩ b3).setCell ⟨P+1,4,none⟩ b4).setCell ⟨P+1,5,none⟩ b5) (P+1) T B /\
  (∀ x,Blk (((((((((((((w.setCell ⟨P,0,none⟩ a0).setCell ⟨P,1,none⟩ a1).setCell ⟨P,2,none⟩ a2).setCell ⟨P,3,none⟩ a3).setCell ⟨P,4,none⟩ a4).setCell ⟨P,5,none⟩ a5).setCell ⟨P+1,0,none⟩ b0).setCell ⟨P+1,1,none⟩ b1).setCell ⟨P+1,2,none⟩ b2).setCell ⟨P+1,3,none⟩ b3).setCell ⟨P+1,4,none⟩ b4).setCell ⟨P+1,5,none⟩ b5).setCell ⟨P+1+1,0,none⟩ x) P T A/\Blk (((((((((((((w.setCell ⟨P,0,none⟩ a0).setCell ⟨P,1,none⟩ a1).setCell ⟨P,2,none⟩ a2).setCell ⟨P,3,none⟩ a3).setCell ⟨P,4,none⟩ a4).setCell ⟨P,5,none⟩ a5).setCell ⟨P+1,0,none⟩ b0).setCell ⟨P+1,1,none⟩ b1).setCell ⟨P+1,2,none⟩ b2).setCell ⟨P+1,3,none⟩ b3).setCell ⟨P+1,4,none⟩ b4).setCell ⟨P+1,5,none⟩ b5).setCell ⟨P+1+1,0,none⟩ x) (P+1) T B) /\
  (∀ x y,Blk ((((((((((((((w.setCell ⟨P,0,none⟩ a0).setCell ⟨P,1,none⟩ a1).setCell ⟨P,2,none⟩ a2).setCell ⟨P,3,none⟩ a3).setCell ⟨P,4,none⟩ a4).setCell ⟨P,5,none⟩ a5).setCell ⟨P+1,0,none⟩ b0).setCell ⟨P+1,1,none⟩ b1).setCell ⟨P+1,2,none⟩ b2).setCell ⟨P+1,3,none⟩ b3).setCell ⟨P+1,4,none⟩ b4).setCell ⟨P+1,5,none⟩ b5).setCell ⟨P+1+1,0,none⟩ x).setCell ⟨P+1+1+1,0,none⟩ y) P T A/\Blk ((((((((((((((w.setCell ⟨P,0,none⟩ a0).setCell ⟨P,1,none⟩ a1).setCell ⟨P,2,none⟩ a2).setCell ⟨P,3,none⟩ a3).setCell ⟨P,4,none⟩ a4).setCell ⟨P,5,none⟩ a5).setCell ⟨P+1,0,none⟩ b0).setCell ⟨P+1,1,none⟩ b1).setCell ⟨P+1,2,none⟩ b2).setCell ⟨P+1,3,none⟩ b3).setCell ⟨P+1,4,none⟩ b4).setCell ⟨P+1,5,none⟩ b5).setCell ⟨P+1+1,0,none⟩ x).setCell ⟨P+1+1+1,0,none⟩ y) (P+1) T B/\Blk ((((((((((((((w.setCell ⟨P,0,none⟩ a0).setCell ⟨P,1,none⟩ a1).setCell ⟨P,2,none⟩ a2).setCell ⟨P,3,none⟩ a3).setCell ⟨P,4,none⟩ a4).setCell ⟨P,5,none⟩ a5).setCell ⟨P+1,0,none⟩ b0).setCell ⟨P+1,1,none⟩ b1).setCell ⟨P+1,2,none⟩ b2).setCell ⟨P+1,3,none⟩ b3).setCell ⟨P+1,4,none⟩ b4).setCell ⟨P+1,5,none⟩ b5).setCell ⟨P+1+1,0,none⟩ x).setCell ⟨P+1+1+1,0,none⟩ y) (P+1+1) T2 #[x]/\Blk ((((((((((((((w.setCell ⟨P,0,none⟩ a0).setCell ⟨P,1,none⟩ a1).setCell ⟨P,2,none⟩ a2).setCell ⟨P,3,none⟩ a3).setCell ⟨P,4,none⟩ a4).setCell ⟨P,5,none⟩ a5).setCell ⟨P+1,0,none⟩ b0).setCell ⟨P+1,1,none⟩ b1).setCell ⟨P+1,2,none⟩ b2).setCell ⟨P+1,3,none⟩ b3).setCell ⟨P+1,4,none⟩ b4).setCell ⟨P+1,5,none⟩ b5).setCell ⟨P+1+1,0,none⟩ x).setCell ⟨P+1+1+1,0,none⟩ y) (P+1+1+1) T3 #[y]/\Kept (fun b=>P<=b/\b < P+4) w ((((((((((((((w.setCell ⟨P,0,none⟩ a0).setCell ⟨P,1,none⟩ a1).setCell ⟨P,2,none⟩ a2).setCell ⟨P,3,none⟩ a3).setCell ⟨P,4,none⟩ a4).setCell ⟨P,5,none⟩ a5).setCell ⟨P+1,0,none⟩ b0).setCell ⟨P+1,1,none⟩ b1).setCell ⟨P+1,2,none⟩ b2).setCell ⟨P+1,3,none⟩ b3).setCell ⟨P+1,4,none⟩ b4).setCell ⟨P+1,5,none⟩ b5).setCell ⟨P+1+1,0,none⟩ x).setCell ⟨P+1+1+1,0,none⟩ y)):=by
 subst hA hB
 have h0:Blk ((((((w.setCell ⟨P,0,none⟩ a0).setCell ⟨P,1,none⟩ a1).setCell ⟨P,2,none⟩ a2).setCell ⟨P,3,none⟩ a3).setCell ⟨P,4,none⟩ a4).setCell ⟨P,5,none⟩ a5) P T #[a0,a1,a2,a3,a4,a5]:=by simpa using (((((g0.set_ 0 a0).set_ 1 a1).set_ 2 a2).set_ 3 a3).set_ 4 a4).set_ 5 a5
 have h1:Blk ((((((w.setCell ⟨P,0,none⟩ a0).setCell ⟨P,1,none⟩ a1).setCell ⟨P,2,none⟩ a2).setCell ⟨P,3,none⟩ a3).setCell ⟨P,4,none⟩ a4).setCell ⟨P,5,none⟩ a5) (P+1) T #[b0,b1,b2,b3,b4,b5]:=((((((g1.far (show P+1≠P by omega) a0).far (show P+1≠P by omega) a1).far (show P+1≠P by omega) a2).far (show P+1≠P by omega) a3).far (show P+1≠P by omega) a4).far (show P+1≠P by omega) a5)
 have k0:Blk ((((((((((((w.setCell ⟨P,0,none⟩ a0).setCell ⟨P,1,none⟩ a1).setCell ⟨P,2,none⟩ a2).setCell ⟨P,3,none⟩ a3).setCell ⟨P,4,none⟩ a4).setCell ⟨P,5,none⟩ a5).setCell ⟨P+1,0,none⟩ b0).setCell ⟨P+1,1,none⟩ b1).setCell ⟨P+1,2,none⟩ b2).setCell ⟨P+1,3,none⟩ b3).setCell ⟨P+1,4,none⟩ b4).setCell ⟨P+1,5,none⟩ b5) P T #[a0,a1,a2,a3,a4,a5]:=((((((h0.far (show P≠P+1 by omega) b0).far (show P≠P+1 by omega) b1).far (show P≠P+1 by omega) b2).far (show P≠P+1 by omega) b3).far (show P≠P+1 by omega) b4).far (show P≠P+1 by omega) b5)
 have k1:Blk ((((((((((((w.setCell ⟨P,0,none⟩ a0).setCell ⟨P,1,none⟩ a1).setCell ⟨P,2,none⟩ a2).setCell ⟨P,3,none⟩ a3).setCell ⟨P,4,none⟩ a4).setCell ⟨P,5,none⟩ a5).setCell ⟨P+1,0,none⟩ b0).setCell ⟨P+1,1,none⟩ b1).setCell ⟨P+1,2,none⟩ b2).setCell ⟨P+1,3,none⟩ b3).setCell ⟨P+1,4,none⟩ b4).setCell ⟨P+1,5,none⟩ b5) (P+1) T #[b0,b1,b2,b3,b4,b5]:=by simpa using (((((h1.set_ 0 b0).set_ 1 b1).set_ 2 b2).set_ 3 b3).set_ 4 b4).set_ 5 b5
 have k2:Blk ((((((((((((w.setCell ⟨P,0,none⟩ a0).setCell ⟨P,1,none⟩ a1).setCell ⟨P,2,none⟩ a2).setCell ⟨P,3,none⟩ a3).setCell ⟨P,4,none⟩ a4).setCell ⟨P,5,none⟩ a5).setCell ⟨P+1,0,none⟩ b0).setCell ⟨P+1,1,none⟩ b1).setCell ⟨P+1,2,none⟩ b2).setCell ⟨P+1,3,none⟩ b3).setCell ⟨P+1,4,none⟩ b4).setCell ⟨P+1,5,none⟩ b5) (P+1+1) T2 #[c]:=((((((((((((g2.far (show P+1+1≠P by omega) a0).far (show P+1+1≠P by omega) a1).far (show P+1+1≠P by omega) a2).far (show P+1+1≠P by omega) a3).far (show P+1+1≠P by omega) a4).far (show P+1+1≠P by omega) a5).far (show P+1+1≠P+1 by omega) b0).far (show P+1+1≠P+1 by omega) b1).far (show P+1+1≠P+1 by omega) b2).far (show P+1+1≠P+1 by omega) b3).far (show P+1+1≠P+1 by omega) b4).far (show P+1+1≠P+1 by omega) b5)
 have k3:Blk ((((((((((((w.setCell ⟨P,0,none⟩ a0).setCell ⟨P,1,none⟩ a1).setCell ⟨P,2,none⟩ a2).setCell ⟨P,3,none⟩ a3).setCell ⟨P,4,none⟩ a4).setCell ⟨P,5,none⟩ a5).setCell ⟨P+1,0,none⟩ b0).setCell ⟨P+1,1,none⟩ b1).setCell ⟨P+1,2,none⟩ b2).setCell ⟨P+1,3,none⟩ b3).setCell ⟨P+1,4,none⟩ b4).setCell ⟨P+1,5,none⟩ b5) (P+1+1+1) T3 #[d]:=((((((((((((g3.far (show P+1+1+1≠P by omega) a0).far (show P+1+1+1≠P by omega) a1).far (show P+1+1+1≠P by omega) a2).far (show P+1+1+1≠P by omega) a3).far (show P+1+1+1≠P by omega) a4).far (show P+1+1+1≠P by omega) a5).far (show P+1+1+1≠P+1 by omega) b0).far (show P+1+1+1≠P+1 by omega) b1).far (show P+1+1+1≠P+1 by omega) b2).far (show P+1+1+1≠P+1 by omega) b3).far (show P+1+1+1≠P+1 by omega) b4).far (show P+1+1+1≠P+1 by omega) b5)
 refine ⟨h0,h1,k0,k1,fun x=>⟨k0.far (show P≠P+1+1 by omega) x,k1.far (show P+1≠P+1+1 by omega) x⟩,fun x y=>⟨(k0.far (show P≠P+1+1 by omega) x).far (show P≠P+1+1+1 by omega) y,(k1.far (show P+1≠P+1+1 by omega) x).far (show P+1≠P+1+1+1 by omega) y,?_,?_,?_⟩⟩
 ·exact (show Blk (((((((((((((w.setCell ⟨P,0,none⟩ a0).setCell ⟨P,1,none⟩ a1).setCell ⟨P,2,none⟩ a2).setCell ⟨P,3,none⟩ a3).setCell ⟨P,4,none⟩ a4).setCell ⟨P,5,none⟩ a5).setCell ⟨P+1,0,none⟩ b0).setCell ⟨P+1,1,none⟩ b1).setCell ⟨P+1,2,none⟩ b2).setCell ⟨P+1,3,none⟩ b3).setCell ⟨P+1,4,none⟩ b4).setCell ⟨P+1,5,none⟩ b5).setCell ⟨P+1+1,0,none⟩ x) (P+1+1) T2 #[x] by simpa using k2.set_ 0 x).far (show P+1+1≠P+1+1+1 by omega) y
 ·simpa using (k3.far (show P+1+1+1≠P+1+1 by omega) x).set_ 0 y
 ·have s0:∀ {W:World} (_:Kept (fun b=>P<=b/\b < P+4) w W) (j k:Nat) (u:Value),P<=j/\j < P+4->Kept (fun b=>P<=b/\b < P+4) w (W.setCell ⟨j,k,none⟩ u):=fun h j k u hj=>h.setCell (p:=⟨j,k,none⟩) (.inl hj) u
  exact (s0 (s0 (s0 (s0 (s0 (s0 (s0 (s0 (s0 (s0 (s0 (s0 (s0 (s0 (Kept.refl _ w) P 0 a0 (by omega)) P 1 a1 (by omega)) P 2 a2 (by omega)) P 3 a3 (by omega)) P 4 a4 (by omega)) P 5 a5 (by omega)) (P+1) 0 b0 (by omega)) (P+1) 1 b1 (by omega)) (P+1) 2 b2 (by omega)) (P+1) 3 b3 (by omega)) (P+1) 4 b4 (by omega)) (P+1) 5 b5 (by omega)) (P+1+1) 0 x (by omega)) (P+1+1+1) 0 y (by omega))
theorem results_cells4 {fn:Func} {a b c d:Tmp} {t1 t2 t3 t4:TypeId} (h:fn.results = #[.cell a t1,.cell b t2,.cell c t3,.cell d t4]) (tmps:Array Value) (P:Program) (w:World) {p1 p2 p3 p4:Addr} {x1 x2 x3 x4:Value}
  (h1:tmps.getD a undef = .pointer (some p1)) (h2:tmps.getD b undef = .pointer (some p2)) (h3:tmps.getD c undef = .pointer (some p3)) (h4:tmps.getD d undef = .pointer (some p4))
  (l1:(loadVar t1 p1).run P w = .ok x1 w) (l2:(loadVar t2 p2).run P w = .ok x2 w) (l3:(loadVar t3 p3).run P w = .ok x3 w) (l4:(loadVar t4 p4).run P w = .ok x4 w) :
  (results fn tmps).run P w = .ok (.tuple #[x1,x2,x3,x4]) w:=by
 simp only [results,h]
 simp only [Array.getD_eq_getD_getElem?] at h1 h2 h3 h4
 simp [Sem.run_bind,Result.andThen,h1,h2,h3,h4,asAddr,l1,l2,l3,l4]
theorem ret4 (w':World) (R:Ending->World->Prop) (tmps:Array Value) (P:Nat) (xd xv:Array Value) (x y:Value) (h2:tmps.getD 2 undef = .pointer (some ⟨P,0,none⟩)) (h3:tmps.getD 3 undef = .pointer (some ⟨P+1,0,none⟩)) (h4:tmps.getD 4 undef = .pointer (some ⟨P+1+1,0,none⟩)) (h5:tmps.getD 5 undef = .pointer (some ⟨P+1+1+1,0,none⟩))
  (b0:Blk w' P 25 xd) (z0:xd.size=6) (b1:Blk w' (P+1) 25 xv) (z1:xv.size=6) (b2:Blk w' (P+1+1) 26 #[x]) (b3:Blk w' (P+1+1+1) 4 #[y]) (hR:R (.returned (.tuple #[.agg xd,.agg xv,x,y])) w'):Leaves Tryz.prog Tryz.f11 tmps R [] .returning w':=by
 have l0:=run_loadVar_row (P:=Tryz.prog) w' P 25 25 _ _ _ b0 Tryz.underlying25 rfl (by rw [z0];kernel_rfl)
 have l1:=run_loadVar_row (P:=Tryz.prog) w' (P+1) 25 25 _ _ _ b1 Tryz.underlying25 rfl (by rw [z1];kernel_rfl)
 have c2:=b2.cell 0
 have c3:=b3.cell 0
 simp only [List.getElem?_toArray,List.getElem?_cons_zero] at c2 c3
 have l2:(loadVar 26 ⟨P+1+1,0,none⟩).run Tryz.prog w' = .ok x w':=by
  simp [loadVar,c2,go_sem]
 have l3:(loadVar 4 ⟨P+1+1+1,0,none⟩).run Tryz.prog w' = .ok y w':=by
  simp [loadVar,c3,go_sem]
 exact ⟨_,results_cells4 rfl tmps Tryz.prog w' h2 h3 h4 h5 l0 l1 l2 l3,hR⟩
theorem ReadDescribed_ok (w:World) (s:Value) (D:List UInt8) (d v:V) (bh:List UInt8) (hs:BSl Any_ w s D) (hI:DescIn D d v bh) (hT:Tabs w) (he:Eof w):Calls Tryz.prog 11 #[s] w (DescOut w d v bh):=by
 obtain ⟨⟨eb,vb,hed,hev,hD⟩,gd,gv,ud,uv,hlen⟩:=hI
 obtain ⟨c1,p1,hc1,hn1⟩:=Enc.first gd hed
 obtain ⟨c2,p2,hc2,hn2⟩:=Enc.first gv hev
 have hLd:Lies D 1 eb:=fun k x hk=>by
  have hlt:=(List.getElem?_eq_some_iff.1 hk).1
  rw [hD,Nat.add_comm 1 k,List.getElem?_cons_succ,List.append_assoc,List.getElem?_append_left hlt]
  exact hk
 have hLv:Lies D (1+eb.length) vb:=fun k x hk=>by
  have hlt:=(List.getElem?_eq_some_iff.1 hk).1
  rw [hD,show 1+eb.length+k=(eb.length+k)+1 by omega,List.getElem?_cons_succ,List.append_assoc,List.getElem?_append_right (by omega),show eb.length+k - eb.length=k by omega,List.getElem?_append_left hlt]
  exact hk
 have hdrop:D.drop (1+eb.length+vb.length)=bh:=by
  rw [hD,show 1+eb.length+vb.length=(eb ++ vb).length+1 by rw [List.length_append];omega,List.drop_succ_cons,List.drop_left]
 have hz:D[0]? = some 0:=by rw [hD];rfl
 have hb1:D[0+1]? = some c1:=(hc1 ▸ hLd).head
 have hb2:D[1+eb.length]? = some c2:=(hc2 ▸ hLv).head
 have hle:1+eb.length+vb.length<=D.length:=by rw [hD];simp;omega
 have HR:=hid (aI hLd (aI hLv (aI hed (aI hev (aI gd (aI gv (aI ud (aI uv hlen))))))))
 have HN:=hid (aI hz (aI hb1 (aI hb2 (aI hn1 (aI hn2 (aI hc1 (aI hc2 (aI hdrop hle))))))))
 have HW:=hid (aI hs (aI hT he))
 clear hed hev hD gd gv ud uv hlen hc1 hn1 hc2 hn2 hLd hLv hdrop hz hb1 hb2 hle hT he
 obtain ⟨sa,sc,rfl,_⟩:=hs
 have hmf:∀ (fn:Fn) (first cap:Array Value) (w:World),(Instr.makeFunc fn first cap).run Tryz.prog w = .ok (.func fn first cap) w:=fun _ _ _ _=>rfl
 go_enter_defers Tryz.func11,Tryz.ntmps11
 go_wp2_with fail
 obtain ⟨P,hP⟩:∃ P,w.heap.size=P:=⟨_,rfl⟩
 obtain ⟨W4,hW4⟩:∃ W4,(((w.alloc (.cells zVal 25)).alloc (.cells zVal 25)).alloc (.cells #[.slice none 0 0] 26)).alloc (.cells #[.bool false] 4)=W4:=⟨_,rfl⟩
 have hB0:Blk W4 P 25 zVal:=by rw [<- hW4,<- hP];exact (((Blk.new w 25 zVal).alloc _).alloc _).alloc _
 have hB1:Blk W4 (P+1) 25 zVal:=by
  have h:=Blk.new (w.alloc (.cells zVal 25)) 25 zVal
  rw [World.size_alloc,hP] at h
  rw [<- hW4]
  exact (h.alloc _).alloc _
 have hB2:Blk W4 (P+1+1) 26 #[.slice none 0 0]:=by
  have h:=Blk.new ((w.alloc (.cells zVal 25)).alloc (.cells zVal 25)) 26 #[.slice none 0 0]
  rw [World.size_alloc,World.size_alloc,hP] at h
  rw [<- hW4]
  exact h.alloc _
 have hB3:Blk W4 (P+1+1+1) 4 #[.bool false]:=by
  have h:=Blk.new (((w.alloc (.cells zVal 25)).alloc (.cells zVal 25)).alloc (.cells #[.slice none 0 0] 26)) 4 #[.bool false]
  rw [World.size_alloc,World.size_alloc,World.size_alloc,hP] at h
  rw [<- hW4]
  exact h
 have hK4:Kept Nope w W4:=by rw [<- hW4];exact ((((Kept.refl Nope w).alloc _).alloc _).alloc _).alloc _
 have hs4:W4.heap.size=P+1+1+1+1:=by rw [<- hW4,World.size_alloc,World.size_alloc,World.size_alloc,World.size_alloc,hP]
 unfold zVal at hW4
 rw [hW4,hP]
 have HB:=hid (aI hB0 (aI hB1 (aI hB2 (aI hB3 (aI hK4 (aI hs4 hP))))))
 have hu2:(Tryz.prog.info? 25).map (fun i=>i.size)=some 6:=by kernel_rfl
 have HU:=hid hu2
 clear hB0 hB1 hB2 hB3 hK4 hs4 hW4 hP hu2
 go_wp2_with (first
  | (refine wpList_store_kept rfl 25 (.tmp 3) (.tmp 29) rfl (P+1) (Lay.mk v' (.slice pk6 v'.kids.length ck6) (.slice pd6 v'.desc.length cd6)).cells.toArray rfl rfl 25 zVal H6.out.2.2.2 (by rw [HU.out];rfl) rfl (by simp [Lay.cells,Value.oneCell']) ?_;intro W7 hW7 hK7;have H7:=hid (aI hW7 hK7);clear hW7 hK7)
  | (go_at_call 33;(refine (valued_any _ v (Nat.le_refl _) HR.out.2.2.2.2.2.1 HR.out.2.2.2.2.2.2.2.1 _ _ H5.out.2.2.1 H5.out.2.2.2.1).mono ?_;rintro e w6 ⟨y6,b6,rfl,rfl,hk6,v',hv6,hlo6⟩;obtain ⟨ks6,ds6,rfl,g6⟩:=hv6;obtain ⟨pk6,ck6,rfl,_⟩:=g6.2.1.form;obtain ⟨pd6,cd6,rfl,_⟩:=g6.2.2.form;have H6:=hid (aI hk6 (aI g6 (aI hlo6 (H5.out.2.2.2.2.kept hk6 (fun h=>h)))));clear hk6 g6 hlo6;unfold vagg))
  | (refine wpList_store_kept rfl 25 (.tmp 2) (.tmp 23) rfl P (Lay.mk d' (.slice pk4 d'.kids.length ck4) (.slice pd4 d'.desc.length cd4)).cells.toArray rfl rfl 25 zVal H4.out.2.2.2.1 (by rw [HU.out];rfl) rfl (by simp [Lay.cells,Value.oneCell']) ?_;intro W5 hW5 hK5;have hnp:w2.heap.size≠P:=(by have h1:=H2.out.2.size;have h2:=H1.out.2.size;have h3:=HB.out.2.2.2.2.2.1;omega);have c51:=((H3.out.2.2.1.kept H4.out.1 (fun h=>h)).kept hK5 hnp).cell 1;simp only [List.getElem?_toArray,List.getElem?_cons_zero,List.getElem?_cons_succ] at c51;have hkw5:Kept Nope w W5:=(H3.out.2.1.trans' H4.out.1).trans hK5 (fun k hk e=>by have e':k=P:=e;have h9:=HB.out.2.2.2.2.2.2;omega);have hy5:=((H3.out.2.2.2.2.keep H4.out.1 (fun _ _ _ h=>h)).keep hK5 (fun b _ hb e=>by have e':b=P:=e;have hb':w2.heap.size<=b:=hb;have h1:=H2.out.2.size;have h2:=H1.out.2.size;have h3:=HB.out.2.2.2.2.2.1;omega));have H5:=hid (aI hW5 (aI hK5 (aI (HW.out.2.1.nope hkw5) (aI (hy5.mono (S':=Any_) fun _ _=>trivial) (H4.out.2.2.2.2.kept hK5 (fun e=>by have e':P+1=P:=e;omega))))));clear hW5 hK5 hkw5 hy5 hnp)
  | (go_at_call 33;go_must (refine (valued_any _ d (Nat.le_refl _) HR.out.2.2.2.2.1 HR.out.2.2.2.2.2.2.1 _ _ (HW.out.2.1.nope H3.out.2.1) (H3.out.2.2.2.1.mono fun _ _=>trivial)).mono ?_;rintro e w4 ⟨y4,b4,rfl,rfl,hk4,d',hv4,hlo4⟩;obtain ⟨ks4,ds4,rfl,g4⟩:=hv4;obtain ⟨pk4,ck4,rfl,_⟩:=g4.2.1.form;obtain ⟨pd4,cd4,rfl,_⟩:=g4.2.2.form;have hkW:Kept (Only w1.heap.size) W4 w4:=((H1.out.2.trans' H2.out.2).nope.trans' H3.out.1.kept).trans' hk4.nope;have hnr:∀ q,q < P+4->¬ Only w1.heap.size q:=fun q hq e=>(by have e':q=w1.heap.size:=e;have h2:=H1.out.2.size;have h3:=HB.out.2.2.2.2.2.1;omega);have H4:=hid (aI hk4 (aI g4 (aI hlo4 (aI (HB.out.1.kept hkW (hnr P (by omega))) (HB.out.2.1.kept hkW (hnr _ (by omega)))))));clear hk4 g4 hlo4 hkW hnr;unfold vagg))
  | (go_at_call 32;go_must (refine (descUn_ok w2 _ w1.heap.size _ D 0 0 (1+eb.length) (1+eb.length+vb.length) w2.heap.size 52 c1 c2 (asRead d) (asRead v) H2.out.1 ((At_.refl H2.out.1).nope ((Kept.refl Nope w2).alloc _)) (Nat.le_refl _) (Blk.new w2 _ _) HN.out.1 HN.out.2.1 (fun h=>by have h1:=HN.out.2.2.2.1 h;have h2:=HN.out.2.2.2.2.2.1;rw [h1.2] at h2;rw [asRead_kind,h2,h1.1];simp) HN.out.2.2.1 (fun h=>by have h1:=HN.out.2.2.2.2.1 h;have h2:=HN.out.2.2.2.2.2.2.1;rw [h1.2] at h2;rw [asRead_kind,h2,h1.1];simp) (fun W hW=>read_all _ _ D HR.out.2.2.2.2.2.2.2.2 _ d (Nat.le_refl _) HR.out.2.2.2.2.1 eb HR.out.2.2.1 W 1 hW HR.out.1) (fun W hW=>read_all _ _ D HR.out.2.2.2.2.2.2.2.2 _ v (Nat.le_refl _) HR.out.2.2.2.2.2.1 vb HR.out.2.2.2.1 W _ hW HR.out.2.1)).mono ?_;rintro e w3 ⟨_,rfl,rfl,hA3,x3,y3,hb3,hx3,hy3⟩;have c30:=hb3.cell 0;simp only [List.getElem?_toArray,List.getElem?_cons_zero] at c30;have hkw3:Kept Nope w w3:=(HB.out.2.2.2.2.1.trans' (H1.out.2.trans' H2.out.2)).trans hA3.kept (fun k hk e=>by have e':k=w1.heap.size:=e;have h2:=(HB.out.2.2.2.2.1.trans' H1.out.2).size;omega);have H3:=hid (aI hA3 (aI hkw3 (aI hb3 (aI hx3 hy3))));clear hA3 hb3 hx3 hy3 hkw3))
  | (go_at_call 30;go_must (refine (New_ok _ _ _ _).mono ?_;rintro e w2 ⟨rfl,hw2⟩;have H2:=hid (aI (hw2.symm ▸ Buf.fresh (w:=W4) (HW.out.2.2.nope HB.out.2.2.2.2.1) H1.out.2 H1.out.1 (by have:=HR.out.2.2.2.2.2.2.2.2;omega)) (hw2.symm ▸ (Kept.refl Nope w1).alloc (.cells #[.slice ya D.length yc,.int .i64 0] 92):Kept Nope w1 w2));clear hw2))
  | (go_at_call 31;go_must (refine (copied_ok Any_ _ _ D (HW.out.1.keep HB.out.2.2.2.2.1 (fun _ _ _ h=>h)) (by have:=HR.out.2.2.2.2.2.2.2.2;omega)).mono ?_;rintro e w1 ⟨y1,rfl,hy1,hk1⟩;have hf1:=hy1;obtain ⟨ya,yc,rfl,_⟩:=hf1;have H1:=hid (aI hy1 hk1);clear hy1 hk1)))
 have hPs:=HB.out.2.2.2.2.2.1
 have hs1:=H1.out.2.size
 have hs2:=H2.out.2.size
 have hs3:=H3.out.1.kept.size
 have hk41:Kept (Only w1.heap.size) W4 w4:=((H1.out.2.trans' H2.out.2).nope.trans' H3.out.1.kept).trans' H4.out.1.nope
 have hQ0:Blk W7 P 25 (Lay.mk d' (.slice pk4 d'.kids.length ck4) (.slice pd4 d'.desc.length cd4)).cells.toArray:=(H5.out.1.kept H6.out.1 (fun h=>h)).kept H7.out.2 (fun e=>by have e':P=P+1:=e;omega)
 have hQ2:Blk W7 (P+1+1) 26 #[.slice none 0 0]:=(((HB.out.2.2.1.kept hk41 (fun e=>by have e':P+1+1=w1.heap.size:=e;omega)).kept H5.out.2.1 (fun e=>by have e':P+1+1=P:=e;omega)).kept H6.out.1 (fun h=>h)).kept H7.out.2 (fun e=>by have e':P+1+1=P+1:=e;omega)
 have hQ3:Blk W7 (P+1+1+1) 4 #[.bool false]:=(((HB.out.2.2.2.1.kept hk41 (fun e=>by have e':P+1+1+1=w1.heap.size:=e;omega)).kept H5.out.2.1 (fun e=>by have e':P+1+1+1=P:=e;omega)).kept H6.out.1 (fun h=>h)).kept H7.out.2 (fun e=>by have e':P+1+1+1=P+1:=e;omega)
 have HQ:=hid (aI hQ0 (aI H7.out.1 (aI hQ2 hQ3)))
 have a0:=hQ0.cell 0
 have a1:=hQ0.cell 1
 have a2:=hQ0.cell 2
 have a3:=hQ0.cell 3
 have a4:=hQ0.cell 4
 have a5:=hQ0.cell 5
 have b0:=H7.out.1.cell 0
 have b1:=H7.out.1.cell 1
 have b2:=H7.out.1.cell 2
 have b3:=H7.out.1.cell 3
 have b4:=H7.out.1.cell 4
 have b5:=H7.out.1.cell 5
 simp only [Lay.cells,List.getElem?_toArray,List.getElem?_cons_zero,List.getElem?_cons_succ] at a0 a1 a2 a3 a4 a5 b0 b1 b2 b3 b4 b5
 have hyB:BSl (fun b=>W4.heap.size<=b/\b < w1.heap.size) w4 (.slice ya D.length yc) D:=(((H1.out.1.mono (S':=fun b=>W4.heap.size<=b/\b < w1.heap.size) fun b hb hS=>⟨hS,hb⟩).keep H2.out.2 (fun _ _ _ h=>h)).keep H3.out.1.kept (fun b _ hb e=>by have e':b=w1.heap.size:=e;omega)).keep H4.out.1 (fun _ _ _ h=>h)
 have heP:0 < P:=by have:=HW.out.2.2.lt;rw [HB.out.2.2.2.2.2.2] at this;exact this
 have hBu:Buf W7 w1.heap.size (.slice ya D.length yc) D (1+eb.length+vb.length):=(((H3.out.1.buf.nope H4.out.1).keepP H5.out.2.1 (by omega) (hyB.mono fun b _ hb=>by omega) (by omega)).nope H6.out.1).keepP H7.out.2 (by omega) (((hyB.keep H5.out.2.1 (fun b _ hb e=>by have e':b=P:=e;omega)).keep H6.out.1 (fun _ _ _ h=>h)).mono fun b _ hb=>by omega) (by omega)
 have hkw7:Kept Nope w W7:=(((H3.out.2.1.trans' H4.out.1).trans H5.out.2.1 (fun k hk e=>by have e':k=P:=e;have h9:=HB.out.2.2.2.2.2.2;omega)).trans' H6.out.1).trans H7.out.2 (fun k hk e=>by have e':k=P+1:=e;have h9:=HB.out.2.2.2.2.2.2;omega)
 have HBU:=hid (aI hBu hkw7)
 have HS:=hid (aI hPs (aI hs1 (aI hs2 hs3)))
 have hSQ:∀ w',Blk w' P 25 (Lay.mk d' (.slice pk4 d'.kids.length ck4) (.slice pd4 d'.desc.length cd4)).cells.toArray->Blk w' (P+1) 25 (Lay.mk v' (.slice pk6 v'.kids.length ck6) (.slice pd6 v'.desc.length cd6)).cells.toArray->w'.cell? ⟨P,0,none⟩=some (.int .i64 d'.kind)/\w'.cell? ⟨P,1,none⟩=some (.int .u64 d'.num)/\w'.cell? ⟨P,2,none⟩=some (.string d'.text)/\w'.cell? ⟨P,3,none⟩=some (.slice pk4 d'.kids.length ck4)/\w'.cell? ⟨P,4,none⟩=some (.int .i64 d'.of_)/\w'.cell? ⟨P,5,none⟩=some (.slice pd4 d'.desc.length cd4)/\w'.cell? ⟨P+1,0,none⟩=some (.int .i64 v'.kind)/\w'.cell? ⟨P+1,1,none⟩=some (.int .u64 v'.num)/\w'.cell? ⟨P+1,2,none⟩=some (.string v'.text)/\w'.cell? ⟨P+1,3,none⟩=some (.slice pk6 v'.kids.length ck6)/\w'.cell? ⟨P+1,4,none⟩=some (.int .i64 v'.of_)/\w'.cell? ⟨P+1,5,none⟩=some (.slice pd6 v'.desc.length cd6):=fun w' g4 g6=>⟨g4.cell 0,g4.cell 1,g4.cell 2,g4.cell 3,g4.cell 4,g4.cell 5,g6.cell 0,g6.cell 1,g6.cell 2,g6.cell 3,g6.cell 4,g6.cell 5⟩
 have HSQ:=hid hSQ
 clear hk41 hQ0 hQ2 hQ3 hPs hs1 hs2 hs3 hyB heP hBu hkw7 hSQ a0 a1 a2 a3 a4 a5 b0 b1 b2 b3 b4 b5
 go_region_held3 (fun w'=>w'.cell? ⟨P,0,none⟩=some (.int .i64 d'.kind)/\w'.cell? ⟨P,1,none⟩=some (.int .u64 d'.num)/\w'.cell? ⟨P,2,none⟩=some (.string d'.text)/\w'.cell? ⟨P,3,none⟩=some (.slice pk4 d'.kids.length ck4)/\w'.cell? ⟨P,4,none⟩=some (.int .i64 d'.of_)/\w'.cell? ⟨P,5,none⟩=some (.slice pd4 d'.desc.length cd4)/\w'.cell? ⟨P+1,0,none⟩=some (.int .i64 v'.kind)/\w'.cell? ⟨P+1,1,none⟩=some (.int .u64 v'.num)/\w'.cell? ⟨P+1,2,none⟩=some (.string v'.text)/\w'.cell? ⟨P+1,3,none⟩=some (.slice pk6 v'.kids.length ck6)/\w'.cell? ⟨P+1,4,none⟩=some (.int .i64 v'.of_)/\w'.cell? ⟨P+1,5,none⟩=some (.slice pd6 v'.desc.length cd6)) (first | with_reducible exact HSQ.out _ (HQ.out.1.drew) (HQ.out.2.1.drew) | with_reducible exact HSQ.out _ ((HQ.out.1.drew).drewN k8) ((HQ.out.2.1.drew).drewN k8) | with_reducible exact HSQ.out _ (HQ.out.1.drewN (1+k8)) (HQ.out.2.1.drewN (1+k8)) | with_reducible exact HSQ.out _ H9.out.2.2.1 H9.out.2.2.2.1 | with_reducible exact HSQ.out _ HA.out.1 HA.out.2.1 | with_reducible exact HSQ.out _ HA.out.2.2.1 HA.out.2.2.2.1 | with_reducible exact HSQ.out _ (HA.out.2.2.2.2.1 _).1 (HA.out.2.2.2.2.1 _).2 | with_reducible exact HSQ.out _ (HA.out.2.2.2.2.2 _ _).1 (HA.out.2.2.2.2.2 _ _).2.1 | fail) (first
  | (go_at_call 31;go_must (refine (copied_ok Any_ _ _ bh H8.out.2 H8.out.1).mono ?_;rintro e w9 ⟨y9,rfl,hy9,hk9⟩;have hf9:=hy9;obtain ⟨y9p,y9c,rfl,_⟩:=hf9;have hKK:Kept Nope W7 w9:=((Kept.refl Nope W7).drewN (1+k8)).trans' hk9;have g0:=HQ.out.1.kept hKK (fun h=>h);have g1:=HQ.out.2.1.kept hKK (fun h=>h);have g2:=HQ.out.2.2.1.kept hKK (fun h=>h);have g3:=HQ.out.2.2.2.kept hKK (fun h=>h);have f00:=g0.frozen 0;have f01:=g0.frozen 1;have f02:=g0.frozen 2;have f03:=g0.frozen 3;have f04:=g0.frozen 4;have f05:=g0.frozen 5;have f10:=g1.frozen 0;have f11:=g1.frozen 1;have f12:=g1.frozen 2;have f13:=g1.frozen 3;have f14:=g1.frozen 4;have f15:=g1.frozen 5;have c20:=g2.cell 0;have f20:=g2.frozen 0;have c30:=g3.cell 0;have f30:=g3.frozen 0;simp only [List.getElem?_toArray,List.getElem?_cons_zero] at c20 c30;have HA:=hid (stores2 (A:=(Lay.mk d' (.slice pk4 d'.kids.length ck4) (.slice pd4 d'.desc.length cd4)).cells.toArray) (B:=(Lay.mk v' (.slice pk6 v'.kids.length ck6) (.slice pd6 v'.desc.length cd6)).cells.toArray) (a0:=.int .i64 d'.kind) (a1:=.int .u64 d'.num) (a2:=.string d'.text) (a3:=.slice pk4 d'.kids.length ck4) (a4:=.int .i64 d'.of_) (a5:=.slice pd4 d'.desc.length cd4) (b0:=.int .i64 v'.kind) (b1:=.int .u64 v'.num) (b2:=.string v'.text) (b3:=.slice pk6 v'.kids.length ck6) (b4:=.int .i64 v'.of_) (b5:=.slice pd6 v'.desc.length cd6) rfl rfl g0 g1 g2 g3);have H9:=hid (aI hy9 (aI hKK (aI g0 (aI g1 (aI g2 g3)))));clear hy9 hk9 hKK g0 g1 g2 g3))
  | (go_at_call 34;(refine (Bytes_any w1.heap.size _ D (1+eb.length+vb.length) _ (HBU.out.1.nope ((Kept.refl Nope W7).drew))).mono ?_;rintro e w8 ⟨x8,rfl,hb8,k8,rfl⟩;rw [HN.out.2.2.2.2.2.2.2.1] at hb8;have hf8:=hb8;obtain ⟨x8p,x8c,rfl,_⟩:=hf8;have H8:=hid (aI (show bh.length<=1099511627776 by have h1:=HN.out.2.2.2.2.2.2.2.1;have h2:=HR.out.2.2.2.2.2.2.2.2;rw [<- h1,List.length_drop];omega) ((hb8.mono (S':=Any_) fun _ _ _=>trivial).keep (show Kept Nope W7.drew (W7.drewN (1+k8)) from ⟨rfl,rfl,rfl,Nat.le_refl _,fun _ _ _=>rfl⟩) (fun _ _ _ h=>h)));clear hb8)))
 have zz:=HA.out.2.2.2.2.2 (.slice y9p bh.length y9c) (.bool true)
 have hs4:=HB.out.2.2.2.2.2.1
 have hPw:=HB.out.2.2.2.2.2.2
 have hs31:=HS.out.2.1
 have hs32:=HS.out.2.2.1
 have hs33:=HS.out.2.2.2
 have hs34:=H4.out.1.size
 have hs35:=H5.out.2.1.size
 have hs36:=H6.out.1.size
 have hs37:=H7.out.2.size
 have v4:VAgg (Above w3) w4 (vagg d' (.slice pk4 d'.kids.length ck4) (.slice pd4 d'.desc.length cd4)) d':=⟨_,_,rfl,H4.out.2.1⟩
 have v6:VAgg (Above W5) w6 (vagg v' (.slice pk6 v'.kids.length ck6) (.slice pd6 v'.desc.length cd6)) v':=⟨_,_,rfl,H6.out.2.1⟩
 have v4z:=(((((v4.keep H5.out.2.1 (fun b _ hb e=>by have e':b=P:=e;have hb':w3.heap.size<=b:=hb;omega)).keep H6.out.1 (fun _ _ _ h=>h)).keep H7.out.2 (fun b _ hb e=>by have e':b=P+1:=e;have hb':w3.heap.size<=b:=hb;omega)).keep H9.out.2.1 (fun _ _ _ h=>h)).keep zz.2.2.2.2 (fun b _ hb e=>by have e':P<=b/\b < P+4:=e;have hb':w3.heap.size<=b:=hb;omega)).mono (S':=Above w) fun b _ hb=>by have hb':w3.heap.size<=b:=hb;show w.heap.size<=b;omega
 have v6z:=(((v6.keep H7.out.2 (fun b _ hb e=>by have e':b=P+1:=e;have hb':W5.heap.size<=b:=hb;omega)).keep H9.out.2.1 (fun _ _ _ h=>h)).keep zz.2.2.2.2 (fun b _ hb e=>by have e':P<=b/\b < P+4:=e;have hb':W5.heap.size<=b:=hb;omega)).mono (S':=Above w) fun b _ hb=>by have hb':W5.heap.size<=b:=hb;show w.heap.size<=b;omega
 have y9z:=(H9.out.1.keep zz.2.2.2.2 (fun b _ hb e=>by have e':P<=b/\b < P+4:=e;have hb':W7.heap.size<=b:=hb;omega)).mono (S':=Above w) fun b _ hb=>by have hb':W7.heap.size<=b:=hb;show w.heap.size<=b;omega
 have kz:=(HBU.out.2.trans' H9.out.2.1).trans zz.2.2.2.2 (fun k hk e=>by have e':P<=k/\k < P+4:=e;omega)
 go_wp2
 refine leaves_cons (f:=29) (args:=#[.pointer (some ⟨P,0,none⟩),.pointer (some ⟨P+1,0,none⟩),.pointer (some ⟨P+1+1,0,none⟩),.pointer (some ⟨P+1+1+1,0,none⟩)]) (by simp) (by simp [go_sem]) ?_
 refine (rdDesc1_idle _ _ _ _ _).mono ?_
 rintro e u' w'' ⟨rfl,rfl,rfl⟩
 exact ret4 _ _ _ P _ _ _ _ rfl rfl rfl rfl zz.1 rfl zz.2.1 rfl zz.2.2.1 zz.2.2.2.1 ⟨_,_,_,rfl,kz,⟨d',v4z,H4.out.2.2.1⟩,⟨v',v6z,H6.out.2.2.1⟩,y9z⟩
end Go.Proofs.YtmdpodeegdjkeaaGreatDoor
