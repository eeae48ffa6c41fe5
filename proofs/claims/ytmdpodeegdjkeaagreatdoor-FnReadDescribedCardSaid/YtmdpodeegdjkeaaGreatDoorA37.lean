/- Part 37 of the proof (texts LwA LwB Opn). It has no conditions beyond the theorems' own. -/
import Derived.Deep.RegionHeld3
import Derived.Deep.DrawnRows
import Derived.ChangeArms
import Derived.Deep.Slices
import Derived.WideKeyArgs
import Derived.Carry
import Derived.Test.YtmdpodeegdjkeaaGreatDoorA0
import Derived.Test.YtmdpodeegdjkeaaGreatDoorA26
import Derived.Test.YtmdpodeegdjkeaaGreatDoorA31
import Derived.Test.YtmdpodeegdjkeaaGreatDoorA34
import Derived.Test.YtmdpodeegdjkeaaGreatDoorA35
import Derived.Test.YtmdpodeegdjkeaaGreatDoorA36
set_option maxRecDepth 100000
set_option maxHeartbeats 3200000
namespace Go.Proofs.YtmdpodeegdjkeaaGreatDoor
open Go Go.RowKit Go.Lib
def withDesc (v d:V):V:=.mk v.kind v.num v.text v.kids v.of_ [d]
theorem fits_whole {v d:V} (hv:Fits v) (hd:Fits d) (hk:d.kind=5\/d.kind=20) (hdd:d.desc=[]):Fits (withDesc v d) :=
 .mk ⟨hv.own.kind,hv.own.leaf,hv.own.text,hv.own.num,Nat.le_refl _,hv.own.few,hv.own.size,fun x hx=>by
  rw [show x=d from List.mem_singleton.1 hx];exact ⟨hk,hdd⟩⟩
  ⟨hv.content.flag,hv.content.n1,hv.content.n2,hv.content.n4,hv.content.s1,hv.content.s2,hv.content.s4,hv.content.wide,hv.content.utf,hv.content.ascii,hv.content.even,hv.content.arr⟩
  (fun _ hx=>hv.kid hx) (fun x hx=>by rw [show x=d from List.mem_singleton.1 hx];exact hd)
theorem nums_whole {v d:V} (hv:Nums v) (hd:Nums d):Nums (withDesc v d):=by
 cases hv with
 | mk h1 h2 _=>exact .mk h1 h2 fun x hx=>by rw [show x=d from List.mem_singleton.1 hx];exact hd
theorem room_whole (v d:V):(withDesc v d).room<=v.room+d.room:=by
 rw [V.room_eq,V.room_eq v]
 have:sumOf V.room (withDesc v d).desc=d.room:=by show sumOf V.room [d]=d.room;simp [sumOf]
 have h1:(withDesc v d).text=v.text:=rfl
 have h2:(withDesc v d).kids=v.kids:=rfl
 rw [h1,h2]
 omega
theorem Form.unwhole {v d0:V} {c:Nat} {d:List UInt8} (h:Form (withDesc v d0) c d):Form v c d:=by
 have he:∀ d,Elems (withDesc v d0) d->Elems v d:=fun d h=>by
  cases h with
  | plain h1 h2 h3 h4=>exact .plain h1 h2 h3 h4
  | desc h1 h2 h3 h4=>exact .desc h1 h2 h3 h4
 cases h with
 | null h=>exact .null h
 | flag h=>exact .flag h
 | bool h=>exact .bool h
 | full h=>exact .full h
 | uint0 h h'=>exact .uint0 h h'
 | ulong0 h h'=>exact .ulong0 h h'
 | uint1 h h'=>exact .uint1 h h'
 | ulong1 h h'=>exact .ulong1 h h'
 | int1 h h'=>exact .int1 h h'
 | long1 h h'=>exact .long1 h h'
 | wide h h'=>exact .wide h h'
 | text1 h h'=>exact .text1 h h'
 | text4 h=>exact .text4 h
 | list0 h h'=>exact .list0 h h'
 | kids1 h h1 h2 h3=>exact .kids1 h h1 h2 h3
 | kids4 h h1=>exact .kids4 h h1
 | array1 h h1 h2 h3=>exact .array1 h (he _ h1) h2 h3
 | array4 h h1=>exact .array4 h (he _ h1)
theorem enc_whole {v d:V} {bs:List UInt8} (h:Enc (withDesc v d) bs) (hd:v.desc=[]):∃ eb vb,Enc d eb/\Enc v vb/\bs=0 :: (eb ++ vb):=by
 cases h with
 | plain h1 _=>cases h1
 | desc h1 h2 h3 =>
  obtain rfl:=(List.cons.inj h1).1
  exact ⟨_,_,h2,.plain hd h3.unwhole,rfl⟩
theorem same_of_loosely {a b:V} (h:Loosely a b) (h1:a.kind≠21) (h2:a.kind≠22):Same a b:=by
 cases h with
 | leaf _ _ h=>exact h
 | list h _ _ _ _ _=>exact absurd h h1
 | map _ _ _ h=>exact absurd h h2
def dFive:V:=.mk 5 5 ⟨#[]⟩ [] 0 []
def dTrue:V:=.mk 1 1 ⟨#[]⟩ [] 0 []
theorem leaf_tiny (k n:Int) (hk:k=1/\n=1\/k=5/\n=5):Fits (.mk k n ⟨#[]⟩ [] 0 [])/\Nums (.mk k n ⟨#[]⟩ [] 0 [])/\Say (.mk k n ⟨#[]⟩ [] 0 [])/\NoSym (.mk k n ⟨#[]⟩ [] 0 []):=by
 refine ⟨.mk ⟨?_,.inr (.inr (.inr rfl)),.inr (.inr rfl),?_,Nat.zero_le _,Nat.zero_le _,Nat.zero_le _,fun d hd=>by cases hd⟩ ⟨?_,?_,?_,?_,?_,?_,?_,?_,?_,?_,?_,?_⟩ (fun _ h=>by cases h) (fun _ h=>by cases h),.mk ?_ (fun _ h=>by cases h) (fun _ h=>by cases h),.mk rfl ?_ ?_ (fun _ h=>by cases h) ?_,.mk ?_ (fun _ h=>by cases h)⟩
 all_goals simp only [V.kind_mk,V.num_mk,V.kids_mk,VNum0]
 all_goals first
  | omega
  | (intro h;omega)
  | (intro _ h;omega)
  | (rcases hk with ⟨rfl,rfl⟩ | ⟨rfl,rfl⟩ <;> omega)
theorem good_five:Good dFive:=by
 obtain ⟨h1,h2,h3,h4⟩:=leaf_tiny 5 5 (.inr ⟨rfl,rfl⟩)
 exact good_of _ _ (Nat.le_refl _) h2 h1 h3 h4
theorem good_true:Good dTrue:=by
 obtain ⟨h1,h2,h3,h4⟩:=leaf_tiny 1 1 (.inl ⟨rfl,rfl⟩)
 exact good_of _ _ (Nat.le_refl _) h2 h1 h3 h4
theorem descIn_tiny:DescIn [0,83,5,65] dFive dTrue [] where
 enc:=⟨[83,5],[65],.plain (c:=83) (p:=[5]) rfl (.ulong1 rfl (by decide)),.plain (c:=65) (p:=[]) rfl (Form.flag (v:=dTrue) rfl),rfl⟩
 gd:=good_five
 gv:=good_true
 ud:=(utf_of _ _ (Nat.le_refl _) (leaf_tiny 5 5 (.inr ⟨rfl,rfl⟩)).1).2
 uv:=(utf_of _ _ (Nat.le_refl _) (leaf_tiny 1 1 (.inl ⟨rfl,rfl⟩)).1).2
 len:=by decide
theorem same_num {a b:V} (h:Loosely (asRead a) b) (h1:a.kind < 21):b.num=a.num/\Same (asRead a) b:=by
 have hs:=same_of_loosely h (by rw [asRead_eq];simp only [V.kind_mk];split <;> omega) (by rw [asRead_eq];simp only [V.kind_mk];split <;> omega)
 refine ⟨?_,hs⟩
 cases hs with
 | mk _ h2 _ _ _ _ _=>rw [<- h2,asRead_eq];rfl
theorem descIn_whole {v d:V} {bs bh:List UInt8} (hv:Askd v) (hd:Askd d) (nv:Nums v) (nd:Nums d) (yv:NoSym v) (hk:d.kind=5\/d.kind=20) (hb:bh.length<=100) (h:Enc (withDesc v d) bs):DescIn (bs ++ bh) d v bh:=by
 have yd:NoSym d:=by
  refine .mk (fun k0 h23 _=>by omega) fun x hx => ?_
  rcases hd.fits.own.leaf with h1 | h1 | h1 | h1
  ·omega
  ·omega
  ·omega
  ·rw [h1] at hx;cases hx
 have gv:=good_of _ _ (Nat.le_refl _) nv hv.fits hv.say yv
 have gd:=good_of _ _ (Nat.le_refl _) nd hd.fits hd.say yd
 have hl:=h.len
 have r1:=room_whole v d
 have r2:=room_le _ v (Nat.le_refl _) hv.fits
 have r3:=room_le _ d (Nat.le_refl _) hd.fits
 have c1:=hv.few
 have c2:=hd.few
 obtain ⟨eb,vb,h1,h2,rfl⟩:=enc_whole h gv.desc
 refine ⟨⟨eb,vb,h1,h2,by simp⟩,gd,gv,(utf_of _ _ (Nat.le_refl _) hd.fits).2,(utf_of _ _ (Nat.le_refl _) hv.fits).2,?_⟩
 rw [List.length_append]
 omega
theorem put_whole {v d:V} (hv:Askd v) (hd:Askd d) (nv:Nums v) (nd:Nums d) (hdd:d.desc=[]) (hk:d.kind=5\/d.kind=20):PutOk (withDesc v d):=by
 have r1:=room_whole v d
 have r2:=room_le _ v (Nat.le_refl _) hv.fits
 have r3:=room_le _ d (Nat.le_refl _) hd.fits
 have c1:=hv.few
 have c2:=hd.few
 exact (put_all _ _ (Nat.le_refl _) (fits_whole hv.fits hd.fits hk hdd) (nums_whole nv nd) (by omega)).1
theorem boxes {W W':World} {P:Nat} {a0 a1 a2 a3 a4 a5 b0 b1 b2 b3 b4 b5:Value} (h0:Blk W P 25 #[a0,a1,a2,a3,a4,a5]) (h1:Blk W (P+1) 25 #[b0,b1,b2,b3,b4,b5]) (hk:Kept Nope W W') :
  W'.cell? ⟨P,0,none⟩=some a0/\W'.cell? ⟨P,1,none⟩=some a1/\W'.cell? ⟨P,2,none⟩=some a2/\W'.cell? ⟨P,3,none⟩=some a3/\W'.cell? ⟨P,4,none⟩=some a4/\W'.cell? ⟨P,5,none⟩=some a5 /\
  W'.cell? ⟨P+1,0,none⟩=some b0/\W'.cell? ⟨P+1,1,none⟩=some b1/\W'.cell? ⟨P+1,2,none⟩=some b2/\W'.cell? ⟨P+1,3,none⟩=some b3/\W'.cell? ⟨P+1,4,none⟩=some b4/\W'.cell? ⟨P+1,5,none⟩=some b5:=by
 have g0:=h0.kept hk (fun h=>h)
 have g1:=h1.kept hk (fun h=>h)
 exact ⟨g0.cell 0,g0.cell 1,g0.cell 2,g0.cell 3,g0.cell 4,g0.cell 5,g1.cell 0,g1.cell 1,g1.cell 2,g1.cell 3,g1.cell 4,g1.cell 5⟩
theorem tiny_bsl (w:World) (T:TypeId):BSl Any_ (w.alloc (.cells #[.int .u8 0,.int .u8 83,.int .u8 5,.int .u8 65] T)) (.slice (some ⟨w.heap.size,0,none⟩) 4 4) [0,83,5,65]:=by
 have h:=Blk.new w T #[.int .u8 0,.int .u8 83,.int .u8 5,.int .u8 65]
 refine ⟨some ⟨w.heap.size,0,none⟩,4,rfl,Nat.le_refl _,by decide,.inr ⟨w.heap.size,0,rfl,trivial,fun j x hx => ?_⟩⟩
 match j,hx with
 | 0,hx=>obtain rfl:=Option.some.inj hx;exact h.cell 0
 | 1,hx=>obtain rfl:=Option.some.inj hx;exact h.cell 1
 | 2,hx=>obtain rfl:=Option.some.inj hx;exact h.cell 2
 | 3,hx=>obtain rfl:=Option.some.inj hx;exact h.cell 3
 | _+4,hx=>simp at hx
theorem dnil {v:V} (h:Say v):v.desc=[]:=by cases h <;> assumption
theorem room_both {v d:V} (hv:Askd v) (hd:Askd d):(withDesc v d).room<=1000000000:=by
 have r1:=room_whole v d
 have r2:=room_le _ v (Nat.le_refl _) hv.fits
 have r3:=room_le _ d (Nat.le_refl _) hd.fits
 have c1:=hv.few
 have c2:=hd.few
 omega
theorem whole_agg {S:Nat->Prop} {W:World} {v d:V} {k n t ks o dsv kd dd:Value} {q:Nat} (hv:VAgg S W (.agg #[k,n,t,ks,o,dsv]) v) (hd:VAgg S W (.agg #[.int .i64 d.kind,.int .u64 d.num,.string d.text,kd,.int .i64 d.of_,dd]) d) (hF:Blk W q 25 #[.int .i64 d.kind,.int .u64 d.num,.string d.text,kd,.int .i64 d.of_,dd]) (hq:S q) :
  VAgg S W (.agg #[k,n,t,ks,o,.slice (some ⟨q,0,none⟩) 1 1]) (withDesc v d):=by
 obtain ⟨ks',ds',e,hn,h1,_⟩:=hv
 obtain ⟨kd',dd',e2,hn2,h3,h4⟩:=hd
 unfold vagg at e e2
 simp only [Value.agg.injEq,Array.mk.injEq,List.cons.injEq,true_and,and_true] at e e2
 obtain ⟨rfl,rfl,rfl,rfl,rfl,rfl⟩:=e
 obtain ⟨rfl,rfl⟩:=e2
 refine ⟨ks,_,rfl,⟨hn.kind,hn.num,hn.text,hn.of_⟩,h1,?_⟩
 have one:∀ {i:Nat} {x:V},[d][i]? = some x->i=0/\x=d:=fun {i x} h=>by
  match i,h with
  | 0,h=>exact ⟨rfl,(Option.some.inj h).symm⟩
  | _+1,h=>simp at h
 exact .mk q 0 1 [d] (fun _=>kd) (fun _=>dd) hq (Nat.lt_succ_self 0) (Nat.le_refl _) (by decide) (fun i x h=>by
  obtain ⟨rfl,rfl⟩:=one h
  exact ⟨hn2,hF.cell 0,hF.cell 1,hF.cell 2,hF.cell 3,hF.cell 4,hF.cell 5⟩) (fun i x h=>by obtain ⟨rfl,rfl⟩:=one h;exact h3) (fun i x h=>by obtain ⟨rfl,rfl⟩:=one h;exact h4)
theorem ReadTiny_ok (w:World) (s:Value) (hs:BSl Any_ w s [0,83,5,65]) (hT:Tabs w) (he:Eof w):Calls Tryz.prog 11 #[s] w fun e w'=>∃ a0 a2 a3 a4 a5 b0 b2 b3 b4 b5 rx,e = .returned (.tuple #[.agg #[a0,.int .u64 5,a2,a3,a4,a5],.agg #[b0,.int .u64 1,b2,b3,b4,b5],rx,.bool true])/\(#[a0,.int .u64 5,a2,a3,a4,a5]:Array Value).all (·.oneCell')=true/\(#[b0,.int .u64 1,b2,b3,b4,b5]:Array Value).all (·.oneCell')=true/\Kept Nope w w':=by
 refine (ReadDescribed_ok w s _ dFive dTrue [] hs descIn_tiny hT he).mono ?_
 rintro e w' ⟨dx,vx,rx,rfl,hk,⟨d',hd,hl⟩,⟨v',hv,hm⟩,_⟩
 obtain ⟨ks,ds,rfl,_,h1,h2⟩:=hd
 obtain ⟨kt,dt,rfl,_,h3,h4⟩:=hv
 obtain ⟨_,_,rfl,_⟩:=h1.form
 obtain ⟨_,_,rfl,_⟩:=h2.form
 obtain ⟨_,_,rfl,_⟩:=h3.form
 obtain ⟨_,_,rfl,_⟩:=h4.form
 have e1:=(same_num hl (by decide)).1
 have e2:=(same_num hm (by decide)).1
 unfold vagg
 rw [e1,e2]
 exact ⟨_,_,_,_,_,_,_,_,_,_,_,rfl,by simp [Value.oneCell'],by simp [Value.oneCell'],hk⟩
theorem FnReadDescribed_ok (w : World) (xd xv xb : Value) (d v : V) (st : Int) (bh : List UInt8) (hd : VAgg Any_ w xd d) (hv : VAgg Any_ w xv v) (hst : 0 ≤ st ∧ st < 18446744073709551616) (hb : BSl Any_ w xb bh) (hT : Tabs w) (he : Eof w) :
    Calls Tryz.prog 3 #[xd, xv, .int .u64 st, xb] w fun e w' => e = .returned (.bool true) ∧ Kept Nope w w' := by
  have HD := Lib.hid (And.intro hd (And.intro hv (And.intro hb (And.intro hT (And.intro he hst)))))
  obtain ⟨kd, dd, rfl, hnd, hkd, hdd⟩ := hd
  obtain ⟨kv, dv, rfl, hnv, hkv, hdv⟩ := hv
  have HN := Lib.hid (And.intro hnd hnv)
  clear hnd hnv
  obtain ⟨pkd, ckd, rfl, _⟩ := hkd.form
  obtain ⟨pdd, cdd, rfl, _⟩ := hdd.form
  obtain ⟨pkv, ckv, rfl, _⟩ := hkv.form
  obtain ⟨pdv, cdv, rfl, _⟩ := hdv.form
  obtain ⟨bp, bc, rfl, _⟩ := hb
  clear hkd hdd hkv hdv hT he hst
  unfold vagg at HD ⊢
  go_enter Tryz.func3, Tryz.ntmps3
  go_wp2_with fail
  obtain ⟨P, hP⟩ : ∃ P, w.heap.size = P := ⟨_, rfl⟩
  obtain ⟨W2, hW2⟩ : ∃ W2, (w.alloc (.cells #[.int .i64 d.kind, .int .u64 d.num, .string d.text, .slice pkd d.kids.length ckd, .int .i64 d.of_, .slice pdd d.desc.length cdd] 25)).alloc (.cells #[.int .i64 v.kind, .int .u64 v.num, .string v.text, .slice pkv v.kids.length ckv, .int .i64 v.of_, .slice pdv v.desc.length cdv] 25) = W2 := ⟨_, rfl⟩
  have hB0 : Blk W2 P 25 #[.int .i64 d.kind, .int .u64 d.num, .string d.text, .slice pkd d.kids.length ckd, .int .i64 d.of_, .slice pdd d.desc.length cdd] := by rw [← hW2, ← hP]; exact (Blk.new w 25 _).alloc _
  have hB1 : Blk W2 (P + 1) 25 #[.int .i64 v.kind, .int .u64 v.num, .string v.text, .slice pkv v.kids.length ckv, .int .i64 v.of_, .slice pdv v.desc.length cdv] := by
    have h := Blk.new (w.alloc (.cells #[.int .i64 d.kind, .int .u64 d.num, .string d.text, .slice pkd d.kids.length ckd, .int .i64 d.of_, .slice pdd d.desc.length cdd] 25)) 25 #[.int .i64 v.kind, .int .u64 v.num, .string v.text, .slice pkv v.kids.length ckv, .int .i64 v.of_, .slice pdv v.desc.length cdv]
    rw [World.size_alloc, hP] at h
    rw [← hW2]
    exact h
  have hK2 : Kept Nope w W2 := by rw [← hW2]; exact ((Kept.refl Nope w).alloc _).alloc _
  have hs2 : W2.heap.size = P + 1 + 1 := by rw [← hW2, World.size_alloc, World.size_alloc, hP]
  rw [hW2, hP]
  have HB := Lib.hid (And.intro hB0 (And.intro hB1 (And.intro hK2 (And.intro hs2 hP))))
  have hu2 : (Tryz.prog.info? 25).map (fun i => i.size) = some 6 := by kernel_rfl
  have HU := Lib.hid hu2
  clear hB0 hB1 hK2 hs2 hW2 hP hu2
  go_wp2_with (first
    | (refine wpList_store_kept rfl 25 (.tmp 10) (.tmp 36) rfl (w3.heap.size + 1) #[b0, .int .u64 1, b2, b3, b4, b5] rfl rfl 25 zVal HA.out.2.2.1 (by rw [HU.out]; rfl) rfl hov3 ?_; intro WB hWB hKB; have KB := Lib.hid (KA.out.trans hKB (fun k hk e => by have e' : k = w3.heap.size + 1 := e; have h1 := K3.out.size; omega)); have JB := Lib.hid (JA.out.trans hKB (fun k hk e => by have e' : k = w3.heap.size + 1 := e; have h1 := J3.out.size; omega)); have q9 := (HA.out.2.1.kept hKB (fun e => by have e' : w3.heap.size = w3.heap.size + 1 := e; omega)).cell 1; have q10 := hWB.cell 1; simp only [List.getElem?_toArray, List.getElem?_cons_zero, List.getElem?_cons_succ] at q9 q10; (try clear c0 c1 c2 c3 c4 c5 e0 e1 e2 e3 e4 e5); obtain ⟨c0, c1, c2, c3, c4, c5, e0, e1, e2, e3, e4, e5⟩ := boxes HB.out.1 HB.out.2.1 JB.out)
    | (refine wpList_store_kept rfl 25 (.tmp 9) (.tmp 35) rfl w3.heap.size #[a0, .int .u64 5, a2, a3, a4, a5] rfl rfl 25 zVal ((Blk.new w3 25 zVal).alloc _) (by rw [HU.out]; rfl) rfl hod3 ?_; intro WA hWA hKA; have KA := Lib.hid (((K3.out.alloc (.cells zVal 25)).alloc (.cells zVal 25)).trans hKA (fun k hk e => by have e' : k = w3.heap.size := e; have h1 := K3.out.size; omega)); have JA := Lib.hid (((J3.out.alloc (.cells zVal 25)).alloc (.cells zVal 25)).trans hKA (fun k hk e => by have e' : k = w3.heap.size := e; have h1 := J3.out.size; omega)); have HA := Lib.hid (And.intro hKA (And.intro hWA (And.intro ((show Blk ((w3.alloc (.cells zVal 25)).alloc (.cells zVal 25)) (w3.heap.size + 1) 25 zVal by have h := Blk.new (w3.alloc (.cells zVal 25)) 25 zVal; rw [World.size_alloc] at h; exact h).kept hKA (fun e => by have e' : w3.heap.size + 1 = w3.heap.size := e; omega)) True.intro)));
       (try clear c0 c1 c2 c3 c4 c5 e0 e1 e2 e3 e4 e5); obtain ⟨c0, c1, c2, c3, c4, c5, e0, e1, e2, e3, e4, e5⟩ := boxes HB.out.1 HB.out.2.1 JA.out)
    | (go_at_call 11; go_must (refine (ReadTiny_ok _ _ (tiny_bsl w2 _) (HD.out.2.2.2.1.nope (K2.out.alloc _)) (HD.out.2.2.2.2.1.nope (K2.out.alloc _))).mono ?_; rintro e w3 ⟨a0, a2, a3, a4, a5, b0, b2, b3, b4, b5, rx, rfl, hod3, hov3, hk3⟩; have K3 := Lib.hid ((K2.out.alloc _).trans' hk3); have J3 := Lib.hid ((J2.out.alloc _).trans' hk3); (try clear c0 c1 c2 c3 c4 c5 e0 e1 e2 e3 e4 e5); obtain ⟨c0, c1, c2, c3, c4, c5, e0, e1, e2, e3, e4, e5⟩ := boxes HB.out.1 HB.out.2.1 J3.out))
    | (go_at_call 10; refine (zzFits3_ok v _ _ (HD.out.2.1.keep K1.out (fun _ _ _ h => h))).mono ?_; rintro e w2 ⟨t2, rfl, hk2⟩; have K2 := Lib.hid (K1.out.trans' hk2); have J2 := Lib.hid (J1.out.trans' hk2); (try clear c0 c1 c2 c3 c4 c5 e0 e1 e2 e3 e4 e5); obtain ⟨c0, c1, c2, c3, c4, c5, e0, e1, e2, e3, e4, e5⟩ := boxes HB.out.1 HB.out.2.1 J2.out; cases t2)
    | (go_at_call 10; go_must (refine (zzFits3_ok d _ _ (HD.out.1.keep HB.out.2.2.1 (fun _ _ _ h => h))).mono ?_; rintro e w1 ⟨t1, rfl, hk1⟩; have K1 := Lib.hid (HB.out.2.2.1.trans' hk1); have J1 := Lib.hid hk1; (try clear c0 c1 c2 c3 c4 c5 e0 e1 e2 e3 e4 e5); obtain ⟨c0, c1, c2, c3, c4, c5, e0, e1, e2, e3, e4, e5⟩ := boxes HB.out.1 HB.out.2.1 J1.out; cases t1)))
  · go_ret
    exact ⟨rfl, K1.out⟩
  · go_ret
    exact ⟨rfl, K2.out⟩
  · go_ret
    exact ⟨rfl, K2.out⟩
  clear hWA hKA hWB hKB hk1 hk2 hk3
  refine (sayable_ok v _ _ (HD.out.2.1.keep KB.out (fun _ _ _ h => h)) (HD.out.2.2.2.1.nope KB.out)).mono ?_
  rintro e w4 ⟨⟨rfl, hsv⟩ | rfl, hk4⟩
  case inr =>
    have K4 := Lib.hid (KB.out.trans' hk4)
    clear hk4
    go_wp2
    go_ret
    exact ⟨rfl, K4.out⟩
  have HSV := Lib.hid hsv
  clear hsv
  have K4 := Lib.hid (KB.out.trans' hk4)
  have J4 := Lib.hid (JB.out.trans' hk4)
  clear hk4
  clear c0 c1 c2 c3 c4 c5 e0 e1 e2 e3 e4 e5
  obtain ⟨c0, c1, c2, c3, c4, c5, e0, e1, e2, e3, e4, e5⟩ := boxes HB.out.1 HB.out.2.1 J4.out
  go_wp2_with fail
  refine (sayable_ok d _ _ (HD.out.1.keep K4.out (fun _ _ _ h => h)) (HD.out.2.2.2.1.nope K4.out)).mono ?_
  rintro e w5 ⟨⟨rfl, hsd⟩ | rfl, hk5⟩
  case inr =>
    have K5 := Lib.hid (K4.out.trans' hk5)
    clear hk5
    go_wp2
    go_ret
    exact ⟨rfl, K5.out⟩
  have HSD := Lib.hid hsd
  clear hsd
  have K5 := Lib.hid (K4.out.trans' hk5)
  have J5 := Lib.hid (J4.out.trans' hk5)
  clear hk5
  clear c0 c1 c2 c3 c4 c5 e0 e1 e2 e3 e4 e5
  obtain ⟨c0, c1, c2, c3, c4, c5, e0, e1, e2, e3, e4, e5⟩ := boxes HB.out.1 HB.out.2.1 J5.out
  have hkk : ((d.kind != 5) = false ∧ (d.kind != 20) = true) ∨ ((d.kind != 5) = true ∧ (d.kind != 20) = false) ∨ ((d.kind != 5) = true ∧ (d.kind != 20) = true) := by
    by_cases h5 : d.kind = 5
    · exact .inl ⟨by simp [h5], by simp [h5]⟩
    · by_cases h20 : d.kind = 20
      · exact .inr (.inl ⟨by simp [h20], by simp [h20]⟩)
      · exact .inr (.inr ⟨by simp [h5], by simp [h20]⟩)
  rcases hkk with ⟨h5, h20⟩ | ⟨h5, h20⟩ | ⟨h5, h20⟩
  all_goals go_wp2_with fail
  all_goals first
    | (go_ret; exact ⟨rfl, K5.out⟩)
    | skip
  all_goals
    have HK : Hid (d.kind = 5 ∨ d.kind = 20) := Lib.hid (by first | exact .inl (by simpa using h5) | exact .inr (by simpa using h20))
    clear h5 h20
    have HL : Hid (bh.length ≤ 100) := Lib.hid (by omega)
    have HR7 : Hid ((withDesc v d).room ≤ 1000000000) := Lib.hid (room_both HSV.out HSD.out)
    refine (SymbolArrays_ok v _ _ (HD.out.2.1.keep K5.out (fun _ _ _ h => h))).mono ?_
    rintro e w6 ⟨rfl | ⟨rfl, hy6⟩, hk6⟩
    case inl =>
      have K6 := Lib.hid (K5.out.trans' hk6)
      clear hk6
      go_wp2
      go_ret
      exact ⟨rfl, K6.out⟩
    have HY := Lib.hid hy6
    clear hy6
    have K6 := Lib.hid (K5.out.trans' hk6)
    have J6 := Lib.hid (J5.out.trans' hk6)
    clear hk6
    clear c0 c1 c2 c3 c4 c5 e0 e1 e2 e3 e4 e5
    obtain ⟨c0, c1, c2, c3, c4, c5, e0, e1, e2, e3, e4, e5⟩ := boxes HB.out.1 HB.out.2.1 J6.out
    go_wp2_with (first
      | (refine wpList_store_kept rfl 25 (.tmp 16) (.tmp 92) rfl (w9.heap.size + 1) #[.int .i64 v'.kind, .int .u64 v'.num, .string v'.text, .slice pk6 v'.kids.length ck6, .int .i64 v'.of_, .slice pd6 v'.desc.length cd6] rfl rfl 25 zVal HG.out.2.2.1 (by rw [HU.out]; rfl) rfl (by simp [Value.oneCell']) ?_
         intro WH hWH hKH
         have KH := Lib.hid (KG.out.trans hKH (fun k hk e => by have e' : k = w9.heap.size + 1 := e; have h1 := K9.out.size; omega))
         have JH := Lib.hid (JG.out.trans hKH (fun k hk e => by have e' : k = w9.heap.size + 1 := e; have h1 := J9.out.size; omega))
         have LH := Lib.hid (HG.out.1.trans hKH (fun k hk e => by have e' : k = w9.heap.size + 1 := e; omega))
         have HH := Lib.hid (And.intro (HG.out.2.1.kept hKH (fun e => by have e' : w9.heap.size = w9.heap.size + 1 := e; omega)) hWH)
         clear hWH hKH
         clear c0 c1 c2 c3 c4 c5 e0 e1 e2 e3 e4 e5
         obtain ⟨c0, c1, c2, c3, c4, c5, e0, e1, e2, e3, e4, e5⟩ := boxes HB.out.1 HB.out.2.1 JH.out)
      | (refine wpList_store_kept rfl 25 (.tmp 15) (.tmp 91) rfl w9.heap.size #[.int .i64 d'.kind, .int .u64 d'.num, .string d'.text, .slice pk4 d'.kids.length ck4, .int .i64 d'.of_, .slice pd4 d'.desc.length cd4] rfl rfl 25 zVal ((Blk.new w9 25 zVal).alloc _) (by rw [HU.out]; rfl) rfl (by simp [Value.oneCell']) ?_
         intro WG hWG hKG
         have KG := Lib.hid (((K9.out.alloc (.cells zVal 25)).alloc (.cells zVal 25)).trans hKG (fun k hk e => by have e' : k = w9.heap.size := e; have h1 := K9.out.size; omega))
         have JG := Lib.hid (((J9.out.alloc (.cells zVal 25)).alloc (.cells zVal 25)).trans hKG (fun k hk e => by have e' : k = w9.heap.size := e; have h1 := J9.out.size; omega))
         have hQ1 : Blk ((w9.alloc (.cells zVal 25)).alloc (.cells zVal 25)) (w9.heap.size + 1) 25 zVal := (by have h := Blk.new (w9.alloc (.cells zVal 25)) 25 zVal; rw [World.size_alloc] at h; exact h)
         have HG := Lib.hid (And.intro (((((Kept.refl Nope w9).alloc (.cells zVal 25)).alloc (.cells zVal 25)).trans hKG (fun k hk e => by have e' : k = w9.heap.size := e; omega) : Kept Nope w9 WG)) (And.intro hWG (And.intro (hQ1.kept hKG (fun e => by have e' : w9.heap.size + 1 = w9.heap.size := e; omega)) True.intro)))
         clear hWG hKG hQ1
         clear c0 c1 c2 c3 c4 c5 e0 e1 e2 e3 e4 e5
         obtain ⟨c0, c1, c2, c3, c4, c5, e0, e1, e2, e3, e4, e5⟩ := boxes HB.out.1 HB.out.2.1 JG.out)
      | (go_at_call 11
         go_must (refine (ReadDescribed_ok w8 _ _ d v bh (H8.out.mono fun _ _ _ => trivial) (descIn_whole HSV.out HSD.out HD.out.2.1.nums HD.out.1.nums HY.out HK.out HL.out H7.out) (HD.out.2.2.2.1.nope K8.out) (HD.out.2.2.2.2.1.nope K8.out)).mono ?_
                  rintro e w9 ⟨dx, vx, rx9, rfl, hk9, ⟨d', hvd, hlo4⟩, ⟨v', hvv, hlo6⟩, hr9⟩
                  have M9 := Lib.hid (And.intro hvd (And.intro hvv (And.intro hlo4 (And.intro hlo6 hr9))))
                  obtain ⟨ks4, ds4, rfl, _, g4, g4'⟩ := hvd
                  obtain ⟨ks6, ds6, rfl, _, g6, g6'⟩ := hvv
                  obtain ⟨pk4, ck4, rfl, _⟩ := g4.form
                  obtain ⟨pd4, cd4, rfl, _⟩ := g4'.form
                  obtain ⟨pk6, ck6, rfl, _⟩ := g6.form
                  obtain ⟨pd6, cd6, rfl, _⟩ := g6'.form
                  obtain ⟨rp9, rc9, rfl, _⟩ := hr9
                  unfold vagg at M9 ⊢
                  have K9 := Lib.hid (K8.out.trans' hk9)
                  have J9 := Lib.hid (J8.out.trans' hk9)
                  clear hk9 hlo4 hlo6 g4 g4' g6 g6'
                  clear c0 c1 c2 c3 c4 c5 e0 e1 e2 e3 e4 e5
                  obtain ⟨c0, c1, c2, c3, c4, c5, e0, e1, e2, e3, e4, e5⟩ := boxes HB.out.1 HB.out.2.1 J9.out))
      | (at_builtin
         go_must (refine wpList_app_b w7 (.tmp 87) (.tmp 88) rfl rfl (WD.heap.size + 1) (.slice x7p bs7.length x7c) bs7 rfl HB7.out Any_ (.slice bp bh.length bc) bh rfl (HD.out.2.2.1.keep K7.out (fun _ _ _ h => h)) (by have h1 := H7.out.len; have h2 := HR7.out; have h3 := HL.out; omega) HS7.out ?_
                  intro p8 c8 w8 h8
                  have K8 := Lib.hid (K7.out.trans h8.2.1 (fun k hk e => by have h1 := HB7.out.own k e; have h2 := HWD.out.1; have h3 := KC.out.size; omega))
                  have J8 := Lib.hid (J7.out.trans h8.2.1 (fun k hk e => by have h1 := HB7.out.own k e; have h2 := HWD.out.1; have h3 := JC.out.size; omega))
                  have H8 := Lib.hid (show BSl _ w8 (.slice p8 (bs7.length + bh.length) c8) (bs7 ++ bh) from h8.1.bsl)
                  clear h8
                  clear c0 c1 c2 c3 c4 c5 e0 e1 e2 e3 e4 e5
                  obtain ⟨c0, c1, c2, c3, c4, c5, e0, e1, e2, e3, e4, e5⟩ := boxes HB.out.1 HB.out.2.1 J8.out))
      | (go_at_call 14
         go_must (refine (put_whole HSV.out HSD.out HD.out.2.1.nums HD.out.1.nums (dnil HSD.out.say) HK.out _ WD.heap.size _ ⟨st, false, Blk.new WD _ _, HD.out.2.2.2.2.2⟩ ((whole_agg (HD.out.2.1.keep KD.out (fun _ _ _ h => h)) (HD.out.1.keep KD.out (fun _ _ _ h => h)) HWD.out.2.2 trivial).mono (S' := fun b => b ≠ WD.heap.size) (fun b hb _ => Nat.ne_of_lt hb) |>.keep ((Kept.refl Nope WD).alloc _) (fun _ _ _ h => h))).mono ?_
                  rintro e w7 ⟨x7, bs7, rfl, hb7, he7, _, hk7⟩
                  have hf7 := hb7.form
                  obtain ⟨x7p, x7c, rfl⟩ := hf7
                  rw [World.size_alloc] at hb7
                  have HB7 := Lib.hid hb7
                  have H7 := Lib.hid he7
                  have HS7 : Hid (WD.heap.size + 1 ≤ w7.heap.size) := Lib.hid (by have h1 := hk7.size; rw [World.size_alloc] at h1; exact h1)
                  have K7 := Lib.hid ((KD.out.alloc _).trans hk7 (fun k hk e => by have e' : k = WD.heap.size := e; have h1 := KD.out.size; omega))
                  have J7 := Lib.hid ((JD.out.alloc _).trans hk7 (fun k hk e => by have e' : k = WD.heap.size := e; have h1 := JD.out.size; omega))
                  clear hb7 he7 hk7
                  clear c0 c1 c2 c3 c4 c5 e0 e1 e2 e3 e4 e5
                  obtain ⟨c0, c1, c2, c3, c4, c5, e0, e1, e2, e3, e4, e5⟩ := boxes HB.out.1 HB.out.2.1 J7.out))
      | (obtain ⟨WD, hWD⟩ : ∃ WD, (WC.alloc (.cells #[.int .i64 d.kind, .int .u64 d.num, .string d.text, .slice pkd d.kids.length ckd, .int .i64 d.of_, .slice pdd d.desc.length cdd] 25)).setCell ⟨w6.heap.size, 5, none⟩ (.slice (some ⟨WC.heap.size, 0, none⟩) 1 1) = WD := ⟨_, rfl⟩
         rw [hWD]
         have hE : Blk WD w6.heap.size 25 #[.int .i64 v.kind, .int .u64 v.num, .string v.text, .slice pkv v.kids.length ckv, .int .i64 v.of_, .slice (some ⟨WC.heap.size, 0, none⟩) 1 1] := (by rw [← hWD]; simpa using (HC.out.1.alloc _).set_ 5 _)
         refine wpList_load_row rfl 25 (.tmp 14) rfl w6.heap.size rfl 25 _ _ _ hE Tryz.underlying25 rfl (by rw [HU.out]; rfl) ?_
         have h6C : w6.heap.size < WC.heap.size := HC.out.1.lt
         have hF : Blk WD WC.heap.size 25 #[.int .i64 d.kind, .int .u64 d.num, .string d.text, .slice pkd d.kids.length ckd, .int .i64 d.of_, .slice pdd d.desc.length cdd] := (by rw [← hWD]; exact (Blk.new WC 25 _).far (show WC.heap.size ≠ w6.heap.size by omega) _)
         have KD : Hid (Kept Nope w WD) := Lib.hid (by rw [← hWD]; exact (KC.out.alloc _).setCell (p := ⟨w6.heap.size, 5, none⟩) (.inr (by have h1 := K6.out.size; exact h1)) _)
         have JD : Hid (Kept Nope W2 WD) := Lib.hid (by rw [← hWD]; exact (JC.out.alloc _).setCell (p := ⟨w6.heap.size, 5, none⟩) (.inr (by have h1 := J6.out.size; exact h1)) _)
         have hsD : WC.heap.size + 1 = WD.heap.size := by rw [← hWD]; simp
         have HWD := Lib.hid (And.intro (show WC.heap.size ≤ WD.heap.size by omega) (And.intro hE hF))
         clear hE hF hsD h6C hWD r0 r1 r2 r3 r4 r5 x5 x5f
         clear c0 c1 c2 c3 c4 c5 e0 e1 e2 e3 e4 e5
         obtain ⟨c0, c1, c2, c3, c4, c5, e0, e1, e2, e3, e4, e5⟩ := boxes HB.out.1 HB.out.2.1 JD.out)
      | (refine wpList_store_kept rfl 25 (.tmp 14) (.tmp 78) rfl w6.heap.size #[.int .i64 v.kind, .int .u64 v.num, .string v.text, .slice pkv v.kids.length ckv, .int .i64 v.of_, .slice pdv v.desc.length cdv] rfl rfl 25 zVal (Blk.new w6 25 zVal) (by rw [HU.out]; rfl) rfl (by simp [Value.oneCell']) ?_
         intro WC hWC hKC
         have KC := Lib.hid ((K6.out.alloc (.cells zVal 25)).trans hKC (fun k hk e => by have e' : k = w6.heap.size := e; have h1 := K6.out.size; omega))
         have JC := Lib.hid ((J6.out.alloc (.cells zVal 25)).trans hKC (fun k hk e => by have e' : k = w6.heap.size := e; have h1 := J6.out.size; omega))
         have HC := Lib.hid (And.intro hWC hKC)
         have r0 := hWC.cell 0
         have r1 := hWC.cell 1
         have r2 := hWC.cell 2
         have r3 := hWC.cell 3
         have r4 := hWC.cell 4
         have r5 := hWC.cell 5
         have x5 := (hWC.alloc (.cells #[.int .i64 d.kind, .int .u64 d.num, .string d.text, .slice pkd d.kids.length ckd, .int .i64 d.of_, .slice pdd d.desc.length cdd] 25)).cell 5
         have x5f := (hWC.alloc (.cells #[.int .i64 d.kind, .int .u64 d.num, .string d.text, .slice pkd d.kids.length ckd, .int .i64 d.of_, .slice pdd d.desc.length cdd] 25)).frozen 5
         simp only [List.getElem?_toArray, List.getElem?_cons_zero, List.getElem?_cons_succ] at r0 r1 r2 r3 r4 r5 x5
         clear hWC hKC
         clear c0 c1 c2 c3 c4 c5 e0 e1 e2 e3 e4 e5
         obtain ⟨c0, c1, c2, c3, c4, c5, e0, e1, e2, e3, e4, e5⟩ := boxes HB.out.1 HB.out.2.1 JC.out))
    have j0 := HH.out.1.cell 0
    have j1 := HH.out.1.cell 1
    have j2 := HH.out.1.cell 2
    have j3 := HH.out.1.cell 3
    have j4 := HH.out.1.cell 4
    have j5 := HH.out.1.cell 5
    have k0 := HH.out.2.cell 0
    have k1 := HH.out.2.cell 1
    have k2 := HH.out.2.cell 2
    have k3 := HH.out.2.cell 3
    have k4 := HH.out.2.cell 4
    have k5 := HH.out.2.cell 5
    simp only [List.getElem?_toArray, List.getElem?_cons_zero, List.getElem?_cons_succ] at j0 j1 j2 j3 j4 j5 k0 k1 k2 k3 k4 k5
    have HM : Hid (∀ w', Kept Nope WH w' → (Kept Nope WH w' ∧ w'.cell? ⟨P, 0, none⟩ = some (.int .i64 d.kind) ∧ w'.cell? ⟨P, 1, none⟩ = some (.int .u64 d.num) ∧ w'.cell? ⟨P, 2, none⟩ = some (.string d.text) ∧ w'.cell? ⟨P, 3, none⟩ = some (.slice pkd d.kids.length ckd) ∧ w'.cell? ⟨P, 4, none⟩ = some (.int .i64 d.of_) ∧ w'.cell? ⟨P, 5, none⟩ = some (.slice pdd d.desc.length cdd) ∧ w'.cell? ⟨P + 1, 0, none⟩ = some (.int .i64 v.kind) ∧ w'.cell? ⟨P + 1, 1, none⟩ = some (.int .u64 v.num) ∧ w'.cell? ⟨P + 1, 2, none⟩ = some (.string v.text) ∧ w'.cell? ⟨P + 1, 3, none⟩ = some (.slice pkv v.kids.length ckv) ∧ w'.cell? ⟨P + 1, 4, none⟩ = some (.int .i64 v.of_) ∧ w'.cell? ⟨P + 1, 5, none⟩ = some (.slice pdv v.desc.length cdv) ∧ w'.cell? ⟨w9.heap.size, 0, none⟩ = some (.int .i64 d'.kind) ∧ w'.cell? ⟨w9.heap.size, 1, none⟩ = some (.int .u64 d'.num) ∧ w'.cell? ⟨w9.heap.size, 2, none⟩ = some (.string d'.text) ∧ w'.cell? ⟨w9.heap.size, 3, none⟩ = some (.slice pk4 d'.kids.length ck4) ∧ w'.cell? ⟨w9.heap.size, 4, none⟩ = some (.int .i64 d'.of_) ∧ w'.cell? ⟨w9.heap.size, 5, none⟩ = some (.slice pd4 d'.desc.length cd4) ∧ w'.cell? ⟨w9.heap.size + 1, 0, none⟩ = some (.int .i64 v'.kind) ∧ w'.cell? ⟨w9.heap.size + 1, 1, none⟩ = some (.int .u64 v'.num) ∧ w'.cell? ⟨w9.heap.size + 1, 2, none⟩ = some (.string v'.text) ∧ w'.cell? ⟨w9.heap.size + 1, 3, none⟩ = some (.slice pk6 v'.kids.length ck6) ∧ w'.cell? ⟨w9.heap.size + 1, 4, none⟩ = some (.int .i64 v'.of_) ∧ w'.cell? ⟨w9.heap.size + 1, 5, none⟩ = some (.slice pd6 v'.desc.length cd6))) := Lib.hid fun w' hk => ⟨hk, hk.cell c0 (fun h => h), hk.cell c1 (fun h => h), hk.cell c2 (fun h => h), hk.cell c3 (fun h => h), hk.cell c4 (fun h => h), hk.cell c5 (fun h => h), hk.cell e0 (fun h => h), hk.cell e1 (fun h => h), hk.cell e2 (fun h => h), hk.cell e3 (fun h => h), hk.cell e4 (fun h => h), hk.cell e5 (fun h => h), hk.cell j0 (fun h => h), hk.cell j1 (fun h => h), hk.cell j2 (fun h => h), hk.cell j3 (fun h => h), hk.cell j4 (fun h => h), hk.cell j5 (fun h => h), hk.cell k0 (fun h => h), hk.cell k1 (fun h => h), hk.cell k2 (fun h => h), hk.cell k3 (fun h => h), hk.cell k4 (fun h => h), hk.cell k5 (fun h => h)⟩
    clear c0 c1 c2 c3 c4 c5 e0 e1 e2 e3 e4 e5 j0 j1 j2 j3 j4 j5 k0 k1 k2 k3 k4 k5
    have HGV := Lib.hid (And.intro (noDesc_asRead _ v (Nat.le_refl _) (good_of _ _ (Nat.le_refl _) HD.out.2.1.nums HSV.out.fits HSV.out.say HY.out)) (same_num M9.out.2.2.1 (by have := HK.out; omega)).2)
    go_region_held3 (fun w' => Kept Nope WH w' ∧ w'.cell? ⟨P, 0, none⟩ = some (.int .i64 d.kind) ∧ w'.cell? ⟨P, 1, none⟩ = some (.int .u64 d.num) ∧ w'.cell? ⟨P, 2, none⟩ = some (.string d.text) ∧ w'.cell? ⟨P, 3, none⟩ = some (.slice pkd d.kids.length ckd) ∧ w'.cell? ⟨P, 4, none⟩ = some (.int .i64 d.of_) ∧ w'.cell? ⟨P, 5, none⟩ = some (.slice pdd d.desc.length cdd) ∧ w'.cell? ⟨P + 1, 0, none⟩ = some (.int .i64 v.kind) ∧ w'.cell? ⟨P + 1, 1, none⟩ = some (.int .u64 v.num) ∧ w'.cell? ⟨P + 1, 2, none⟩ = some (.string v.text) ∧ w'.cell? ⟨P + 1, 3, none⟩ = some (.slice pkv v.kids.length ckv) ∧ w'.cell? ⟨P + 1, 4, none⟩ = some (.int .i64 v.of_) ∧ w'.cell? ⟨P + 1, 5, none⟩ = some (.slice pdv v.desc.length cdv) ∧ w'.cell? ⟨w9.heap.size, 0, none⟩ = some (.int .i64 d'.kind) ∧ w'.cell? ⟨w9.heap.size, 1, none⟩ = some (.int .u64 d'.num) ∧ w'.cell? ⟨w9.heap.size, 2, none⟩ = some (.string d'.text) ∧ w'.cell? ⟨w9.heap.size, 3, none⟩ = some (.slice pk4 d'.kids.length ck4) ∧ w'.cell? ⟨w9.heap.size, 4, none⟩ = some (.int .i64 d'.of_) ∧ w'.cell? ⟨w9.heap.size, 5, none⟩ = some (.slice pd4 d'.desc.length cd4) ∧ w'.cell? ⟨w9.heap.size + 1, 0, none⟩ = some (.int .i64 v'.kind) ∧ w'.cell? ⟨w9.heap.size + 1, 1, none⟩ = some (.int .u64 v'.num) ∧ w'.cell? ⟨w9.heap.size + 1, 2, none⟩ = some (.string v'.text) ∧ w'.cell? ⟨w9.heap.size + 1, 3, none⟩ = some (.slice pk6 v'.kids.length ck6) ∧ w'.cell? ⟨w9.heap.size + 1, 4, none⟩ = some (.int .i64 v'.of_) ∧ w'.cell? ⟨w9.heap.size + 1, 5, none⟩ = some (.slice pd6 v'.desc.length cd6)) (first | exact HM.out _ ((Kept.refl Nope WH).drew) | exact ‹Kept Nope WH _ ∧ _› | exact HM.out _ (Kept.trans' (‹Kept Nope WH _ ∧ _›).1 ‹Kept Nope _ _›)) (first
      | (go_at_call 18; refine (left_ok _ _ _ bh ((M9.out.2.2.2.2.keep (LH.out.trans' (‹Kept Nope WH _ ∧ _›).1) (fun _ _ _ h => h)).mono fun _ _ _ => trivial) (HD.out.2.2.1.keep (KH.out.trans' (‹Kept Nope WH _ ∧ _›).1) (fun _ _ _ h => h))).mono ?_; rintro e we ⟨rfl, rfl⟩)
      | (go_at_call 17; refine (SameLoosely_ok HGV.out.1 M9.out.2.2.2.1 (HY2.out.mono fun _ _ _ => trivial) ((M9.out.2.1.keep (LH.out.trans' (‹Kept Nope WH _ ∧ _›).1) (fun _ _ _ h => h)).mono fun _ _ _ => trivial)).mono ?_; rintro e wd ⟨rfl, hkd⟩)
      | (go_at_call 16; have _hb := hkb; refine (AsRead_ok v (few_of_fits _ v (Nat.le_refl _) HSV.out.fits) _ _ (HD.out.2.1.keep (KH.out.trans' (‹Kept Nope WH _ ∧ _›).1) (fun _ _ _ h => h))).mono ?_; rintro e wc ⟨y2, rfl, ha2⟩; have hkc := (ha2.any HN.out.2).2; have HY2 := Lib.hid (ha2.any HN.out.2).1; clear ha2)
      | (go_at_call 15; refine (SameValue_yes (HY1.out.mono fun _ _ _ => trivial) ((M9.out.1.keep (LH.out.trans' (‹Kept Nope WH _ ∧ _›).1) (fun _ _ _ h => h)).mono fun _ _ _ => trivial) HGV.out.2).mono ?_; rintro e wb ⟨rfl, hkb⟩)
      | (go_at_call 16; refine (AsRead_ok d (few_of_fits _ d (Nat.le_refl _) HSD.out.fits) _ _ (HD.out.1.keep (KH.out.trans' (‹Kept Nope WH _ ∧ _›).1) (fun _ _ _ h => h))).mono ?_; rintro e wa ⟨y1, rfl, ha1⟩; have hka := (ha1.any HN.out.1).2; have HY1 := Lib.hid (ha1.any HN.out.1).1; clear ha1))
    go_wp2
    go_ret
    exact ⟨rfl, KH.out.trans' (‹Kept Nope WH _ ∧ _›).1⟩
end Go.Proofs.YtmdpodeegdjkeaaGreatDoor
section
namespace Go.Proofs.YtmdpodeegdjkeaaGreatDoor
open Go Go.RowKit Go.Lib
theorem cells_Val:Tryz.prog.cellsOf 25=6:=by kernel_rfl
theorem cells_int:Tryz.prog.cellsOf 3=1:=by kernel_rfl
theorem cells_u64:Tryz.prog.cellsOf 22=1:=by kernel_rfl
theorem cells_string:Tryz.prog.cellsOf 9=1:=by kernel_rfl
theorem cells_sVal:Tryz.prog.cellsOf 23=1:=by kernel_rfl
theorem cells_u8:Tryz.prog.cellsOf 5=1:=by kernel_rfl
theorem wf_i64_le {n:Int} (h:(Lit.int .i64 n).wf=true):-9223372036854775808<=n/\n<=9223372036854775807:=by
 unfold Lit.wf at h
 rw [Bool.and_eq_true,decide_eq_true_eq,decide_eq_true_eq,show IntKind.i64.min = -9223372036854775808 by decide,show IntKind.i64.max=9223372036854775807 by decide] at h
 exact h
theorem wf_u64_le {n:Int} (h:(Lit.int .u64 n).wf=true):0<=n/\n<=18446744073709551615:=by
 unfold Lit.wf at h
 rw [Bool.and_eq_true,decide_eq_true_eq,decide_eq_true_eq,show IntKind.u64.min=0 by decide,show IntKind.u64.max=18446744073709551615 by decide] at h
 exact h
theorem wf_u8_le {n:Int} (h:(Lit.int .u8 n).wf=true):0<=n/\n<=255:=by
 unfold Lit.wf at h
 rw [Bool.and_eq_true,decide_eq_true_eq,decide_eq_true_eq,show IntKind.u8.min=0 by decide,show IntKind.u8.max=255 by decide] at h
 exact h
def SixOf (W:World) (cs:List Value) (q:V × Value × Value):Prop :=
 cs=[.int .i64 q.1.kind,.int .u64 q.1.num,.string q.1.text,q.2.1,.int .i64 q.1.of_,q.2.2]/\VNum q.1/\VSl Any_ W q.2.1 q.1.kids/\VSl Any_ W q.2.2 q.1.desc
instance:Inhabited (V × Value × Value):=⟨(.mk 0 0 ⟨#[]⟩ [] 0 [],.nilIface,.nilIface)⟩
section
variable {H:Type} {enc:TypeId × Value->H} {W:World} {sp:Nat->Bool}
theorem vsl_of_trod {fuel:Nat} {s:Value} {x:DataW H × List MemPlace} (h:DataW.trod enc Tryz.prog W 0 sp true fuel 23 [s]=some x)
  (ih:∀ m cs y,m < fuel->DataW.trod enc Tryz.prog W 0 sp true m 25 cs=some y->∃ q,SixOf W cs q):∃ l,VSl Any_ W s l:=by
 rcases DataW.trod_slice Tryz.underlying23 h with ⟨hcs,_⟩ | ⟨a,len,cap,elems,rest,m,rfl,hcs,_,_,hl,hm,hlen,hel,_,_⟩
 ·obtain rfl:=(List.cons.inj hcs).1
  exact ⟨[],.nil none 0 (Nat.zero_le _)⟩
 ·obtain rfl:=(List.cons.inj hcs).1
  have hall:∀ i,i < len->∃ q:V × Value × Value,∃ cs,W.cells? 0 (a.add (i*6)) 6=some cs/\SixOf W cs q:=fun i hi=>by
   have h1:=hel i hi
   rw [List.getElem?_eq_getElem (by omega),cells_Val] at h1
   obtain ⟨cs,h2,h3⟩:=Option.bind_eq_some_iff.1 h1
   obtain ⟨q,hq⟩:=ih m cs _ (Nat.lt_succ_self m) h3
   exact ⟨q,cs,h2,hq⟩
  obtain ⟨f,hf⟩:=Go.Deep.choose_lt hall
  rcases Nat.eq_zero_or_pos len with rfl | hpos
  ·exact ⟨[],.nil _ _ hm⟩
  ·obtain ⟨b,off,spot⟩:=a
   have hspot:spot=none:=by
    obtain ⟨cs,h1,h2⟩:=hf 0 hpos
    have h3:=(World.cells?_some h1).2.2 0 (by decide)
    rw [h2.1] at h3
    simpa [Addr.add] using World.cell?_spot h3
   subst hspot
   have hlen':((List.range len).map fun i=>(f i).1).length=len:=by simp
   have hget:∀ i v,((List.range len).map fun i=>(f i).1)[i]? = some v->i < len/\v=(f i).1:=fun i v hv=>by
    have hi:i < len:=by
     have:=(List.getElem?_eq_some_iff.1 hv).1
     rwa [hlen'] at this
    refine ⟨hi,?_⟩
    rw [List.getElem?_map,List.getElem?_range hi] at hv
    exact (Option.some.inj hv).symm
   have key:=VSl.mk (S:=Any_) (w:=W) b off cap ((List.range len).map fun i=>(f i).1) (fun i=>(f i).2.1) (fun i=>(f i).2.2) trivial (by rw [hlen'];exact hpos) (by rw [hlen'];exact hl) hm
    (fun i v hv=>by
     obtain ⟨hi,rfl⟩:=hget i v hv
     obtain ⟨cs,h1,h2,h3,_⟩:=hf i hi
     have h4:=(World.cells?_some h1).2.2
     rw [h2] at h4
     have hadd:∀ j,((⟨b,off,none⟩:Addr).add (i*6)).add j=⟨b,off+i*6+j,none⟩:=fun j=>by rw [Addr.add_lit,Addr.add_lit]
     have e0:=h4 0 (by decide)
     have e1:=h4 1 (by decide)
     have e2:=h4 2 (by decide)
     have e3:=h4 3 (by decide)
     have e4:=h4 4 (by decide)
     have e5:=h4 5 (by decide)
     rw [hadd] at e0 e1 e2 e3 e4 e5
     exact ⟨h3,e0,e1,e2,e3,e4,e5⟩)
    (fun i v hv=>by
     obtain ⟨hi,rfl⟩:=hget i v hv
     obtain ⟨cs,h1,h2,h3,h4,h5⟩:=hf i hi
     exact h4)
    (fun i v hv=>by
     obtain ⟨hi,rfl⟩:=hget i v hv
     obtain ⟨cs,h1,h2,h3,h4,h5⟩:=hf i hi
     exact h5)
   rw [hlen'] at key
   exact ⟨_,key⟩
theorem six_of_trod:∀ (fuel:Nat) (cs:List Value) (x:DataW H × List MemPlace),DataW.trod enc Tryz.prog W 0 sp true fuel 25 cs=some x->∃ q,SixOf W cs q:=by
 intro fuel
 induction fuel using Nat.strongRecOn with
 | _ fuel ih =>
  intro cs x h
  obtain ⟨xs,n,rfl,_,hl,hlen,hf⟩:=DataW.trod_struct Tryz.underlying25 h
  rw [cells_Val] at hl
  match cs,hl with
  | [c0,c1,c2,c3,c4,c5],_ =>
   match xs,hlen with
   | [y0,y1,y2,y3,y4,y5],_ =>
    have f0:DataW.trod enc Tryz.prog W 0 sp true n 3 [c0]=some y0:=by
     have h:=hf 0 _ rfl
     simpa [cells_int] using h
    have f1:DataW.trod enc Tryz.prog W 0 sp true n 22 [c1]=some y1:=by
     have h:=hf 1 _ rfl
     simpa [cells_u64] using h
    have f2:DataW.trod enc Tryz.prog W 0 sp true n 9 [c2]=some y2:=by
     have h:=hf 2 _ rfl
     simpa [cells_string] using h
    have f3:DataW.trod enc Tryz.prog W 0 sp true n 23 [c3]=some y3:=by
     have h:=hf 3 _ rfl
     simpa [cells_sVal] using h
    have f4:DataW.trod enc Tryz.prog W 0 sp true n 3 [c4]=some y4:=by
     have h:=hf 4 _ rfl
     simpa [cells_int] using h
    have f5:DataW.trod enc Tryz.prog W 0 sp true n 23 [c5]=some y5:=by
     have h:=hf 5 _ rfl
     simpa [cells_sVal] using h
    obtain ⟨k,e0,_,w0⟩:=DataW.trod_int Tryz.underlying3 f0
    obtain ⟨nm,e1,_,w1⟩:=DataW.trod_int Tryz.underlying22 f1
    obtain ⟨t,e2,_,w2⟩:=DataW.trod_string Tryz.underlying9 f2
    obtain ⟨o,e4,_,w4⟩:=DataW.trod_int Tryz.underlying3 f4
    obtain rfl:=(List.cons.inj e0).1
    obtain rfl:=(List.cons.inj e1).1
    obtain rfl:=(List.cons.inj e2).1
    obtain rfl:=(List.cons.inj e4).1
    obtain ⟨l,hk⟩:=vsl_of_trod f3 fun m cs y hm hy=>ih m (by omega) cs y hy
    obtain ⟨l',hd⟩:=vsl_of_trod f5 fun m cs y hm hy=>ih m (by omega) cs y hy
    exact ⟨(.mk k nm t l o l',c3,c5),rfl,⟨wf_i64_le w0,wf_u64_le w1,w2,wf_i64_le w4⟩,hk,hd⟩
theorem open_Val {base:Nat} {v:Value} {d:DataW H} {p:List MemPlace} (hval:Value.okWide Tryz.prog W .any base 25 v) (h:DataW.Trod enc Tryz.prog W 0 sp true 25 v d p):∃ t:V,VAgg Any_ W v t:=by
 unfold Value.okWide at hval
 rw [Tryz.underlying25] at hval
 obtain ⟨cs,rfl,_⟩:=hval
 obtain ⟨fuel,hf⟩:=h
 obtain ⟨q,h1,h2,h3,h4⟩:=six_of_trod _ _ _ hf
 have e:cs.toList=[.int .i64 q.1.kind,.int .u64 q.1.num,.string q.1.text,q.2.1,.int .i64 q.1.of_,q.2.2]:=h1
 obtain ⟨l⟩:=cs
 simp only at e
 subst e
 exact ⟨q.1,q.2.1,q.2.2,rfl,h2,h3,h4⟩
theorem open_Bytes {base:Nat} {v:Value} {d:DataW H} {p:List MemPlace} (hval:Value.okWide Tryz.prog W .any base 26 v) (h:DataW.Trod enc Tryz.prog W 0 sp true 26 v d p):∃ bs:List UInt8,BSl Any_ W v bs:=by
 obtain ⟨a1,len,cap,rfl⟩:=Go.WideShapes.okWide_slice Tryz.underlying26 hval
 obtain ⟨fuel,hf⟩:=h
 rcases DataW.trod_slice Tryz.underlying26 hf with ⟨hcs,_⟩ | ⟨a,len',cap',elems,rest,m,rfl,hcs,_,_,hl,hm,hlen,hel,_,_⟩
 ·simp [Value.cells] at hcs
  obtain ⟨rfl,rfl,rfl⟩:=hcs
  exact ⟨[],.nil none 0 (Nat.zero_le _)⟩
 ·simp [Value.cells] at hcs
  obtain ⟨rfl,rfl,rfl⟩:=hcs
  have hall:∀ i,i < len->∃ z:UInt8,W.cell? (a.add i)=some (u8 z):=fun i hi=>by
   have h1:=hel i hi
   rw [List.getElem?_eq_getElem (by omega),cells_u8,Nat.mul_one] at h1
   obtain ⟨cs,h2,h3⟩:=Option.bind_eq_some_iff.1 h1
   obtain ⟨n,rfl,_,hw⟩:=DataW.trod_int Tryz.underlying5 h3
   have h4:=(World.cells?_some h2).2.2 0 (by decide)
   have h5:=wf_u8_le hw
   refine ⟨UInt8.ofNat n.toNat,?_⟩
   rw [show (a.add i).add 0=a.add i by simp [Addr.add]] at h4
   rw [h4]
   simp only [List.getElem?_cons_zero,u8]
   congr 2
   simp only [UInt8.toNat_ofNat']
   omega
  obtain ⟨f,hf⟩:=Go.Deep.choose_lt hall
  rcases Nat.eq_zero_or_pos len with rfl | hpos
  ·exact ⟨[],.nil _ _ hm⟩
  ·obtain ⟨b,off,spot⟩:=a
   have hspot:spot=none:=by simpa [Addr.add] using World.cell?_spot (hf 0 hpos)
   subst hspot
   have hlen':((List.range len).map f).length=len:=by simp
   refine ⟨(List.range len).map f,some ⟨b,off,none⟩,cap,by rw [hlen'],by rw [hlen'];exact hl,hm,.inr ⟨b,off,rfl,trivial,fun j x hj => ?_⟩⟩
   have hj':j < len:=by
    have:=(List.getElem?_eq_some_iff.1 hj).1
    rwa [hlen'] at this
   rw [List.getElem?_map,List.getElem?_range hj'] at hj
   obtain rfl:=Option.some.inj hj
   have:=hf j hj'
   rwa [Addr.add_lit] at this
end
end Go.Proofs.YtmdpodeegdjkeaaGreatDoor
end
