/- Part 35 of the proof of the readers and the guards. No conditions. -/
import Derived.Deep.RegionHeld3
import Derived.Test.YtmdpodeegdjkeaaGreatDoorU0
import Derived.Test.YtmdpodeegdjkeaaGreatDoorU1
import Derived.Test.YtmdpodeegdjkeaaGreatDoorU7
import Derived.Test.YtmdpodeegdjkeaaGreatDoorU32
import Derived.Test.YtmdpodeegdjkeaaGreatDoorU33
import Derived.Test.YtmdpodeegdjkeaaGreatDoorU34
set_option maxRecDepth 100000
set_option maxHeartbeats 3200000
namespace Go.Proofs.YtmdpodeegdjkeaaGreatDoor
open Go Go.RowKit Go.Lib Tryz
theorem size_ne {t:ByteArray} (h:¬ t=⟨#[]⟩):t.size≠0:=by
 intro e;obtain ⟨a⟩:=t;exact h (congrArg ByteArray.mk (Array.eq_empty_of_size_eq_zero e))
structure QInv (l:List V) (k:Nat) (lo hi:Bool):Prop where
 text:∀ (i:Nat) (x:V),i < k->l[i]? = some x->18<=x.kind->x.kind<=20->x.text.size≠0
 time:∀ (i:Nat) (x:V),i < k->l[i]? = some x->x.kind=16->x.num<=9200000000000\/18446744073709551616 - 9200000000000<=x.num
 low:lo=false->∀ (i:Nat) (x:V),i < k->l[i]? = some x->x.kind=8\/x.kind=9->x.num < 9223372036854775808\/18446744073709551488<=x.num
 high:hi=true->∃ x ∈ l,(x.kind=8\/x.kind=9)/\128<=x.num/\x.num < 9223372036854775808
theorem QInv.zero (l:List V):QInv l 0 false false:=⟨fun i x h=>by omega,fun i x h=>by omega,fun _ i x h=>by omega,fun h=>nomatch h⟩
theorem QInv.step {l:List V} {k:Nat} {lo hi lo' hi':Bool} {u:V} (h:QInv l k lo hi) (hu:l[k]? = some u) (h1:18<=u.kind->u.kind<=20->u.text.size≠0)
  (h2:u.kind=16->u.num<=9200000000000\/18446744073709551616 - 9200000000000<=u.num) (h3:lo'=false->lo=false/\(u.kind=8\/u.kind=9->u.num < 9223372036854775808\/18446744073709551488<=u.num))
  (h4:hi'=true->hi=true\/((u.kind=8\/u.kind=9)/\128<=u.num/\u.num < 9223372036854775808)):QInv l (k+1) lo' hi':=by
 refine ⟨fun i x hi hx => ?_,fun i x hi hx => ?_,fun hl i x hi hx => ?_,fun hh => ?_⟩
 ·rcases Nat.lt_or_ge i k with hlt | hge
  ·exact h.text i x hlt hx
  ·obtain rfl:i=k:=by omega
   rw [hx] at hu;cases hu;exact h1
 ·rcases Nat.lt_or_ge i k with hlt | hge
  ·exact h.time i x hlt hx
  ·obtain rfl:i=k:=by omega
   rw [hx] at hu;cases hu;exact h2
 ·rcases Nat.lt_or_ge i k with hlt | hge
  ·exact h.low (h3 hl).1 i x hlt hx
  ·obtain rfl:i=k:=by omega
   rw [hx] at hu;cases hu;exact (h3 hl).2
 ·rcases h4 hh with h5 | h5
  ·exact h.high h5
  ·exact ⟨u,gm hu,h5⟩
theorem QInv.asked {l:List V} {lo hi:Bool} (h:QInv l l.length lo hi) (hb:lo=false\/hi=true):Asked l:=by
 refine ⟨fun k hk => ?_,fun k hk => ?_,?_⟩
 ·obtain ⟨i,hi⟩:=List.mem_iff_getElem?.1 hk;exact h.text i k (gi.1 hi).1 hi
 ·obtain ⟨i,hi⟩:=List.mem_iff_getElem?.1 hk;exact h.time i k (gi.1 hi).1 hi
 ·rcases hb with hb | hb
  ·refine .inl fun k hk => ?_
   obtain ⟨i,hi⟩:=List.mem_iff_getElem?.1 hk;exact h.low hb i k (gi.1 hi).1 hi
  ·exact .inr (h.high hb)
set_option maxHeartbeats 6400000 in
theorem xkv (l:List V) (w:World) (s:Value) (hs:VSl Any_ w s l):Calls prog 94 #[s] w (AskT (Asked l) w):=by
  have HS:=hid hs;obtain ⟨p1,c1,rfl,q1,m1⟩:=hs.form;have hlm:l.length<=maxLen:=by omega
  clear hs q1 m1;unfold maxLen at hlm;obtain ⟨n,hn⟩:∃ m,l.length=m:=⟨_,rfl⟩
  rw [hn] at hlm ⊢;have HL:=hid hn;clear hn;go_enter func94,ntmps94;go_wp2
  go_loopw [3,4,10] (fun a b c w'=>∃ (k:Nat) (lo hi:Bool),k<=n/\a = .bool lo/\b = .bool hi/\c = .int .i64 k/\Hid (Kept Nope w w'/\QInv l k lo hi)) (fun _ _ c _=>n - (RowKit.intOf c).toNat)
  case atStart=>exact ⟨0,false,false,by omega,rfl,rfl,rfl,hid ⟨kR _ _,QInv.zero l⟩⟩
  case round =>
    obtain ⟨k,lo,hi,hk,rfl,rfl,rfl,HR⟩:=hrel
    by_cases hkn:k < n
    . have hkn':(k:Int) < (n:Int):=by omega
      have hk0:(0:Int)<=(k:Int):=by omega
      have e1:IntKind.i64.wrap ((k:Int)+1)=(k:Int)+1:=IntWalk.i64_in _ (by omega);obtain ⟨x,hx⟩:∃ u,l[k]? = some u:=⟨l[k]'(by rw [HL.out];exact hkn),ge _⟩
      obtain ⟨b2,off2,cap2,pk,ck,pd,cd,q2,hvx,y0,y1,y2,y3,y4,y5⟩:=(HS.out.keep HR.out.1 (fun _ _ _ h=>h)).sixS hx;injection q2 with q2 _ q2'
      subst q2 q2';have hnum:0<=x.num/\x.num<=18446744073709551615:=by obtain ⟨_,_,_,h,_⟩:=hvx;exact h.num
      have HX:=hid (aI hx hnum);clear hx hvx hnum;obtain ⟨m,hm⟩:∃ m,IntKind.i64.wrap x.num=m:=⟨_,rfl⟩
      have hmm:(x.num < 9223372036854775808/\m=x.num)\/(9223372036854775808<=x.num/\m=x.num - 18446744073709551616):=by
        have h:=HX.out.2;rw [<- hm];simp only [IntKind.wrap,IntKind.bits,IntKind.signed]
        rcases Int.lt_or_le x.num 9223372036854775808 with h1 | h1
        . left;refine ⟨h1,?_⟩;simp;omega
        . right;refine ⟨h1,?_⟩;simp;omega
      have HM:=hid hmm;clear hmm
      by_cases k89:x.kind=8\/x.kind=9
      . have HK:=hid k89
        have hc:(¬ m < -128/\¬ 127 < m/\(x.num < 9223372036854775808\/18446744073709551488<=x.num))\/(m < -128/\¬ 127 < m)\/(¬ m < -128/\127 < m/\128<=x.num/\x.num < 9223372036854775808):=by have:=HM.out;have:=HX.out.2;omega
        rcases k89 with h | h
        all_goals
          rw [h] at y0;clear h
          rcases hc with ⟨g1,g2,g3⟩ | ⟨g1,g2⟩ | ⟨g1,g2,g3,g4⟩
          . have G3:=hid g3
            clear g3;cases lo <;> cases hi
            all_goals
              go_wp2;go_roundw
              case rel=>exact ⟨k+1,_,_,by omega,rfl,rfl,by go_num,hid ⟨HR.out.1.trans' ((kR Nope wr).alloc _),HR.out.2.step HX.out.1 (fun h=>by have:=HK.out;omega) (fun h=>by have:=HK.out;omega) (fun h=>⟨h,fun _=>G3.out⟩) (fun h => .inl h)⟩⟩
              case measure=>simp [RowKit.intOf];omega
          . cases lo <;> cases hi
            all_goals
              go_wp2;go_roundw
              case rel=>exact ⟨k+1,_,_,by omega,rfl,rfl,by go_num,hid ⟨HR.out.1.trans' ((kR Nope wr).alloc _),HR.out.2.step HX.out.1 (fun h=>by have:=HK.out;omega) (fun h=>by have:=HK.out;omega) (fun h=>nomatch h) (fun h => .inl h)⟩⟩
              case measure=>simp [RowKit.intOf];omega
          . have G3:=hid (aI g3 g4)
            clear g3 g4;cases lo <;> cases hi
            all_goals
              go_wp2;go_roundw
              case rel=>exact ⟨k+1,_,_,by omega,rfl,rfl,by go_num,hid ⟨HR.out.1.trans' ((kR Nope wr).alloc _),HR.out.2.step HX.out.1 (fun h=>by have:=HK.out;omega) (fun h=>by have:=HK.out;omega) (fun h=>⟨h,fun _ => .inl G3.out.2⟩) (fun _ => .inr ⟨HK.out,G3.out⟩)⟩⟩
              case measure=>simp [RowKit.intOf];omega
      . have HK:=hid k89
        have n8:(x.kind == 8)=false:=by simp;omega
        have n9:(x.kind == 9)=false:=by simp;omega
        clear k89
        by_cases k16:x.kind=16
        . have H16:=hid k16
          rw [k16] at y0;clear k16 n8 n9;have hc:(¬ m < -9200000000000/\¬ 9200000000000 < m/\(x.num<=9200000000000\/18446744073709551616 - 9200000000000<=x.num))\/m < -9200000000000\/(¬ m < -9200000000000/\9200000000000 < m):=by have:=HM.out;have:=HX.out.2;omega
          rcases hc with ⟨g1,g2,g3⟩ | g1 | ⟨g1,g2⟩
          . have G3:=hid g3
            clear g3;go_wp2;go_roundw
            case rel=>exact ⟨k+1,_,_,by omega,rfl,rfl,by go_num,hid ⟨HR.out.1.trans' ((kR Nope wr).alloc _),HR.out.2.step HX.out.1 (fun h=>by have:=H16.out;omega) (fun _=>G3.out) (fun h=>⟨h,fun hh=>absurd hh HK.out⟩) (fun h => .inl h)⟩⟩
            case measure=>simp [RowKit.intOf];omega
          . go_wp2
            go_ret;exact ⟨.inr rfl,HR.out.1.alloc _⟩
          . go_wp2
            go_ret;exact ⟨.inr rfl,HR.out.1.alloc _⟩
        . have n16:(x.kind == 16)=false:=by simpa using k16
          have H16:=hid k16;clear k16
          by_cases k18:x.kind < 18
          . have H18:=hid k18
            go_wp2;go_roundw
            case rel=>exact ⟨k+1,_,_,by omega,rfl,rfl,by go_num,hid ⟨HR.out.1.trans' ((kR Nope wr).alloc _),HR.out.2.step HX.out.1 (fun h=>by have:=H18.out;omega) (fun h=>absurd h H16.out) (fun h=>⟨h,fun hh=>absurd hh HK.out⟩) (fun h => .inl h)⟩⟩
            case measure=>simp [RowKit.intOf];omega
          . have k18':18<=x.kind:=by omega
            clear k18
            by_cases k20:20 < x.kind
            . have H18:=hid k20
              go_wp2;go_roundw
              case rel=>exact ⟨k+1,_,_,by omega,rfl,rfl,by go_num,hid ⟨HR.out.1.trans' ((kR Nope wr).alloc _),HR.out.2.step HX.out.1 (fun _ h=>by have:=H18.out;omega) (fun h=>absurd h H16.out) (fun h=>⟨h,fun hh=>absurd hh HK.out⟩) (fun h => .inl h)⟩⟩
              case measure=>simp [RowKit.intOf];omega
            . have k20':x.kind<=20:=by omega
              clear k20
              by_cases ht:x.text=⟨#[]⟩
              . rw [ht] at y2
                clear ht;go_wp2;go_ret;exact ⟨.inr rfl,HR.out.1.alloc _⟩
              . have f1:=xoc ht
                have f2:x.text.toList.isEmpty=false:=by cases h:x.text.toList with | nil=>exact absurd h f1 | cons a l=>rfl
                have HT:=hid ht;clear ht;go_wp2;go_roundw
                case rel=>exact ⟨k+1,_,_,by omega,rfl,rfl,by go_num,hid ⟨HR.out.1.trans' ((kR Nope wr).alloc _),HR.out.2.step HX.out.1 (fun _ _=>size_ne HT.out) (fun h=>absurd h H16.out) (fun h=>⟨h,fun hh=>absurd hh HK.out⟩) (fun h => .inl h)⟩⟩
                case measure=>simp [RowKit.intOf];omega
    . obtain rfl:k=n:=by omega
      have hlt:¬ (k:Int) < (k:Int):=by omega
      cases lo <;> cases hi
      all_goals
        go_wp2;go_ret
      . exact ⟨.inl ⟨rfl,(HL.out ▸ HR.out.2).asked (.inl rfl)⟩,HR.out.1⟩
      . exact ⟨.inl ⟨rfl,(HL.out ▸ HR.out.2).asked (.inl rfl)⟩,HR.out.1⟩
      . exact ⟨.inr rfl,HR.out.1⟩
      . exact ⟨.inl ⟨rfl,(HL.out ▸ HR.out.2).asked (.inr rfl)⟩,HR.out.1⟩
theorem AskW.yes {P:Prop} {w w':World} {e:Ending} (hp:P) (h:AskW P w e w'):e = .returned (.bool true)/\w=w':=by
 rcases h with ⟨⟨e1,_⟩ | ⟨_,h1⟩,h2⟩
 ·exact ⟨e1,h2⟩
 ·exact absurd hp h1
theorem AskW.no {P:Prop} {w w':World} {e:Ending} (hp:¬ P) (h:AskW P w e w'):e = .returned (.bool false)/\w=w':=by
 rcases h with ⟨⟨_,h1⟩ | ⟨e1,_⟩,h2⟩
 ·exact absurd h1 hp
 ·exact ⟨e1,h2⟩
theorem xeJ (v:V) (w:World) (xa:Value) (ha:VAgg Any_ w xa v) (h:v.desc≠[]\/(12<=v.kind/\v.kind<=15)):Calls prog 37 #[xa] w (AskT (Say v) w):=by
 obtain ⟨ka,da,rfl,hna,hka,hda⟩:=ha;obtain ⟨p1,c1,rfl,q1,m1⟩:=hka.form;obtain ⟨p2,c2,rfl,q2,m2⟩:=hda.form;have hlm:v.desc.length<=maxLen:=by omega
 clear hna hka hda q1 m1 q2 m2;unfold maxLen at hlm;unfold vagg
 rcases Nat.eq_zero_or_pos v.desc.length with h0 | h0
 ·rw [h0]
  have h':v.kind=12\/v.kind=13\/v.kind=14\/v.kind=15:=by
   rcases h with h | h
   ·exact absurd (List.eq_nil_of_length_eq_zero h0) h
   ·omega
  clear h h0 hlm
  rcases h' with h | h | h | h
  all_goals
   rw [h];clear h;go_enter func37,ntmps37;go_wp2;go_ret;exact ⟨.inr rfl,(kR _ _).alloc _⟩
 ·have h0':(0:Int) < (v.desc.length:Int):=by omega
  clear h;go_enter func37,ntmps37;go_wp2;go_ret;exact ⟨.inr rfl,(kR _ _).alloc _⟩
theorem xko (v:V) (w:World) (xa:Value) (ha:VAgg Any_ w xa v) (hd:v.desc=[]) (h23:v.kind=23):Calls prog 37 #[xa] w (AskT (Say v) w):=by
 obtain ⟨ka,da,rfl,hna,hka,hda⟩:=ha;have HKA:=hid hka;obtain ⟨p1,c1,rfl,q1,m1⟩:=hka.form;obtain ⟨p2,c2,rfl,q2,m2⟩:=hda.form;have hlm:v.kids.length<=maxLen:=by omega
 clear hna hka hda q1 m1 q2 m2;unfold maxLen at hlm;unfold vagg;have hd0:v.desc.length=0:=by rw [hd];rfl
 rw [hd0,h23];have HD:=hid (aI hd h23);clear hd0 hd h23;obtain ⟨n,hn⟩:∃ m,v.kids.length=m:=⟨_,rfl⟩
 rw [hn] at hlm ⊢;have HL:=hid hn;clear hn
 rcases Nat.eq_zero_or_pos n with h0 | h0
 ·subst h0;go_enter func37,ntmps37;go_wp2;go_ret;exact ⟨.inr rfl,(kR _ _).alloc _⟩
 ·obtain ⟨u,hu⟩:∃ u,v.kids[0]? = some u:=⟨v.kids[0]'(by rw [HL.out];exact h0),ge _⟩
  obtain ⟨b1,off1,cap1,pk,ck,pd,cd,q1,hvx,x0,x1,x2,x3,x4,x5⟩:=HKA.out.sixS hu;simp only [Nat.zero_mul,Nat.add_zero] at x0 x1 x2 x3 x4 x5;injection q1 with q1 _ q1'
  subst q1 q1';have h0':(0:Int) < (n:Int):=by omega
  have x0a:∀ o,(w.alloc o).cell? ⟨b1,off1,none⟩=some (.int .i64 u.kind):=fun o=>((kR Nope w).alloc o).cell x0 (fun h=>h)
  have x5a:∀ o,(w.alloc o).cell? ⟨b1,off1+5,none⟩=some (.slice pd u.desc.length cd):=fun o=>((kR Nope w).alloc o).cell x5 (fun h=>h)
  have HU:=hid hu;clear hu hvx x0 x1 x2 x3 x4 x5
  by_cases hak:xaK u.kind
  ·have HAK:=hid hak;clear hak
   rcases Nat.eq_zero_or_pos u.desc.length with hu0 | hu0
   ·have HU0:=hid hu0;rw [hu0] at x5a;clear hu0;go_enter func37,ntmps37;go_wp2_with (first | (go_at_call 93;go_must (refine ((xeG _ _).mono fun _ _=>AskW.yes HAK.out).mono ?_;rintro e w1 ⟨rfl,rfl⟩)) | (go_at_call 94;go_must (refine (xkv v.kids _ _ (by rw [<- HL.out];exact HKA.out.keep ((kR Nope w).alloc _) (fun _ _ _ h=>h))).mono ?_;rintro e w1 ⟨⟨rfl,hb⟩ | rfl,hk1⟩;all_goals have H1:=hid (((kR Nope w).alloc _).trans' hk1);clear hk1)))
    ·go_ret;exact ⟨.inl ⟨rfl,.arr HD.out.1 HD.out.2 HU.out HAK.out (List.eq_nil_of_length_eq_zero HU0.out) hb⟩,H1.out⟩
    ·go_ret;exact ⟨.inr rfl,H1.out⟩
   ·have hu0':¬ (u.desc.length:Int)=0:=by omega
    have hu1:((u.desc.length:Int) == 0)=false:=beq_eq_false_iff_ne.2 hu0';clear hu0;go_enter func37,ntmps37;go_wp2_with (first | (go_at_call 93;go_must (refine ((xeG _ _).mono fun _ _=>AskW.yes HAK.out).mono ?_;rintro e w1 ⟨rfl,rfl⟩)));go_ret;exact ⟨.inr rfl,(kR _ _).alloc _⟩
  ·have HAK:=hid hak;clear hak;go_enter func37,ntmps37;go_wp2_with (first | (go_at_call 93;go_must (refine ((xeG _ _).mono fun _ _=>AskW.no HAK.out).mono ?_;rintro e w1 ⟨rfl,rfl⟩)));go_ret;exact ⟨.inr rfl,(kR _ _).alloc _⟩
theorem xnL {a b:V} {w:World} {xa xb:Value} (ha:VAgg Any_ w xa a) (hb:VAgg Any_ w xb b):Calls prog 15 #[xa,xb] w fun e w'=>∃ r,e = .returned (.bool r)/\(r=false->¬ Same a b)/\Kept Nope w w' :=
 (xcU a b w xa xb ha hb).mono fun e w' h=>by
  rcases h with ⟨⟨rfl,_⟩ | ⟨rfl,h1⟩,hk⟩
  ·exact ⟨true,rfl,(fun h=>nomatch h),hk⟩
  ·exact ⟨false,rfl,(fun _=>h1),hk⟩
def SayIH (v:V):Prop:=∀ k,k ∈ v.kids->∀ (W:World) (y:Value),VAgg Any_ W y k->Calls prog 37 #[y] W (AskT (Say k) W)
theorem AR.b {w w':World} {v:V} {y:Value} (h:AR (fun b=>b < w.heap.size) w v y w') (hn:VNum v):VAgg Any_ w' y (asRead v)/\Kept Nope w w':=⟨(h.any hn).1.mono fun _ _ _=>trivial,(h.any hn).2⟩
theorem xkn (v:V) (w:World) (xa:Value) (ha:VAgg Any_ w xa v) (hd:v.desc=[]) (hk1:v.kind < 12\/15 < v.kind) (hk2:v.kind≠23) (hk3:v.kind≠22) (hf:Few v) (ih:SayIH v):Calls prog 37 #[xa] w (AskT (Say v) w):=by
 obtain ⟨ka,da,rfl,hna,hka,hda⟩:=ha;have HKA:=hid hka;have HI:=hid ih;have HF:=hid hf;obtain ⟨p1,c1,rfl,q1,m1⟩:=hka.form;obtain ⟨p2,c2,rfl,q2,m2⟩:=hda.form;have hlm:v.kids.length<=1000:=by cases hf;assumption
 clear hna hka hda q1 m1 q2 m2 hf ih;unfold vagg;have hd0:v.desc.length=0:=by rw [hd];rfl
 rw [hd0];have HD:=hid hd;clear hd0 hd;obtain ⟨n,hn⟩:∃ m,v.kids.length=m:=⟨_,rfl⟩
 rw [hn] at hlm ⊢;have HL:=hid hn;clear hn;obtain ⟨kd,hkd⟩:∃ m,v.kind=m:=⟨_,rfl⟩
 rw [hkd] at hk1 hk2 hk3 ⊢;have n12:(kd == 12)=false:=by simp;omega
 have n13:(kd == 13)=false:=by simp;omega
 have n14:(kd == 14)=false:=by simp;omega
 have n15:(kd == 15)=false:=by simp;omega
 have n23:(kd == 23)=false:=by simp;omega
 have n22:(kd != 22)=true:=by simp;omega
 have HK:=hid (aI hkd (aI hk1 (aI hk2 hk3)));clear hkd hk1 hk2 hk3;go_enter func37,ntmps37;go_wp2;have HT:=Blk.one w #[Value.int .i64 kd,.int .u64 v.num,.string v.text,.slice p1 n c1,.int .i64 v.of_,.slice p2 0 c2] 25;generalize w.alloc (.cells #[Value.int .i64 kd,.int .u64 v.num,.string v.text,.slice p1 n c1,.int .i64 v.of_,.slice p2 0 c2] 25)=W2 at HT ⊢;generalize w.heap.size=A at HT ⊢;have HW:=hid HT;clear HT
 go_loopw [62] (fun c w'=>∃ k:Nat,k<=n/\c = .int .i64 k/\Hid (Kept Nope W2 w'/\(∀ (i:Nat) (x:V),i < k->v.kids[i]? = some x->Say x))) (fun c _=>n - (RowKit.intOf c).toNat)
 case atStart=>exact ⟨0,by omega,rfl,hid ⟨kR _ _,fun i x hi=>by omega⟩⟩
 case round =>
  obtain ⟨k,hk,rfl,HR⟩:=hrel;have HKW:=hid (HW.out.2.trans' HR.out.1)
  by_cases hkn:k < n
  ·have hkn':(k:Int) < (n:Int):=by omega
   have hk0:(0:Int)<=(k:Int):=by omega
   have e1:IntKind.i64.wrap ((k:Int)+1)=(k:Int)+1:=IntWalk.i64_in _ (by omega);obtain ⟨x,hx⟩:∃ u,v.kids[k]? = some u:=⟨v.kids[k]'(by rw [HL.out];exact hkn),ge _⟩
   obtain ⟨b2,off2,cap2,pk,ck,pd,cd,q2,hvx,y0,y1,y2,y3,y4,y5⟩:=(HKA.out.keep HKW.out (fun _ _ _ h=>h)).sixS hx;injection q2 with q2 _ q2'
   subst q2 q2';have HX:=hid (aI hx hvx);clear hx hvx;go_wp2_with (first | (go_at_call 37;go_must (refine (HI.out x (gm HX.out.1) _ _ (HX.out.2.alloc _)).mono ?_;rintro e w1 ⟨⟨rfl,hb⟩ | rfl,hk1⟩;all_goals have H1:=hid (((kR Nope wr).alloc _).trans' hk1);all_goals have bA0:=(HW.out.1.kept (HR.out.1.trans' H1.out) (fun h=>h)).cell 0;all_goals simp only [gt,gz] at bA0;all_goals clear hk1)))
   ·have HBB:=hid hb;clear hb;go_roundw
    case rel =>
     refine ⟨k+1,by omega,by go_num,hid ⟨HR.out.1.trans' H1.out,fun i x' hi hx' => ?_⟩⟩
     rcases Nat.lt_or_ge i k with hlt | hge
     ·exact HR.out.2 i x' hlt hx'
     ·obtain rfl:i=k:=by omega
      have h1:=HX.out.1;rw [hx'] at h1;cases h1;exact HBB.out
    case measure=>simp [RowKit.intOf];omega
   ·go_ret;exact ⟨.inr rfl,HKW.out.trans' H1.out⟩
  ·obtain rfl:k=n:=by omega
   have hlt:¬ (k:Int) < (k:Int):=by omega
   go_wp2;go_ret;refine ⟨.inl ⟨rfl,.mk HD.out (HK.out.1 ▸ HK.out.2.1) (HK.out.1 ▸ HK.out.2.2.1) (fun x hx => ?_) (fun h=>absurd (HK.out.1 ▸ h) HK.out.2.2.2)⟩,HKW.out⟩;obtain ⟨i,hi⟩:=List.mem_iff_getElem?.1 hx;exact HR.out.2 i x (by have:=(gi.1 hi).1;have:=HL.out;omega) hi
theorem xnJ (v:V) (w:World) (xa:Value) (ha:VAgg Any_ w xa v) (hd:v.desc=[]) (hk1:v.kind=22) (hf:Few v) (ih:SayIH v):Calls prog 37 #[xa] w (AskT (Say v) w):=by
 obtain ⟨ka,da,rfl,hna,hka,hda⟩:=ha;have HKA:=hid hka;have HI:=hid ih;have HF:=hid hf;obtain ⟨p1,c1,rfl,q1,m1⟩:=hka.form;obtain ⟨p2,c2,rfl,q2,m2⟩:=hda.form;have hlm:v.kids.length<=1000:=by cases hf;assumption
 clear hna hka hda q1 m1 q2 m2 hf ih;unfold vagg;have hd0:v.desc.length=0:=by rw [hd];rfl
 rw [hd0];have HD:=hid hd;clear hd0 hd;obtain ⟨n,hn⟩:∃ m,v.kids.length=m:=⟨_,rfl⟩
 rw [hn] at hlm ⊢;have HL:=hid hn;clear hn;have HK:=hid hk1;rw [hk1];clear hk1;go_enter func37,ntmps37;go_wp2;have HT:=Blk.one w #[Value.int .i64 22,.int .u64 v.num,.string v.text,.slice p1 n c1,.int .i64 v.of_,.slice p2 0 c2] 25;generalize w.alloc (.cells #[Value.int .i64 22,.int .u64 v.num,.string v.text,.slice p1 n c1,.int .i64 v.of_,.slice p2 0 c2] 25)=W2 at HT ⊢;generalize w.heap.size=A at HT ⊢;have HW:=hid HT;clear HT
 go_loopw [62] (fun c w'=>∃ k:Nat,k<=n/\c = .int .i64 k/\Hid (Kept Nope W2 w'/\(∀ (i:Nat) (x:V),i < k->v.kids[i]? = some x->Say x)/\(∀ (i:Nat) (x:V),2*i < k->v.kids[2*i]? = some x->xce x.kind/\∀ (j:Nat) (x':V),j < i->v.kids[2*j]? = some x'->¬ Same (asRead x') (asRead x)))) (fun c _=>n - (RowKit.intOf c).toNat)
 case atStart=>exact ⟨0,by omega,rfl,hid ⟨kR _ _,fun i x hi=>by omega,fun i x hi=>by omega⟩⟩
 case round =>
  obtain ⟨k,hk,rfl,HR⟩:=hrel;have HKW:=hid (HW.out.2.trans' HR.out.1)
  by_cases hkn:k < n
  ·have hkn':(k:Int) < (n:Int):=by omega
   have hk0:(0:Int)<=(k:Int):=by omega
   have e1:IntKind.i64.wrap ((k:Int)+1)=(k:Int)+1:=IntWalk.i64_in _ (by omega);obtain ⟨x,hx⟩:∃ u,v.kids[k]? = some u:=⟨v.kids[k]'(by rw [HL.out];exact hkn),ge _⟩
   obtain ⟨b2,off2,cap2,pk,ck,pd,cd,q2,hvx,y0,y1,y2,y3,y4,y5⟩:=(HKA.out.keep HKW.out (fun _ _ _ h=>h)).sixS hx;injection q2 with q2 _ q2'
   subst q2 q2';have HX:=hid (aI hx hvx);clear hx hvx;have hpar:(k:Int) % 2=0\/(k:Int) % 2=1:=by omega
   rcases hpar with hp | hp
   ·have hp2:(k:Int).tmod 2=0:=by rw [Int.tmod_eq_emod_of_nonneg (by omega)];exact hp
    obtain ⟨i0,hi0⟩:∃ i0,k=2*i0:=⟨k / 2,by omega⟩
    have HI0:=hid hi0;clear hi0
    by_cases hkk:xce x.kind
    ·have HKK:=hid hkk;clear hkk;go_wp2_with (first | (go_at_call 37;go_must (refine (HI.out x (gm HX.out.1) _ _ (HX.out.2.alloc _)).mono ?_;rintro e w1 ⟨⟨rfl,hb⟩ | rfl,hk1⟩;all_goals have H1:=hid (((kR Nope wr).alloc _).trans' hk1);all_goals have bA0:=(HW.out.1.kept (HR.out.1.trans' H1.out) (fun h=>h)).cell 0;all_goals simp only [gt,gz] at bA0;all_goals have hgb:=(Blk.new wr 25 #[.int .i64 x.kind,.int .u64 x.num,.string x.text,.slice pk x.kids.length ck,.int .i64 x.of_,.slice pd x.desc.length cd]).kept hk1 (fun h=>h);all_goals have g0:=hgb.cell 0;all_goals simp only [gt,gz] at g0;all_goals have HG:=hid hgb;all_goals clear hk1 hgb)) | (go_at_call 95;go_must (refine ((xjf _ _).mono fun _ _=>AskW.yes HKK.out).mono ?_;rintro e w2 ⟨rfl,rfl⟩)))
     ·have HBB:=hid hb;clear hb;obtain ⟨g,hg⟩:∃ g,wr.heap.size=g:=⟨_,rfl⟩
      rw [hg] at HG g0 ⊢;clear hg;have HB:=hid (HW.out.1.kept (HR.out.1.trans' H1.out) (fun h=>h));have HKW1:=hid (HKW.out.trans' H1.out);clear bA0
      go_loopw [5] (fun c w'=>∃ jj:Nat,2*jj<=k+1/\c = .int .i64 (2*(jj:Int))/\Hid (Kept Nope w1 w'/\∀ (j:Nat) (y:V),j < jj->v.kids[2*j]? = some y->¬ Same (asRead y) (asRead x))) (fun c _=>k - (RowKit.intOf c).toNat)
      case atStart=>exact ⟨0,by omega,rfl,hid ⟨kR _ _,fun j y hj=>by omega⟩⟩
      case round =>
       obtain ⟨jj,hj,rfl,HQ⟩:=hrel;have f1:IntKind.i64.wrap (2*(jj:Int)+2)=2*(jj:Int)+2:=IntWalk.i64_in _ (by omega);have hbA:=HB.out.kept HQ.out.1 (fun h=>h);have hbG:=HG.out.kept HQ.out.1 (fun h=>h);have bA3:=hbA.cell 3;have gx0:=hbG.cell 0;have gx1:=hbG.cell 1;have gx2:=hbG.cell 2;have gx3:=hbG.cell 3;have gx4:=hbG.cell 4;have gx5:=hbG.cell 5;simp only [gt,gz,gs] at bA3 gx0 gx1 gx2 gx3 gx4 gx5;clear hbA hbG;have HKQ:=hid (HKW1.out.trans' HQ.out.1)
       by_cases hjn:2*jj < k
       ·have hjn':2*(jj:Int) < (k:Int):=by omega
        have hjn2:2*(jj:Int) < (n:Int):=by omega
        have hj0:(0:Int)<=2*(jj:Int):=by omega
        have t1:(2*(jj:Int)).toNat=2*jj:=by omega
        obtain ⟨y,hy⟩:∃ u,v.kids[2*jj]? = some u:=⟨v.kids[2*jj]'(by rw [HL.out];omega),ge _⟩
        obtain ⟨b3,off3,cap3,pk2,ck2,pd2,cd2,q3,hvy,z0,z1,z2,z3,z4,z5⟩:=(HKA.out.keep HKQ.out (fun _ _ _ h=>h)).sixS hy;injection q3 with q3 _ q3'
        injection q3 with q3
        injection q3 with q4 q5
        subst q4 q5 q3';have hvx2:VAgg Any_ wr (vagg x (.slice pk x.kids.length ck) (.slice pd x.desc.length cd)) x:=HX.out.2.keep (((kR Nope _).trans' H1.out).trans' HQ.out.1) (fun _ _ _ h=>h);have HY:=hid (aI hy (aI hvy hvx2));clear hy hvy hvx2;have HM:Hid (∀ w',Kept Nope wr w'->(Kept Nope wr w'/\w'.cell? ⟨A,3,none⟩=some (Value.slice (some ⟨b2,off2,none⟩) n c1)/\w'.cell? ⟨b2,off2+2*jj*6,none⟩=some (.int .i64 y.kind)/\w'.cell? ⟨b2,off2+2*jj*6+1,none⟩=some (.int .u64 y.num)/\w'.cell? ⟨b2,off2+2*jj*6+2,none⟩=some (.string y.text)/\w'.cell? ⟨b2,off2+2*jj*6+3,none⟩=some (.slice pk2 y.kids.length ck2)/\w'.cell? ⟨b2,off2+2*jj*6+4,none⟩=some (.int .i64 y.of_)/\w'.cell? ⟨b2,off2+2*jj*6+5,none⟩=some (.slice pd2 y.desc.length cd2)/\w'.cell? ⟨g,0,none⟩=some (.int .i64 x.kind)/\w'.cell? ⟨g,1,none⟩=some (.int .u64 x.num)/\w'.cell? ⟨g,2,none⟩=some (.string x.text)/\w'.cell? ⟨g,3,none⟩=some (.slice pk x.kids.length ck)/\w'.cell? ⟨g,4,none⟩=some (.int .i64 x.of_)/\w'.cell? ⟨g,5,none⟩=some (.slice pd x.desc.length cd))):=hid fun w' hk=>⟨hk,hk.cell bA3 (fun h=>h),hk.cell z0 (fun h=>h),hk.cell z1 (fun h=>h),hk.cell z2 (fun h=>h),hk.cell z3 (fun h=>h),hk.cell z4 (fun h=>h),hk.cell z5 (fun h=>h),hk.cell gx0 (fun h=>h),hk.cell gx1 (fun h=>h),hk.cell gx2 (fun h=>h),hk.cell gx3 (fun h=>h),hk.cell gx4 (fun h=>h),hk.cell gx5 (fun h=>h)⟩
        have HFy:=hid (show Few y by have h:=HF.out;cases h with | mk _ h=>exact h y (gm HY.out.1));have HFx:=hid (show Few x by have h:=HF.out;cases h with | mk _ h=>exact h x (gm HX.out.1));go_wp2
        go_region_held3 (fun w'=>Kept Nope wr w'/\w'.cell? ⟨A,3,none⟩=some (Value.slice (some ⟨b2,off2,none⟩) n c1)/\w'.cell? ⟨b2,off2+2*jj*6,none⟩=some (.int .i64 y.kind)/\w'.cell? ⟨b2,off2+2*jj*6+1,none⟩=some (.int .u64 y.num)/\w'.cell? ⟨b2,off2+2*jj*6+2,none⟩=some (.string y.text)/\w'.cell? ⟨b2,off2+2*jj*6+3,none⟩=some (.slice pk2 y.kids.length ck2)/\w'.cell? ⟨b2,off2+2*jj*6+4,none⟩=some (.int .i64 y.of_)/\w'.cell? ⟨b2,off2+2*jj*6+5,none⟩=some (.slice pd2 y.desc.length cd2)/\w'.cell? ⟨g,0,none⟩=some (.int .i64 x.kind)/\w'.cell? ⟨g,1,none⟩=some (.int .u64 x.num)/\w'.cell? ⟨g,2,none⟩=some (.string x.text)/\w'.cell? ⟨g,3,none⟩=some (.slice pk x.kids.length ck)/\w'.cell? ⟨g,4,none⟩=some (.int .i64 x.of_)/\w'.cell? ⟨g,5,none⟩=some (.slice pd x.desc.length cd)) (first | exact HM.out _ ((kR Nope wr).drew) | exact HM.out _ (Kept.trans' (‹Kept Nope wr _/\_›).1 ‹Kept Nope _ _›)) (first | (go_at_call 15;refine (xnL (H3.out.keep ‹Kept Nope w3 _› (fun _ _ _ h=>h)) H4.out).mono ?_;rintro e w5 ⟨r,rfl,hr,hk5⟩;have H5:=hid hr;clear hr) | (have _t:=H3;go_at_call 16;refine (xeR x HFx.out _ _ (HY.out.2.2.keep (‹Kept Nope wr _/\_›).1 (fun _ _ _ h=>h))).mono ?_;rintro e w4 ⟨zx,rfl,hp4⟩;have hq4:=hp4.b (VAgg.vn HY.out.2.2);have H4:=hid hq4.1;have hk4:=hq4.2;clear hp4 hq4) | (go_at_call 16;refine (xeR y HFy.out _ _ (HY.out.2.1.keep (‹Kept Nope wr _/\_›).1 (fun _ _ _ h=>h))).mono ?_;rintro e w3 ⟨zy,rfl,hp3⟩;have hq3:=hp3.b (VAgg.vn HY.out.2.1);have H3:=hid hq3.1;have hk3:=hq3.2;clear hp3 hq3))
        have HKK5:=hid ((((kR Nope wr).drew.trans' hk3).trans' hk4).trans' hk5);clear hk3 hk4 hk5;cases r
        ·have HN5:=hid (H5.out rfl);go_wp2;go_roundw
         case rel =>
          refine ⟨jj+1,by omega,by go_num,hid ⟨HQ.out.1.trans' HKK5.out,fun j y' hj' hy' => ?_⟩⟩
          rcases Nat.lt_or_ge j jj with hlt | hge
          ·exact HQ.out.2 j y' hlt hy'
          ·obtain rfl:j=jj:=by omega
           have h1:=HY.out.1;rw [hy'] at h1;cases h1;exact HN5.out
         case measure=>simp [RowKit.intOf];omega
        ·go_wp2;go_ret;exact ⟨.inr rfl,HKQ.out.trans' HKK5.out⟩
       ·have hjk:¬ 2*(jj:Int) < (k:Int):=by omega
        go_wp2;go_roundw
        case rel =>
         refine ⟨k+1,by omega,by go_num,hid ⟨(HR.out.1.trans' H1.out).trans' HQ.out.1,fun i x' hi hx' => ?_,fun i x' hi hx' => ?_⟩⟩
         ·rcases Nat.lt_or_ge i k with hlt | hge
          ·exact HR.out.2.1 i x' hlt hx'
          ·obtain rfl:i=k:=by omega
           have h1:=HX.out.1;rw [hx'] at h1;cases h1;exact HBB.out
         ·rcases Nat.lt_or_ge (2*i) k with hlt | hge
          ·exact HR.out.2.2 i x' hlt hx'
          ·have he:2*i=k:=by omega
           rw [he] at hx';have h1:=HX.out.1;rw [hx'] at h1;cases h1;exact ⟨HKK.out,fun j y hj hy=>HQ.out.2 j y (by omega) hy⟩
        case measure=>simp [RowKit.intOf];omega
     ·go_ret;exact ⟨.inr rfl,HKW.out.trans' H1.out⟩
    ·have HKK:=hid hkk;clear hkk;go_wp2_with (first | (go_at_call 37;go_must (refine (HI.out x (gm HX.out.1) _ _ (HX.out.2.alloc _)).mono ?_;rintro e w1 ⟨⟨rfl,hb⟩ | rfl,hk1⟩;all_goals have H1:=hid (((kR Nope wr).alloc _).trans' hk1);all_goals have bA0:=(HW.out.1.kept (HR.out.1.trans' H1.out) (fun h=>h)).cell 0;all_goals simp only [gt,gz] at bA0;all_goals have hgb:=(Blk.new wr 25 #[.int .i64 x.kind,.int .u64 x.num,.string x.text,.slice pk x.kids.length ck,.int .i64 x.of_,.slice pd x.desc.length cd]).kept hk1 (fun h=>h);all_goals have g0:=hgb.cell 0;all_goals simp only [gt,gz] at g0;all_goals have HG:=hid hgb;all_goals clear hk1 hgb)) | (go_at_call 95;go_must (refine ((xjf _ _).mono fun _ _=>AskW.no HKK.out).mono ?_;rintro e w2 ⟨rfl,rfl⟩)))
     ·go_ret;exact ⟨.inr rfl,HKW.out.trans' H1.out⟩
     ·go_ret;exact ⟨.inr rfl,HKW.out.trans' H1.out⟩
   ·have hp2:(k:Int).tmod 2=1:=by rw [Int.tmod_eq_emod_of_nonneg (by omega)];exact hp
    have HP:=hid (show k % 2=1 by omega);go_wp2_with (first | (go_at_call 37;go_must (refine (HI.out x (gm HX.out.1) _ _ (HX.out.2.alloc _)).mono ?_;rintro e w1 ⟨⟨rfl,hb⟩ | rfl,hk1⟩;all_goals have H1:=hid (((kR Nope wr).alloc _).trans' hk1);all_goals have bA0:=(HW.out.1.kept (HR.out.1.trans' H1.out) (fun h=>h)).cell 0;all_goals simp only [gt,gz] at bA0;all_goals have hgb:=(Blk.new wr 25 #[.int .i64 x.kind,.int .u64 x.num,.string x.text,.slice pk x.kids.length ck,.int .i64 x.of_,.slice pd x.desc.length cd]).kept hk1 (fun h=>h);all_goals have g0:=hgb.cell 0;all_goals simp only [gt,gz] at g0;all_goals have HG:=hid hgb;all_goals clear hk1 hgb)))
    ·have HBB:=hid hb;clear hb;go_roundw
     case rel =>
      refine ⟨k+1,by omega,by go_num,hid ⟨HR.out.1.trans' H1.out,fun i x' hi hx' => ?_,fun i x' hi hx'=>HR.out.2.2 i x' (by have:=HP.out;omega) hx'⟩⟩
      rcases Nat.lt_or_ge i k with hlt | hge
      ·exact HR.out.2.1 i x' hlt hx'
      ·obtain rfl:i=k:=by omega
       have h1:=HX.out.1;rw [hx'] at h1;cases h1;exact HBB.out
     case measure=>simp [RowKit.intOf];omega
    ·go_ret;exact ⟨.inr rfl,HKW.out.trans' H1.out⟩
  ·obtain rfl:k=n:=by omega
   have hlt:¬ (k:Int) < (k:Int):=by omega
   go_wp2;go_ret;refine ⟨.inl ⟨rfl,.mk HD.out (.inr (by have:=HK.out;omega)) (by have:=HK.out;omega) (fun x hx => ?_) (fun _ i x hx=>HR.out.2.2 i x (by have:=(gi.1 hx).1;have:=HL.out;omega) hx)⟩,HKW.out⟩;obtain ⟨i,hi⟩:=List.mem_iff_getElem?.1 hx;exact HR.out.2.1 i x (by have:=(gi.1 hi).1;have:=HL.out;omega) hi
theorem xnK:∀ (n:Nat) (v:V),SizeOf.sizeOf v<=n->Few v->∀ (w:World) (xa:Value),VAgg Any_ w xa v->Calls prog 37 #[xa] w (AskT (Say v) w):=by
 intro n
 induction n using Nat.strongRecOn with
 | _ n ih =>
  intro v hn hf w xa ha
  have hI:SayIH v:=fun k hk W y hy=>by
   have hs:=V.sizeOf_kid hk;exact ih (SizeOf.sizeOf k) (by omega) k (Nat.le_refl _) (by cases hf with | mk _ h=>exact h k hk) W y hy
  by_cases h0:v.desc=[]
  ·by_cases h1:12<=v.kind/\v.kind<=15
   ·exact xeJ v w xa ha (.inr h1)
   ·by_cases h2:v.kind=23
    ·exact xko v w xa ha h0 h2
    ·by_cases h3:v.kind=22
     ·exact xnJ v w xa ha h0 h3 hf hI
     ·exact xkn v w xa ha h0 (by omega) h2 h3 hf hI
  ·exact xeJ v w xa ha (.inl h0)
theorem xph (v:V) (hf:Few v) (w:World) (xa:Value) (ha:VAgg Any_ w xa v):Calls prog 37 #[xa] w (AskT (Say v) w):=xnK _ v (Nat.le_refl _) hf w xa ha
theorem xcv:∀ (n:Nat) (v:V),SizeOf.sizeOf v<=n->Fits v->Few v:=by
 intro n
 induction n using Nat.strongRecOn with
 | _ n ih =>
  intro v hn hf;refine .mk hf.own.few fun k hk => ?_
  have hs:=V.sizeOf_kid hk;exact ih (SizeOf.sizeOf k) (by omega) k (Nat.le_refl _) (hf.kid hk)
theorem xjz:∀ (n:Nat) (v:V),SizeOf.sizeOf v<=n->∀ (d:Int) (w:World) (xa:Value),d<=1000000->VAgg Any_ w xa v->Tabs w->Calls prog 92 #[xa,.int .i64 d] w (AskT (Fits v) w):=by
 intro n
 induction n using Nat.strongRecOn with
 | _ n ih =>
  intro v hn d w xa hd ha hT;refine valueFits_step v d w xa ha hT hd (fun h0 k hk W y hW hy => ?_) (fun h0 k hk W y hW hy => ?_)
  ·have:=V.sizeOf_kid hk;exact ih (SizeOf.sizeOf k) (by omega) k (Nat.le_refl _) (d - 1) W y (by omega) hy hW
  ·have:=V.sizeOf_desc hk;exact ih (SizeOf.sizeOf k) (by omega) k (Nat.le_refl _) (d - 1) W y (by omega) hy hW
theorem xhf (v:V) (d:Int) (w:World) (xa:Value) (hd:d<=1000000) (ha:VAgg Any_ w xa v) (hT:Tabs w):Calls prog 35 #[xa,.int .i64 d] w (AskT (Fits v/\v.count<=2000) w):=by
 have HA:=hid (aI ha hT);obtain ⟨ks,ds,rfl,hn,hks,hds⟩:=ha;obtain ⟨pk,ck,rfl,_⟩:=hks.form;obtain ⟨pd,cd,rfl,_⟩:=hds.form;clear hn hks hds hT;unfold vagg at HA ⊢;obtain ⟨n,hnn⟩:∃ n,v.kids.length=n:=⟨_,rfl⟩
 obtain ⟨nd,hnd⟩:∃ n,v.desc.length=n:=⟨_,rfl⟩
 rw [hnn,hnd] at HA ⊢;clear hnn hnd;go_enter func35,ntmps35;have hA:=(Blk.new w 25 #[.int .i64 v.kind,.int .u64 v.num,.string v.text,.slice pk n ck,.int .i64 v.of_,.slice pd nd cd]).alloc (.cells #[.int .i64 2000] 3)
 have hB:Blk ((w.alloc (.cells #[.int .i64 v.kind,.int .u64 v.num,.string v.text,.slice pk n ck,.int .i64 v.of_,.slice pd nd cd] 25)).alloc (.cells #[.int .i64 2000] 3)) (w.heap.size+1) 3 #[.int .i64 2000]:=by
  have h:=Blk.new (w.alloc (.cells #[.int .i64 v.kind,.int .u64 v.num,.string v.text,.slice pk n ck,.int .i64 v.of_,.slice pd nd cd] 25)) 3 #[.int .i64 2000];rwa [World.size_alloc] at h
 have hk2:Kept Nope w ((w.alloc (.cells #[.int .i64 v.kind,.int .u64 v.num,.string v.text,.slice pk n ck,.int .i64 v.of_,.slice pd nd cd] 25)).alloc (.cells #[.int .i64 2000] 3)):=((kR Nope w).alloc _).alloc _;have HF:=hid (aI ((HA.out.1.mono (S':=fun c=>c≠w.heap.size+1) fun b hb _=>by omega).keep hk2 (fun _ _ _ h=>h)) (aI hB (aI hA hk2)));clear hA hB hk2;go_wp2_with (first | (go_at_call 92;go_must (refine (xjz _ v (Nat.le_refl _) d _ _ hd (HA.out.1.keep H1.out (fun _ _ _ h=>h)) (HA.out.2.nope H1.out)).mono ?_;rintro e w2 ⟨⟨rfl,hf⟩ | rfl,hk⟩;all_goals have H2:=hid (H1.out.trans' hk);all_goals clear hk)) | (go_at_call 91;go_must (refine (xjV _ v (Nat.le_refl _) _ 2000 _ _ HF.out.1 HF.out.2.1 (by omega) (by omega)).mono ?_;rintro e w1 ⟨hk1,⟨rfl,hc,_⟩ | ⟨rfl,_⟩⟩;all_goals have hA1:=HF.out.2.2.1.kept hk1 (fun e=>by have e':w.heap.size=w.heap.size+1:=e;omega);all_goals have c0:=hA1.cell 0;all_goals have c1:=hA1.cell 1;all_goals have c2:=hA1.cell 2;all_goals have c3:=hA1.cell 3;all_goals have c4:=hA1.cell 4;all_goals have c5:=hA1.cell 5;all_goals simp only [gt,gz,gs] at c0 c1 c2 c3 c4 c5;all_goals have hkk:Kept Nope w w1:=HF.out.2.2.2.trans hk1 (fun b hb e=>by have e':b=w.heap.size+1:=e;omega);all_goals have H1:=hid hkk;all_goals (first | (have HC:=hid hc;clear hc) | skip);all_goals clear hk1 hA1 hkk)))
 ·go_ret;exact ⟨.inl ⟨rfl,hf,by have:=HC.out;omega⟩,H2.out⟩
 ·go_ret;exact ⟨.inr rfl,H2.out⟩
 ·go_ret;exact ⟨.inr rfl,H1.out⟩
structure Askd (v:V):Prop where
 fits:Fits v
 few:v.count<=2000
 say:Say v
theorem xdk (v:V) (w:World) (xa:Value) (ha:VAgg Any_ w xa v) (hT:Tabs w):Calls prog 12 #[xa] w (AskT (Askd v) w):=by
 have HA:=hid (aI ha hT);obtain ⟨ks,ds,rfl,hn,hks,hds⟩:=ha;obtain ⟨pk,ck,rfl,_⟩:=hks.form;obtain ⟨pd,cd,rfl,_⟩:=hds.form;clear hn hks hds hT;unfold vagg at HA ⊢;obtain ⟨n,hnn⟩:∃ n,v.kids.length=n:=⟨_,rfl⟩
 obtain ⟨nd,hnd⟩:∃ n,v.desc.length=n:=⟨_,rfl⟩
 rw [hnn,hnd] at HA ⊢;clear hnn hnd;have hA:=Blk.new w 25 #[.int .i64 v.kind,.int .u64 v.num,.string v.text,.slice pk n ck,.int .i64 v.of_,.slice pd nd cd];have HB:=hid (aI hA ((kR Nope w).alloc (.cells #[.int .i64 v.kind,.int .u64 v.num,.string v.text,.slice pk n ck,.int .i64 v.of_,.slice pd nd cd] 25)));clear hA;go_enter func12,ntmps12;go_wp2_with (first | (go_at_call 37;go_must (refine (xph v (xcv _ v (Nat.le_refl _) HF.out.1) _ _ (HA.out.1.keep H2.out (fun _ _ _ h=>h))).mono ?_;rintro e w3 ⟨⟨rfl,hs⟩ | rfl,hk⟩;all_goals have H3:=hid (H2.out.trans' hk);all_goals clear hk)) | (go_at_call 36;go_must (refine (xjs Fits (fun v hv=>⟨hv.own.few,hv.own.desc,fun k hk=>(List.mem_append.1 hk).elim hv.kid hv.descr⟩) _ v (Nat.le_refl _) HF.out.1 _ _ (HA.out.1.keep H1.out (fun _ _ _ h=>h))).mono ?_;rintro e w2 ⟨nv,rfl,hk⟩;have hA2:=(HB.out.1.kept H1'.out (fun h=>h)).kept hk (fun h=>h);have d0:=hA2.cell 0;have d1:=hA2.cell 1;have d2:=hA2.cell 2;have d3:=hA2.cell 3;have d4:=hA2.cell 4;have d5:=hA2.cell 5;simp only [gt,gz,gs] at d0 d1 d2 d3 d4 d5;have H2:=hid (H1.out.trans' hk);clear hk hA2)) | (go_at_call 35;go_must (refine (xhf v 6 _ _ (by omega) (HA.out.1.keep HB.out.2 (fun _ _ _ h=>h)) (HA.out.2.nope HB.out.2)).mono ?_;rintro e w1 ⟨⟨rfl,hf⟩ | rfl,hk⟩;all_goals have hA1:=HB.out.1.kept hk (fun h=>h);all_goals have c0:=hA1.cell 0;all_goals have c1:=hA1.cell 1;all_goals have c2:=hA1.cell 2;all_goals have c3:=hA1.cell 3;all_goals have c4:=hA1.cell 4;all_goals have c5:=hA1.cell 5;all_goals simp only [gt,gz,gs] at c0 c1 c2 c3 c4 c5;all_goals have H1:=hid (HB.out.2.trans' hk);all_goals have H1':=hid hk;all_goals (first | (have HF:=hid hf;clear hf) | skip);all_goals clear hk hA1)))
 all_goals go_ret
 all_goals first
  | exact ⟨.inl ⟨rfl,HF.out.1,HF.out.2,hs⟩,H3.out⟩
  | exact ⟨.inr rfl,H3.out⟩
  | exact ⟨.inr rfl,H2.out⟩
  | exact ⟨.inr rfl,H1.out⟩
theorem left_ok (w:World) (a b:Value) (bs:List UInt8) (ha:BSl Any_ w a bs) (hb:BSl Any_ w b bs):Calls prog 18 #[a,b] w fun e w'=>e = .returned (.bool true)/\w=w':=by
 have h1:=xbe 26 9 5 underlying26 underlying5 underlying9 ha;have h2:=xbe 26 9 5 underlying26 underlying5 underlying9 hb;obtain ⟨p,c,rfl,_⟩:=ha;obtain ⟨p',c',rfl,_⟩:=hb;go_enter func18,ntmps18;go_wp2;go_ret;exact ⟨rfl,rfl⟩
end Go.Proofs.YtmdpodeegdjkeaaGreatDoor
