/- Part 30 of the proof of the readers and the guards. No conditions. -/
import Derived.LoopTactic
import Derived.IntWalk
import Derived.Outline
import Derived.Lib.ConvBytes
import Derived.Test.YtmdpodeegdjkeaaGreatDoorU0
import Derived.Test.YtmdpodeegdjkeaaGreatDoorU5
import Derived.Test.YtmdpodeegdjkeaaGreatDoorU29
set_option maxRecDepth 100000
set_option maxHeartbeats 3200000
namespace Go.Proofs.YtmdpodeegdjkeaaGreatDoor
open Go Go.RowKit Go.Lib Tryz
attribute [local go_sem ↓] Go.wp_at_zero Go.wp_at_succ
theorem xoS (w:World) (s:ByteArray) (hs:s.size<=maxLen):∃ p c w',(convert 9 26 (.string s)).run prog w = .ok (.slice p s.size c) w'/\BSl (fun b=>w.heap.size<=b) w' (.slice p s.size c) (bytesOf s)/\Kept Nope w w':=by
 refine ⟨_,_,_,Lib.run_convert_string_bytes w 9 26 5 s underlying9 underlying26 underlying5,⟨_,_,by rw [bytesOf_length],?_,?_,.inr ⟨w.heap.size,0,rfl,Nat.le_refl _,fun j x hx => ?_⟩⟩,⟨rfl,rfl,rfl,by rw [bytesWorld_size];omega,fun k hk _=>bytesWorld_at_old w 5 s k hk⟩⟩
 ·rw [bytesOf_length];exact grownCap_ge w s.size 0 5
 ·exact grownCap_le_maxLen w s.size 0 5 hs
 ·have hj:j < s.size:=by have:=(gi.1 hx).1;rwa [bytesOf_length] at this
  rw [Nat.zero_add,bytesWorld_cell w 5 s j hj];unfold bytesOf at hx;rw [List.getD,hx]
  rfl
theorem xeu {o:Oper} {a:Act} {K:Act->World->Prop} {Q:Exit->Act->World->Prop} {f:Value->World->Result Next} {w:World} {s:ByteArray} (hs:s.size<=maxLen)
  (hK:∀ p c w',BSl (fun b=>w.heap.size<=b) w' (.slice p s.size c) (bytesOf s)->Kept Nope w w'->Oper.upon prog o a K Q ((Result.ok (.slice p s.size c) w').andThen f)):Oper.upon prog o a K Q ((Sem.run prog (convert 9 26 (.string s)) w).andThen f):=by
 obtain ⟨p,c,w',hrun,h1,h2⟩:=xoS w s hs;exact Eq.mpr (congrArg (fun r=>Oper.upon prog o a K Q (Result.andThen r f)) hrun) (hK p c w' h1 h2)
theorem PRow.litL {base g:Nat} {w:World} (l:List Pc) (hg:w.heap.size=g) (hb:base<=w.heap.size) (hw:∀ p ∈ l,BSl (fun b=>base<=b) w p.s p.data) (hl:l.length<=maxLen):PRow base (w.alloc (.cells (l.flatMap Pc.cells).toArray 64)) (.slice (some ⟨g,0,none⟩) l.length l.length) l:=by
 subst hg;refine ⟨⟨xcB l,.inr ⟨w.heap.size,l.length,(l.flatMap Pc.cells).toArray,rfl,hb,heap_alloc_new w _,Nat.le_refl _,hl,by rw [List.size_toArray,xcB],by simp only [<- xcB];exact List.take_of_length_le (Nat.le_refl _)⟩⟩,fun p hp => ?_⟩;refine (((hw p hp).mono (S':=fun b=>base<=b/\b < w.heap.size) fun b hb hS=>⟨hS,hb⟩).keep ((kR Nope w).alloc _) fun _ _ _ h=>h).mono fun b _ hb=>⟨hb.1,fun e => ?_⟩
 have e':some w.heap.size=some b:=e;injection e' with e'
 omega
set_option maxHeartbeats 6400000 in
theorem xpJ (v:V) (f:Nat) (w:World) (x:Value) (h18:v.kind=18) (hl:v.text.size<=131072) (hf:xaT w f) (hx:VAgg (fun b=>b≠f) w x v) :
  Calls prog 38 #[.pointer (some ⟨f,0,none⟩),x] w (xcY f w (Forms v)):=by
 have hx':=hx;obtain ⟨ks,ds,rfl,hn,hks,hds⟩:=hx;have HX:=hid hx';obtain ⟨pk,ck,rfl,_⟩:=hks.form;obtain ⟨pd,cd,rfl,_⟩:=hds.form;have HF:=hid (aI hf h18);clear hks hds hn hf hx';unfold vagg;rw [h18];clear h18;obtain ⟨t,ht⟩:∃ t,v.text=t:=⟨_,rfl⟩
 rw [ht] at hl ⊢;have HT:=hid (aI ht (show t.size<=maxLen by unfold maxLen;omega));clear ht;go_enter func38,ntmps38;go_wp2_with (first | (refine xeu HT.out.2 ?_;intro p2 c2 w2 hb2 hk2;have H2:=hid (aI hb2 hk2);clear hb2 hk2;go_simp) | (go_at_call 97;go_must (refine (xbQ 0xa0 0xb0 _ (bytesOf t) (-1) _ (H2.out.1.mono fun _ _ _=>trivial) (by rw [bytesOf_length];omega) (.inl rfl)).mono ?_;rintro e w9 ⟨x9,rfl,hps9,hk9⟩;obtain ⟨p9,c9,rfl,_⟩:=hps9.form;have H9:=hid (aI hps9 (((kR Nope w).alloc _).trans' (H2.out.2.trans' hk9)));clear hps9 hk9)));go_ret;refine ⟨_,xbf 0xa0 0xb0 (bytesOf t) (-1),rfl,H9.out.1.mono ?_,?_,HF.out.1.keep H9.out.2 (fun h=>h),H9.out.2.nope⟩
 ·have h1:=H2.out.2.size;rw [World.size_alloc] at h1;omega
 ·rw [<- HT.out.1];exact Forms.text (.inl HF.out.2) (by rw [HF.out.2];rfl) (by rw [HF.out.2];rfl)
set_option maxHeartbeats 6400000 in
theorem xpI (v:V) (f:Nat) (w:World) (x:Value) (h18:v.kind=19) (hl:v.text.size<=131072) (hf:xaT w f) (hx:VAgg (fun b=>b≠f) w x v) :
  Calls prog 38 #[.pointer (some ⟨f,0,none⟩),x] w (xcY f w (Forms v)):=by
 have hx':=hx;obtain ⟨ks,ds,rfl,hn,hks,hds⟩:=hx;have HX:=hid hx';obtain ⟨pk,ck,rfl,_⟩:=hks.form;obtain ⟨pd,cd,rfl,_⟩:=hds.form;have HF:=hid (aI hf h18);clear hks hds hn hf hx';unfold vagg;rw [h18];clear h18;obtain ⟨t,ht⟩:∃ t,v.text=t:=⟨_,rfl⟩
 rw [ht] at hl ⊢;have HT:=hid (aI ht (show t.size<=maxLen by unfold maxLen;omega));clear ht;go_enter func38,ntmps38;go_wp2_with (first | (refine xeu HT.out.2 ?_;intro p2 c2 w2 hb2 hk2;have H2:=hid (aI hb2 hk2);clear hb2 hk2;go_simp) | (go_at_call 97;go_must (refine (xbQ 0xa1 0xb1 _ (bytesOf t) (-1) _ (H2.out.1.mono fun _ _ _=>trivial) (by rw [bytesOf_length];omega) (.inl rfl)).mono ?_;rintro e w9 ⟨x9,rfl,hps9,hk9⟩;obtain ⟨p9,c9,rfl,_⟩:=hps9.form;have H9:=hid (aI hps9 (((kR Nope w).alloc _).trans' (H2.out.2.trans' hk9)));clear hps9 hk9)));go_ret;refine ⟨_,xbf 0xa1 0xb1 (bytesOf t) (-1),rfl,H9.out.1.mono ?_,?_,HF.out.1.keep H9.out.2 (fun h=>h),H9.out.2.nope⟩
 ·have h1:=H2.out.2.size;rw [World.size_alloc] at h1;omega
 ·rw [<- HT.out.1];exact Forms.text (.inr (.inl HF.out.2)) (by rw [HF.out.2];rfl) (by rw [HF.out.2];rfl)
set_option maxHeartbeats 6400000 in
theorem xpH (v:V) (f:Nat) (w:World) (x:Value) (h18:v.kind=20) (hl:v.text.size<=131072) (hf:xaT w f) (hx:VAgg (fun b=>b≠f) w x v) :
  Calls prog 38 #[.pointer (some ⟨f,0,none⟩),x] w (xcY f w (Forms v)):=by
 have hx':=hx;obtain ⟨ks,ds,rfl,hn,hks,hds⟩:=hx;have HX:=hid hx';obtain ⟨pk,ck,rfl,_⟩:=hks.form;obtain ⟨pd,cd,rfl,_⟩:=hds.form;have HF:=hid (aI hf h18);clear hks hds hn hf hx';unfold vagg;rw [h18];clear h18;obtain ⟨t,ht⟩:∃ t,v.text=t:=⟨_,rfl⟩
 rw [ht] at hl ⊢;have HT:=hid (aI ht (show t.size<=maxLen by unfold maxLen;omega));clear ht;go_enter func38,ntmps38;go_wp2_with (first | (refine xeu HT.out.2 ?_;intro p2 c2 w2 hb2 hk2;have H2:=hid (aI hb2 hk2);clear hb2 hk2;go_simp) | (go_at_call 97;go_must (refine (xbQ 0xa3 0xb3 _ (bytesOf t) (-1) _ (H2.out.1.mono fun _ _ _=>trivial) (by rw [bytesOf_length];omega) (.inl rfl)).mono ?_;rintro e w9 ⟨x9,rfl,hps9,hk9⟩;obtain ⟨p9,c9,rfl,_⟩:=hps9.form;have H9:=hid (aI hps9 (((kR Nope w).alloc _).trans' (H2.out.2.trans' hk9)));clear hps9 hk9)));go_ret;refine ⟨_,xbf 0xa3 0xb3 (bytesOf t) (-1),rfl,H9.out.1.mono ?_,?_,HF.out.1.keep H9.out.2 (fun h=>h),H9.out.2.nope⟩
 ·have h1:=H2.out.2.size;rw [World.size_alloc] at h1;omega
 ·rw [<- HT.out.1];exact Forms.text (.inr (.inr HF.out.2)) (by rw [HF.out.2];rfl) (by rw [HF.out.2];rfl)
set_option maxHeartbeats 6400000 in
theorem pieces_0 (v:V) (f:Nat) (w:World) (x:Value) (h0:v.kind=0) (hf:xaT w f) (hx:VAgg (fun b=>b≠f) w x v) :
  Calls prog 38 #[.pointer (some ⟨f,0,none⟩),x] w (xcY f w (Forms v)):=by
 have hx':=hx;obtain ⟨ks,ds,rfl,hn,hks,hds⟩:=hx;have HX:=hid hx';obtain ⟨pk,ck,rfl,_⟩:=hks.form;obtain ⟨pd,cd,rfl,_⟩:=hds.form;have HF:=hid (aI hf h0);clear hks hds hn hf hx';unfold vagg;rw [h0];clear h0;go_enter func38,ntmps38;go_wp2;go_ret;have hk:=((kR Nope w).alloc (.cells #[.int .i64 0,.int .u64 v.num,.string v.text,.slice pk v.kids.length ck,.int .i64 v.of_,.slice pd v.desc.length cd] 25)).alloc (.cells #[.int .i64 64,.slice none 0 0] 64);exact ⟨_,[(64,[])],rfl,⟨[⟨64,[],.slice none 0 0⟩],PRow.litL [⟨64,[],.slice none 0 0⟩] (by simp) (by simp) (fun p hp=>by rw [List.mem_singleton.1 hp];exact BSl.nil none 0 (by simp [maxLen])) (by simp [maxLen]),rfl⟩,⟨fun p hp=>by rw [List.mem_singleton.1 hp];exact ⟨.null HF.out.2,by simp⟩,⟨[],by rw [HF.out.2];exact List.mem_singleton.2 rfl⟩,by simp⟩,HF.out.1.keep hk (fun h=>h),hk.nope⟩
set_option maxHeartbeats 6400000 in
theorem pieces_1 (v:V) (f:Nat) (w:World) (x:Value) (h1:v.kind=1) (hn1:v.num=0\/v.num=1) (hf:xaT w f) (hx:VAgg (fun b=>b≠f) w x v) :
  Calls prog 38 #[.pointer (some ⟨f,0,none⟩),x] w (xcY f w (Forms v)):=by
 have hx':=hx;obtain ⟨ks,ds,rfl,hn,hks,hds⟩:=hx;have HX:=hid hx';obtain ⟨pk,ck,rfl,_⟩:=hks.form;obtain ⟨pd,cd,rfl,_⟩:=hds.form;have HF:=hid (aI hf h1);clear hks hds hn hf hx';unfold vagg;rw [h1];clear h1;obtain ⟨n,hnn⟩:∃ n,v.num=n:=⟨_,rfl⟩
 have HN:=hid hnn;rw [hnn] at hn1 ⊢;clear hnn
 rcases hn1 with rfl | rfl
 ·go_enter func38,ntmps38;go_wp2;go_ret;have hb:=BRow.lit1 (base:=w.heap.size) (w:=w.alloc (.cells #[.int .i64 1,.int .u64 0,.string v.text,.slice pk v.kids.length ck,.int .i64 v.of_,.slice pd v.desc.length cd] 25)) (c:=0) (g:=w.heap.size+1) (by simp) (by simp) (by decide);have hk:=(((kR Nope w).alloc (.cells #[.int .i64 1,.int .u64 0,.string v.text,.slice pk v.kids.length ck,.int .i64 v.of_,.slice pd v.desc.length cd] 25)).alloc (.cells #[.int .u8 0] 5)).alloc (.cells #[.int .i64 66,.slice none 0 0,.int .i64 86,.slice (some ⟨w.heap.size+1,0,none⟩) 1 1] 64);refine ⟨_,[(66,[]),(86,[UInt8.ofNat 0])],rfl,⟨[⟨66,[],.slice none 0 0⟩,⟨86,[UInt8.ofNat 0],.slice (some ⟨w.heap.size+1,0,none⟩) 1 1⟩],PRow.litL (w:=(w.alloc (.cells #[.int .i64 1,.int .u64 0,.string v.text,.slice pk v.kids.length ck,.int .i64 v.of_,.slice pd v.desc.length cd] 25)).alloc (.cells #[.int .u8 0] 5)) [⟨66,[],.slice none 0 0⟩,⟨86,[UInt8.ofNat 0],.slice (some ⟨w.heap.size+1,0,none⟩) 1 1⟩] (by simp) (by simp;omega) (fun p hp => ?_) (by simp [maxLen]),rfl⟩,⟨fun p hp => ?_,⟨[UInt8.ofNat 0],by rw [HF.out.2];simp [xaU]⟩,by simp⟩,HF.out.1.keep hk (fun h=>h),hk.nope⟩
  ·simp only [List.mem_cons,List.mem_nil_iff,or_false] at hp
   rcases hp with rfl | rfl
   ·exact BSl.nil none 0 (by simp [maxLen])
   ·exact hb.bsl
  ·simp only [List.mem_cons,List.mem_nil_iff,or_false] at hp
   rcases hp with rfl | rfl
   ·have h:=Form.flag (v:=v) HF.out.2;rw [HN.out] at h;exact ⟨h,by simp⟩
   ·have h:=Form.bool (v:=v) HF.out.2;rw [HN.out] at h;exact ⟨h,by simp⟩
 ·go_enter func38,ntmps38;go_wp2;go_ret;have hb:=BRow.lit1 (base:=w.heap.size) (w:=w.alloc (.cells #[.int .i64 1,.int .u64 1,.string v.text,.slice pk v.kids.length ck,.int .i64 v.of_,.slice pd v.desc.length cd] 25)) (c:=1) (g:=w.heap.size+1) (by simp) (by simp) (by decide);have hk:=(((kR Nope w).alloc (.cells #[.int .i64 1,.int .u64 1,.string v.text,.slice pk v.kids.length ck,.int .i64 v.of_,.slice pd v.desc.length cd] 25)).alloc (.cells #[.int .u8 1] 5)).alloc (.cells #[.int .i64 65,.slice none 0 0,.int .i64 86,.slice (some ⟨w.heap.size+1,0,none⟩) 1 1] 64);refine ⟨_,[(65,[]),(86,[UInt8.ofNat 1])],rfl,⟨[⟨65,[],.slice none 0 0⟩,⟨86,[UInt8.ofNat 1],.slice (some ⟨w.heap.size+1,0,none⟩) 1 1⟩],PRow.litL (w:=(w.alloc (.cells #[.int .i64 1,.int .u64 1,.string v.text,.slice pk v.kids.length ck,.int .i64 v.of_,.slice pd v.desc.length cd] 25)).alloc (.cells #[.int .u8 1] 5)) [⟨65,[],.slice none 0 0⟩,⟨86,[UInt8.ofNat 1],.slice (some ⟨w.heap.size+1,0,none⟩) 1 1⟩] (by simp) (by simp;omega) (fun p hp => ?_) (by simp [maxLen]),rfl⟩,⟨fun p hp => ?_,⟨[UInt8.ofNat 1],by rw [HF.out.2];simp [xaU]⟩,by simp⟩,HF.out.1.keep hk (fun h=>h),hk.nope⟩
  ·simp only [List.mem_cons,List.mem_nil_iff,or_false] at hp
   rcases hp with rfl | rfl
   ·exact BSl.nil none 0 (by simp [maxLen])
   ·exact hb.bsl
  ·simp only [List.mem_cons,List.mem_nil_iff,or_false] at hp
   rcases hp with rfl | rfl
   ·have h:=Form.flag (v:=v) HF.out.2;rw [HN.out] at h;exact ⟨h,by simp⟩
   ·have h:=Form.bool (v:=v) HF.out.2;rw [HN.out] at h;exact ⟨h,by simp⟩
set_option maxHeartbeats 6400000 in
theorem xpL (v:V) (f:Nat) (w:World) (x:Value) (h14:v.kind=14) (hl:v.text.size=16) (hf:xaT w f) (hx:VAgg (fun b=>b≠f) w x v) :
  Calls prog 38 #[.pointer (some ⟨f,0,none⟩),x] w (xcY f w (Forms v)):=by
 have hx':=hx;obtain ⟨ks,ds,rfl,hn,hks,hds⟩:=hx;have HX:=hid hx';obtain ⟨pk,ck,rfl,_⟩:=hks.form;obtain ⟨pd,cd,rfl,_⟩:=hds.form;have HF:=hid (aI hf (aI h14 hl));clear hks hds hn hf hx';unfold vagg;rw [h14];clear h14;obtain ⟨t,ht⟩:∃ t,v.text=t:=⟨_,rfl⟩
 rw [ht] at hl ⊢;have HT:=hid (aI ht (show t.size<=maxLen by unfold maxLen;omega));clear ht hl;have HCD:=hid (fun W=>xfd (k:=14) (by omega) W);go_enter func38,ntmps38
 go_upto_region 8 with fail
 have hA:=Blk.new w 25 #[.int .i64 14,.int .u64 v.num,.string t,.slice pk v.kids.length ck,.int .i64 v.of_,.slice pd v.desc.length cd];have HK1:=hid ((kR Nope w).alloc (.cells #[.int .i64 14,.int .u64 v.num,.string t,.slice pk v.kids.length ck,.int .i64 v.of_,.slice pd v.desc.length cd] 25));generalize w.alloc (.cells #[.int .i64 14,.int .u64 v.num,.string t,.slice pk v.kids.length ck,.int .i64 v.of_,.slice pd v.desc.length cd] 25)=W1 at hA HK1 ⊢;generalize w.heap.size=A at hA ⊢;have HM:Hid (∀ w',Kept Nope W1 w'->w'.cell? ⟨A,0,none⟩=some (.int .i64 14)/\w'.cell? ⟨A,2,none⟩=some (.string t)):=hid fun w' h=>⟨(hA.kept h (fun h=>h)).cell 0,(hA.kept h (fun h=>h)).cell 2⟩
 clear hA;obtain ⟨a0,a2⟩:=HM.out _ (kR _ W1).drew;have hN0:=(kR Nope W1).drew
 go_region_with (first | (go_at_call 96;refine (HCD.out _).mono ?_;rintro e w2 ⟨rfl,hk⟩;have hN:=‹Kept Nope W1 _›.trans' hk;obtain ⟨b0,b2⟩:=HM.out _ hN;(try replace H2:=hid (H2.out.keep hk (fun _ _ _ h=>h)));clear hk) | (refine xeu HT.out.2 ?_;intro p2 c2 w2 hb2 hk;have H2:=hid (hb2.mono (S':=fun b=>W1.heap.size<=b) fun b _ hb=>Nat.le_trans ‹Kept Nope W1 _›.size hb);have hN:=‹Kept Nope W1 _›.trans' hk;obtain ⟨b0,b2⟩:=HM.out _ hN;clear hb2 hk;go_simp))
 all_goals
  go_wp2;go_ret;have hk:=HK1.out.trans' (‹Kept Nope W1 _›.alloc (.cells #[.int .i64 (xaU 14),.slice p2 t.size c2] 64));refine ⟨_,[(xaU 14,bytesOf t)],rfl,⟨[⟨xaU 14,bytesOf t,.slice p2 t.size c2⟩],PRow.litL [⟨xaU 14,bytesOf t,.slice p2 t.size c2⟩] rfl (Nat.le_trans HK1.out.size (Kept.size ‹Kept Nope W1 _›)) (fun p hp => ?_) (by simp [maxLen]),rfl⟩,⟨fun p hp => ?_,⟨bytesOf t,by rw [HF.out.2.1];exact List.mem_singleton.2 rfl⟩,by simp⟩,HF.out.1.keep hk (fun h=>h),hk.nope⟩
  ·rw [List.mem_singleton.1 hp];exact H2.out.mono fun b _ hb=>Nat.le_trans HK1.out.size hb
  ·rw [List.mem_singleton.1 hp,<- HT.out.1];have h:=Form.wide (v:=v) (.inl HF.out.2.1) HF.out.2.2;rw [HF.out.2.1] at h;exact ⟨h,xfc 14⟩
set_option maxHeartbeats 6400000 in
theorem xpK (v:V) (f:Nat) (w:World) (x:Value) (h14:v.kind=17) (hl:v.text.size=16) (hf:xaT w f) (hx:VAgg (fun b=>b≠f) w x v) :
  Calls prog 38 #[.pointer (some ⟨f,0,none⟩),x] w (xcY f w (Forms v)):=by
 have hx':=hx;obtain ⟨ks,ds,rfl,hn,hks,hds⟩:=hx;have HX:=hid hx';obtain ⟨pk,ck,rfl,_⟩:=hks.form;obtain ⟨pd,cd,rfl,_⟩:=hds.form;have HF:=hid (aI hf (aI h14 hl));clear hks hds hn hf hx';unfold vagg;rw [h14];clear h14;obtain ⟨t,ht⟩:∃ t,v.text=t:=⟨_,rfl⟩
 rw [ht] at hl ⊢;have HT:=hid (aI ht (show t.size<=maxLen by unfold maxLen;omega));clear ht hl;have HCD:=hid (fun W=>xfd (k:=17) (by omega) W);go_enter func38,ntmps38
 go_upto_region 8 with fail
 have hA:=Blk.new w 25 #[.int .i64 17,.int .u64 v.num,.string t,.slice pk v.kids.length ck,.int .i64 v.of_,.slice pd v.desc.length cd];have HK1:=hid ((kR Nope w).alloc (.cells #[.int .i64 17,.int .u64 v.num,.string t,.slice pk v.kids.length ck,.int .i64 v.of_,.slice pd v.desc.length cd] 25));generalize w.alloc (.cells #[.int .i64 17,.int .u64 v.num,.string t,.slice pk v.kids.length ck,.int .i64 v.of_,.slice pd v.desc.length cd] 25)=W1 at hA HK1 ⊢;generalize w.heap.size=A at hA ⊢;have HM:Hid (∀ w',Kept Nope W1 w'->w'.cell? ⟨A,0,none⟩=some (.int .i64 17)/\w'.cell? ⟨A,2,none⟩=some (.string t)):=hid fun w' h=>⟨(hA.kept h (fun h=>h)).cell 0,(hA.kept h (fun h=>h)).cell 2⟩
 clear hA;obtain ⟨a0,a2⟩:=HM.out _ (kR _ W1).drew;have hN0:=(kR Nope W1).drew
 go_region_with (first | (go_at_call 96;refine (HCD.out _).mono ?_;rintro e w2 ⟨rfl,hk⟩;have hN:=‹Kept Nope W1 _›.trans' hk;obtain ⟨b0,b2⟩:=HM.out _ hN;(try replace H2:=hid (H2.out.keep hk (fun _ _ _ h=>h)));clear hk) | (refine xeu HT.out.2 ?_;intro p2 c2 w2 hb2 hk;have H2:=hid (hb2.mono (S':=fun b=>W1.heap.size<=b) fun b _ hb=>Nat.le_trans ‹Kept Nope W1 _›.size hb);have hN:=‹Kept Nope W1 _›.trans' hk;obtain ⟨b0,b2⟩:=HM.out _ hN;clear hb2 hk;go_simp))
 all_goals
  go_wp2;go_ret;have hk:=HK1.out.trans' (‹Kept Nope W1 _›.alloc (.cells #[.int .i64 (xaU 17),.slice p2 t.size c2] 64));refine ⟨_,[(xaU 17,bytesOf t)],rfl,⟨[⟨xaU 17,bytesOf t,.slice p2 t.size c2⟩],PRow.litL [⟨xaU 17,bytesOf t,.slice p2 t.size c2⟩] rfl (Nat.le_trans HK1.out.size (Kept.size ‹Kept Nope W1 _›)) (fun p hp => ?_) (by simp [maxLen]),rfl⟩,⟨fun p hp => ?_,⟨bytesOf t,by rw [HF.out.2.1];exact List.mem_singleton.2 rfl⟩,by simp⟩,HF.out.1.keep hk (fun h=>h),hk.nope⟩
  ·rw [List.mem_singleton.1 hp];exact H2.out.mono fun b _ hb=>Nat.le_trans HK1.out.size hb
  ·rw [List.mem_singleton.1 hp,<- HT.out.1];have h:=Form.wide (v:=v) (.inr HF.out.2.1) HF.out.2.2;rw [HF.out.2.1] at h;exact ⟨h,xfc 17⟩
set_option maxHeartbeats 6400000 in
theorem xoI (v:V) (f:Nat) (w:World) (x:Value) (hk:xay v.kind) (hnn:0<=v.num/\v.num<=18446744073709551615) (hf:xaT w f) (hx:VAgg (fun b=>b≠f) w x v) :
  Calls prog 38 #[.pointer (some ⟨f,0,none⟩),x] w (xcY f w (Forms v)):=by
 have hx':=hx;obtain ⟨ks,ds,rfl,hn,hks,hds⟩:=hx;have HX:=hid hx';obtain ⟨pk,ck,rfl,_⟩:=hks.form;obtain ⟨pd,cd,rfl,_⟩:=hds.form;have HF:=hid (aI hf (aI hk hnn));obtain ⟨k,hkk⟩:∃ k,v.kind=k:=⟨_,rfl⟩
 rw [hkk] at hk
 have HFX:Hid (NumFx k):=hid ⟨fun W=>xfd (by unfold xay at hk;omega) W,fun W=>by
  have h:=xeD k 0 W (.inl rfl) fun W=>xge k W (by unfold xay at hk;omega)
  rw [fsz_look hk,Int.sub_zero] at h
  exact h⟩
 have k0:(k == 0)=false:=by unfold xay at hk;simp;omega
 have k1:(k == 1)=false:=by unfold xay at hk;simp;omega
 have k14:(k == 14)=false:=by unfold xay at hk;simp;omega
 have k17:(k == 17)=false:=by unfold xay at hk;simp;omega
 have k18:(k == 18)=false:=by unfold xay at hk;simp;omega
 have k19:(k == 19)=false:=by unfold xay at hk;simp;omega
 have k20:(k == 20)=false:=by unfold xay at hk;simp;omega
 have k21:(k == 21)=false:=by unfold xay at hk;simp;omega
 have k22:(k == 22)=false:=by unfold xay at hk;simp;omega
 have k23:(k == 23)=false:=by unfold xay at hk;simp;omega
 have HK:=hid (aI hk hkk);clear hks hds hn hf hx' hk hnn;unfold vagg;rw [hkk];clear hkk;obtain ⟨n,hnn⟩:∃ n,v.num=n:=⟨_,rfl⟩
 have HN:=hid hnn;rw [hnn];clear hnn;go_enter func38,ntmps38;go_wp2_with (go_at_call 99;go_must (refine (xmT k n _ _ _ _ _ HK.out.1 (HN.out ▸ HF.out.2.2) HFX.out).mono ?_;rintro e w9 ⟨x9,rfl,hps9,hk9⟩;obtain ⟨p9,c9,rfl,_⟩:=hps9.form;have H9:=hid (aI hps9 (((kR Nope w).alloc _).trans' hk9));clear hps9 hk9));go_ret;have hfm:=Forms.num HF.out.2.1;refine ⟨_,_,rfl,H9.out.1.mono (by simp),?_,HF.out.1.keep H9.out.2 (fun h=>h),H9.out.2.nope⟩;have e:xbx v=xbx (.mk k n v.text [] 0 []):=by rw [<- HK.out.2,<- HN.out];rfl
 rw [<- e];exact hfm
set_option maxHeartbeats 6400000 in
theorem xpE (v:V) (f:Nat) (w:World) (x:Value) (h23:v.kind=23) (har:∀ (W:World) (x:Value),xaT W f->VAgg (fun b=>b≠f) W x v->Calls prog 98 #[.pointer (some ⟨f,0,none⟩),x] W (xcY f W (Forms v))) (hf:xaT w f) (hx:VAgg (fun b=>b≠f) w x v) :
  Calls prog 38 #[.pointer (some ⟨f,0,none⟩),x] w (xcY f w (Forms v)):=by
 have hx':=hx;obtain ⟨ks,ds,rfl,hn,hks,hds⟩:=hx;have HX:=hid hx';obtain ⟨pk,ck,rfl,_⟩:=hks.form;obtain ⟨pd,cd,rfl,_⟩:=hds.form;have HF:=hid (aI hf (aI h23 har));clear hks hds hn hf hx' har;unfold vagg at HX ⊢;rw [h23] at HX ⊢;clear h23;go_enter func38,ntmps38;go_wp2_with (go_at_call 98;go_must (refine (HF.out.2.2 _ _ (HF.out.1.keep ((kR Nope w).alloc _) (fun h=>h)) (HX.out.keep ((kR Nope w).alloc _) (fun _ _ _ h=>h))).mono ?_;rintro e w9 ⟨x9,fl,rfl,hps9,hfo,hat,hk9⟩;obtain ⟨p9,c9,rfl,_⟩:=hps9.form;have H9:=hid (aI hps9 (aI hfo (aI hat (((kR Nope w).alloc _).nope.trans' hk9))));clear hps9 hk9 hfo hat));go_ret;exact ⟨_,fl,rfl,H9.out.1.mono (by simp),H9.out.2.1,H9.out.2.2.1,H9.out.2.2.2⟩
end Go.Proofs.YtmdpodeegdjkeaaGreatDoor
section
namespace Go.Proofs.YtmdpodeegdjkeaaGreatDoor
open Go Go.RowKit
theorem room_le:∀ (n:Nat) (v:V),SizeOf.sizeOf v<=n->Fits v->v.room<=v.count*131092:=by
 intro n
 induction n using Nat.strongRecOn with
 | _ n ih =>
  intro v hn hf
  have hk:sumOf V.room v.kids<=sumOf V.count v.kids*131092:=by
   rw [<- xkG];exact xjE _ _ _ fun k hk=>ih (SizeOf.sizeOf k) (by have:=V.sizeOf_kid hk;omega) k (Nat.le_refl _) (hf.kid hk)
  have hd:sumOf V.room v.desc<=sumOf V.count v.desc*131092:=by
   rw [<- xkG];exact xjE _ _ _ fun k hk=>ih (SizeOf.sizeOf k) (by have:=V.sizeOf_desc hk;omega) k (Nat.le_refl _) (hf.descr hk)
  have:=hf.own.size;rw [V.room_eq,V.count_eq];omega
theorem xpN {S:Nat->Prop} {w:World} {s:Value} {l:List V} (h:VSl S w s l):∀ v ∈ l,Nums v:=by
 induction h with
 | nil a cap hc=>intro v hv;cases hv
 | mk b off cap l ks ds hb hl hc hm hcell _ _ ihk ihd =>
  intro v hv;obtain ⟨i,hi⟩:=List.mem_iff_getElem?.1 hv;exact .mk (hcell i v hi).1.num (ihk i v hi) (ihd i v hi)
theorem VAgg.nums {S:Nat->Prop} {w:World} {x:Value} {v:V} (h:VAgg S w x v):Nums v:=by
 obtain ⟨_,_,_,hn,h1,h2⟩:=h;exact .mk hn.num (xpN h1) (xpN h2)
end Go.Proofs.YtmdpodeegdjkeaaGreatDoor
end
namespace Go.Proofs.YtmdpodeegdjkeaaGreatDoor
open Go Go.RowKit Go.Lib Tryz
attribute [local go_sem ↓] Go.wp_at_zero Go.wp_at_succ
theorem xdP {l:List V} {k:V} (h:k ∈ l):k.room<=sumOf V.room l:=xkH V.room l k h
theorem EncL.len_take {l:List V} {j:Nat} {bs:List UInt8} (h:EncL (l.take j) bs):bs.length<=sumOf V.room l:=Nat.le_trans h.len (xfK V.room l j)
structure KInv (v:V) (f:Nat) (w w':World) (A:Nat) (cs:Array Value) (d:Value) (j:Nat) (bs:List UInt8):Prop where
 at_:xaT w' f
 kept:Kept (Only f) w w'
 box:Blk w' A 25 cs
 row:BRow (w.heap.size+1) w' d bs
 enc:EncL (v.kids.take j) bs
set_option maxHeartbeats 6400000 in
theorem xpG (v:V) (f:Nat) (w:World) (x:Value) (h21:v.kind=21) (hl:v.kids.length<=1000) (hroom:v.room<=1000000000) (ih:∀ k ∈ v.kids,xio k) (hf:xaT w f) (hx:VAgg (fun b=>b≠f) w x v) :
  Calls prog 38 #[.pointer (some ⟨f,0,none⟩),x] w (xcY f w (Forms v)):=by
 have hr:=v.room_eq;have HI:=hid (aI ih (show sumOf V.room v.kids<=1000000000 by omega));obtain ⟨ks,ds,rfl,hn,hks,hds⟩:=hx;have HKS:=hid hks;obtain ⟨pk,ck,rfl,_⟩:=hks.form;obtain ⟨pd,cd,rfl,_⟩:=hds.form;have HF:=hid (aI hf h21);obtain ⟨n,hnn⟩:∃ n,v.kids.length=n:=⟨_,rfl⟩
 have HL:=hid hnn;rw [hnn] at hl;clear hks hds hn hf hr ih hroom;unfold vagg;rw [h21,hnn];clear h21 hnn;go_enter func38,ntmps38;go_wp2;have hA:=Blk.new w 25 #[.int .i64 21,.int .u64 v.num,.string v.text,.slice pk n ck,.int .i64 v.of_,.slice pd v.desc.length cd];have HK1:=hid ((kR Nope w).alloc (.cells #[.int .i64 21,.int .u64 v.num,.string v.text,.slice pk n ck,.int .i64 v.of_,.slice pd v.desc.length cd] 25));have HA:=hid hA;generalize w.alloc (.cells #[.int .i64 21,.int .u64 v.num,.string v.text,.slice pk n ck,.int .i64 v.of_,.slice pd v.desc.length cd] 25)=W1 at HA HK1 ⊢;generalize hAe:w.heap.size=A at HA ⊢;have HAE:=hid hAe;clear hA hAe
 go_loopw [5,63] (fun d q w'=>∃ (j:Nat) (bs:List UInt8),j<=n/\q = .int .i64 j/\Hid (KInv v f w w' A #[.int .i64 21,.int .u64 v.num,.string v.text,.slice pk n ck,.int .i64 v.of_,.slice pd v.desc.length cd] d j bs)) (fun _ q _=>n - (RowKit.intOf q).toNat)
 case atStart=>exact ⟨0,[],by omega,rfl,hid ⟨HF.out.1.keep HK1.out (fun h=>h),HK1.out.nope,HA.out,BRow.nil _ _,.nil⟩⟩
 case round =>
  obtain ⟨j,bs,hj,rfl,HR⟩:=hrel;obtain ⟨pb,cb,hb⟩:=HR.out.row.form;subst hb
  by_cases hjn:j < n
  ·have hjn':(j:Int) < (n:Int):=by omega
   have hj0:(0:Int)<=(j:Int):=by omega
   have e1:IntKind.i64.wrap ((j:Int)+1)=(j:Int)+1:=IntWalk.i64_in _ (by omega);obtain ⟨u,hu⟩:∃ u,v.kids[j]? = some u:=⟨v.kids[j]'(by rw [HL.out];exact hjn),ge _⟩
   obtain ⟨b1,off1,cap1,pk1,ck1,pd1,cd1,q1,hvx,y0,y1,y2,y3,y4,y5⟩:=(HKS.out.keep HR.out.kept (fun b _ hb e=>hb e)).sixS hu;rw [HL.out] at q1;injection q1 with q1 _ q1'
   subst q1 q1';have HU:=hid (aI hu hvx);have HUM:=hid (gm hu);clear hu hvx;go_wp2_with (first | (go_at_call 14;go_must (refine (HI.out.1 u HUM.out _ f _ (HR.out.at_.keep ((kR Nope wr).alloc _) (fun h=>h)) (HU.out.2.keep ((kR Nope wr).alloc _) (fun _ _ _ h=>h))).mono ?_;rintro e w5 ⟨x5,be5,rfl,hb5,he5,hat5,hk5⟩;obtain ⟨p5,c5,rfl⟩:=hb5.form;have H5:=hid (aI hb5 (aI he5 (aI hat5 (((kR Nope wr).alloc _).nope.trans' hk5))));clear hb5 he5 hat5 hk5)) | (at_builtin;go_must (refine xbz _ (.tmp 67) (.tmp 70) rfl rfl (w.heap.size+1) _ _ rfl (HR.out.row.keep H5.out.2.2.2 (fun b hb e=>by have e':b=f:=e;have:=HF.out.1.lt;omega)) _ _ _ rfl H5.out.1.bsl (by have h1:=HR.out.enc.len_take;have h2:=H5.out.2.1.len;have h3:=xdP HUM.out;have h4:=HI.out.2;omega) (by have h1:=HR.out.box.lt;have h2:=H5.out.2.2.2.size;have h3:=HAE.out;omega) ?_;intro p6 c6 w6 ha6;have H6:=hid ha6;clear ha6)));go_roundw
   case rel =>
    have hk6:=(HR.out.kept.trans' H5.out.2.2.2).trans H6.out.2.1 (fun b hb e=>by have:=(HR.out.row.own b e);omega);refine ⟨j+1,bs ++ be5,by omega,by go_num,hid ⟨H5.out.2.2.1.keep H6.out.2.1 (fun e=>by have h1:=HR.out.row.own _ e;have:=HF.out.1.lt;omega),hk6,(HR.out.box.kept H5.out.2.2.2 (fun e=>by have e':A=f:=e;have h1:=HAE.out;have:=HF.out.1.lt;omega)).kept H6.out.2.1 (fun e=>by have h1:=HR.out.row.own _ e;have h2:=HAE.out;omega),H6.out.1,?_⟩⟩;rw [take_snoc HU.out.1];exact HR.out.enc.snoc H5.out.2.1
   case measure=>simp [RowKit.intOf];omega
  ·obtain rfl:j=n:=by omega
   have hlt:¬ (j:Int) < (j:Int):=by omega
   have a0:=HR.out.box.cell 0;have a3:=HR.out.box.cell 3;simp only [gt,gz,gs] at a0 a3;have HEN:=hid (show EncL v.kids bs by have h:=HR.out.enc;rwa [List.take_of_length_le (by rw [HL.out];exact Nat.le_refl _)] at h)
   by_cases hz:j=0
   ·subst hz;go_wp2_with (first | (go_at_call 97;go_must (refine (xbQ 0xc0 0xd0 _ bs ((0:Nat):Int) _ (HR.out.row.bsl.mono fun _ _ _=>trivial) (by have h1:=HEN.out.len;have h4:=HI.out.2;omega) (.inr ⟨by omega,by omega⟩)).mono ?_;rintro e w9 ⟨x9,rfl,hps9,hk9⟩;obtain ⟨l9,hr9,hl9⟩:=hps9;obtain ⟨p9,c9,rfl⟩:=hr9.form;have H9:=hid (aI hr9 (aI hl9 hk9));have b3:=(HR.out.box.kept hk9 (fun h=>h)).cell 3;simp only [gt,gz,gs] at b3;clear hr9 hl9 hk9)) | (at_builtin;go_must (refine xdF _ (.tmp 91) (.tmp 92) rfl rfl wr.heap.size _ _ rfl (PRow.lit ⟨69,[],.slice none 0 0⟩ H9.out.2.2.size (BSl.nil none 0 (by simp [maxLen]))) Any_ _ _ rfl ((H9.out.1.keep ((kR Nope _).alloc _) (fun _ _ h=>h)).toC.mono fun _ _=>trivial) (xhW H9.out.1) (by have h:=xcz 0xc0 0xd0 bs ((0:Nat):Int);rw [<- H9.out.2.1,lM] at h;simp only [lC,List.length_nil];omega) (by have h:=H9.out.2.2.size;rw [World.size_alloc];omega) ?_;intro p7 c7 w7 ha7;have H7:=hid ha7;clear ha7)));go_ret;have hk7:=(H9.out.2.2.alloc (.cells #[.int .i64 69,.slice none 0 0] 64)).trans H7.out.2 (fun b hb e=>by have e':=Option.some.inj e;dsimp only at e';have:=H9.out.2.2.size;omega);refine ⟨_,(0x45,[]) :: xbf 0xc0 0xd0 bs ((0:Nat):Int),rfl,PSl.mono ⟨_,H7.out.1,by rw [List.map_append,H9.out.2.1];rfl⟩ HR.out.kept.size,?_,HR.out.at_.keep hk7 (fun h=>h),HR.out.kept.trans' hk7.nope⟩;refine Forms.list0 ?_ (xcz _ _ _ _) HF.out.2 (List.eq_nil_of_length_eq_zero HL.out);rw [<- HL.out];exact Forms.kids (.inl HF.out.2) HEN.out (by rw [HF.out.2];rfl) (by rw [HF.out.2];rfl)
   ·have hz':((j:Int) == 0)=false:=by simp;omega
    clear hz;go_wp2_with (go_at_call 97;go_must (refine (xbQ 0xc0 0xd0 _ bs j _ (HR.out.row.bsl.mono fun _ _ _=>trivial) (by have h1:=HEN.out.len;have h4:=HI.out.2;omega) (.inr ⟨by omega,by omega⟩)).mono ?_;rintro e w9 ⟨x9,rfl,hps9,hk9⟩;obtain ⟨l9,hr9,hl9⟩:=hps9;obtain ⟨p9,c9,rfl⟩:=hr9.form;have H9:=hid (aI hr9 (aI hl9 hk9));have b3:=(HR.out.box.kept hk9 (fun h=>h)).cell 3;simp only [gt,gz,gs] at b3;clear hr9 hl9 hk9));go_ret;refine ⟨_,_,rfl,PSl.mono ⟨l9,H9.out.1,H9.out.2.1⟩ HR.out.kept.size,?_,HR.out.at_.keep H9.out.2.2 (fun h=>h),HR.out.kept.trans' H9.out.2.2.nope⟩;rw [<- HL.out];exact Forms.kids (.inl HF.out.2) HEN.out (by rw [HF.out.2];rfl) (by rw [HF.out.2];rfl)
set_option maxHeartbeats 6400000 in
theorem xpF (v:V) (f:Nat) (w:World) (x:Value) (h21:v.kind=22) (hl:v.kids.length<=1000) (hroom:v.room<=1000000000) (ih:∀ k ∈ v.kids,xio k) (hf:xaT w f) (hx:VAgg (fun b=>b≠f) w x v) :
  Calls prog 38 #[.pointer (some ⟨f,0,none⟩),x] w (xcY f w (Forms v)):=by
 have hr:=v.room_eq;have HI:=hid (aI ih (show sumOf V.room v.kids<=1000000000 by omega));obtain ⟨ks,ds,rfl,hn,hks,hds⟩:=hx;have HKS:=hid hks;obtain ⟨pk,ck,rfl,_⟩:=hks.form;obtain ⟨pd,cd,rfl,_⟩:=hds.form;have HF:=hid (aI hf h21);obtain ⟨n,hnn⟩:∃ n,v.kids.length=n:=⟨_,rfl⟩
 have HL:=hid hnn;rw [hnn] at hl;clear hks hds hn hf hr ih hroom;unfold vagg;rw [h21,hnn];clear h21 hnn;go_enter func38,ntmps38;go_wp2;have hA:=Blk.new w 25 #[.int .i64 22,.int .u64 v.num,.string v.text,.slice pk n ck,.int .i64 v.of_,.slice pd v.desc.length cd];have HK1:=hid ((kR Nope w).alloc (.cells #[.int .i64 22,.int .u64 v.num,.string v.text,.slice pk n ck,.int .i64 v.of_,.slice pd v.desc.length cd] 25));have HA:=hid hA;generalize w.alloc (.cells #[.int .i64 22,.int .u64 v.num,.string v.text,.slice pk n ck,.int .i64 v.of_,.slice pd v.desc.length cd] 25)=W1 at HA HK1 ⊢;generalize hAe:w.heap.size=A at HA ⊢;have HAE:=hid hAe;clear hA hAe
 go_loopw [5,63] (fun d q w'=>∃ (j:Nat) (bs:List UInt8),j<=n/\q = .int .i64 j/\Hid (KInv v f w w' A #[.int .i64 22,.int .u64 v.num,.string v.text,.slice pk n ck,.int .i64 v.of_,.slice pd v.desc.length cd] d j bs)) (fun _ q _=>n - (RowKit.intOf q).toNat)
 case atStart=>exact ⟨0,[],by omega,rfl,hid ⟨HF.out.1.keep HK1.out (fun h=>h),HK1.out.nope,HA.out,BRow.nil _ _,.nil⟩⟩
 case round =>
  obtain ⟨j,bs,hj,rfl,HR⟩:=hrel;obtain ⟨pb,cb,hb⟩:=HR.out.row.form;subst hb
  by_cases hjn:j < n
  ·have hjn':(j:Int) < (n:Int):=by omega
   have hj0:(0:Int)<=(j:Int):=by omega
   have e1:IntKind.i64.wrap ((j:Int)+1)=(j:Int)+1:=IntWalk.i64_in _ (by omega);obtain ⟨u,hu⟩:∃ u,v.kids[j]? = some u:=⟨v.kids[j]'(by rw [HL.out];exact hjn),ge _⟩
   obtain ⟨b1,off1,cap1,pk1,ck1,pd1,cd1,q1,hvx,y0,y1,y2,y3,y4,y5⟩:=(HKS.out.keep HR.out.kept (fun b _ hb e=>hb e)).sixS hu;rw [HL.out] at q1;injection q1 with q1 _ q1'
   subst q1 q1';have HU:=hid (aI hu hvx);have HUM:=hid (gm hu);clear hu hvx;go_wp2_with (first | (go_at_call 14;go_must (refine (HI.out.1 u HUM.out _ f _ (HR.out.at_.keep ((kR Nope wr).alloc _) (fun h=>h)) (HU.out.2.keep ((kR Nope wr).alloc _) (fun _ _ _ h=>h))).mono ?_;rintro e w5 ⟨x5,be5,rfl,hb5,he5,hat5,hk5⟩;obtain ⟨p5,c5,rfl⟩:=hb5.form;have H5:=hid (aI hb5 (aI he5 (aI hat5 (((kR Nope wr).alloc _).nope.trans' hk5))));clear hb5 he5 hat5 hk5)) | (at_builtin;go_must (refine xbz _ (.tmp 67) (.tmp 70) rfl rfl (w.heap.size+1) _ _ rfl (HR.out.row.keep H5.out.2.2.2 (fun b hb e=>by have e':b=f:=e;have:=HF.out.1.lt;omega)) _ _ _ rfl H5.out.1.bsl (by have h1:=HR.out.enc.len_take;have h2:=H5.out.2.1.len;have h3:=xdP HUM.out;have h4:=HI.out.2;omega) (by have h1:=HR.out.box.lt;have h2:=H5.out.2.2.2.size;have h3:=HAE.out;omega) ?_;intro p6 c6 w6 ha6;have H6:=hid ha6;clear ha6)));go_roundw
   case rel =>
    have hk6:=(HR.out.kept.trans' H5.out.2.2.2).trans H6.out.2.1 (fun b hb e=>by have:=(HR.out.row.own b e);omega);refine ⟨j+1,bs ++ be5,by omega,by go_num,hid ⟨H5.out.2.2.1.keep H6.out.2.1 (fun e=>by have h1:=HR.out.row.own _ e;have:=HF.out.1.lt;omega),hk6,(HR.out.box.kept H5.out.2.2.2 (fun e=>by have e':A=f:=e;have h1:=HAE.out;have:=HF.out.1.lt;omega)).kept H6.out.2.1 (fun e=>by have h1:=HR.out.row.own _ e;have h2:=HAE.out;omega),H6.out.1,?_⟩⟩;rw [take_snoc HU.out.1];exact HR.out.enc.snoc H5.out.2.1
   case measure=>simp [RowKit.intOf];omega
  ·obtain rfl:j=n:=by omega
   have hlt:¬ (j:Int) < (j:Int):=by omega
   have a0:=HR.out.box.cell 0;have a3:=HR.out.box.cell 3;simp only [gt,gz,gs] at a0 a3;have HEN:=hid (show EncL v.kids bs by have h:=HR.out.enc;rwa [List.take_of_length_le (by rw [HL.out];exact Nat.le_refl _)] at h);go_wp2_with (go_at_call 97;go_must (refine (xbQ 0xc1 0xd1 _ bs j _ (HR.out.row.bsl.mono fun _ _ _=>trivial) (by have h1:=HEN.out.len;have h4:=HI.out.2;omega) (.inr ⟨by omega,by omega⟩)).mono ?_;rintro e w9 ⟨x9,rfl,hps9,hk9⟩;obtain ⟨l9,hr9,hl9⟩:=hps9;obtain ⟨p9,c9,rfl⟩:=hr9.form;have H9:=hid (aI hr9 (aI hl9 hk9));clear hr9 hl9 hk9));go_ret;refine ⟨_,_,rfl,PSl.mono ⟨l9,H9.out.1,H9.out.2.1⟩ HR.out.kept.size,?_,HR.out.at_.keep H9.out.2.2 (fun h=>h),HR.out.kept.trans' H9.out.2.2.nope⟩;rw [<- HL.out];exact Forms.kids (.inr HF.out.2) HEN.out (by rw [HF.out.2];rfl) (by rw [HF.out.2];rfl)
end Go.Proofs.YtmdpodeegdjkeaaGreatDoor
